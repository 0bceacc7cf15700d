import Derived.Test.Qxb6614379aChk
namespace Go.Proofs.Qxb6614379a
open Go.RowKit
set_option linter.unusedVariables false
set_option linter.unusedSimpArgs false

/-- the place of index k once i < j are gone -/
def mk (i j k : Nat) : Nat := k - (if i < k then 1 else 0) - (if j < k then 1 else 0)
theorem mk_a {α : Type} (L : List α) {i j k : Nat} (hij : i < j) (hi : k ≠ i) (hj : k ≠ j) : ((L.eraseIdx j).eraseIdx i)[mk i j k]? = L[k]? := by
  rw [List.getElem?_eraseIdx, List.getElem?_eraseIdx, List.getElem?_eraseIdx]
  unfold mk
  by_cases h1 : i < k <;> by_cases h2 : j < k
  · simp only [h1, h2, if_true]
    rw [if_neg (by omega), if_neg (by omega)]
    congr 1; omega
  · simp only [h1, h2, if_true, if_false]
    rw [if_neg (by omega), if_pos (by omega)]
    congr 1; omega
  · omega
  · simp only [h1, h2, if_false]
    rw [if_pos (by omega), if_pos (by omega)]
    congr 1
theorem mk_b {α : Type} (L : List α) {i j k : Nat} (hij : i < j) (hi : k ≠ i) (hj : k ≠ j) : ((L.eraseIdx i).eraseIdx (j - 1))[mk i j k]? = L[k]? := by
  rw [List.getElem?_eraseIdx, List.getElem?_eraseIdx, List.getElem?_eraseIdx]
  unfold mk
  by_cases h1 : i < k <;> by_cases h2 : j < k
  · simp only [h1, h2, if_true]
    rw [if_neg (by omega), if_neg (by omega)]
    congr 1; omega
  · simp only [h1, h2, if_true, if_false]
    rw [if_pos (by omega), if_neg (by omega)]
    congr 1; omega
  · omega
  · simp only [h1, h2, if_false]
    rw [if_pos (by omega), if_pos (by omega)]
    congr 1
theorem mk_skip {i j k : Nat} (hij : i < j) (h : k = i ∨ k = j) : mk i j (k + 1) = mk i j k := by
  unfold mk
  rcases h with rfl | rfl
  · rw [if_pos (by omega), if_neg (by omega), if_neg (by omega), if_neg (by omega)]; omega
  · rw [if_pos (by omega), if_pos (by omega), if_pos (by omega), if_neg (by omega)]; omega
theorem mk_next {i j k : Nat} (hij : i < j) (hi : k ≠ i) (hj : k ≠ j) : mk i j (k + 1) = mk i j k + 1 := by
  unfold mk
  by_cases h1 : i < k <;> by_cases h2 : j < k
  · rw [if_pos (by omega), if_pos (by omega), if_pos h1, if_pos h2]; omega
  · rw [if_pos (by omega), if_neg (by omega), if_pos h1, if_neg h2]; omega
  · omega
  · rw [if_neg (by omega), if_neg (by omega), if_neg h1, if_neg h2]; omega
theorem mk_le (i j k : Nat) : mk i j k ≤ k := by unfold mk; omega
theorem at_of {L : Acs} {xs : List At} (h : L.map (·.1) = xs) {k : Nat} (hk : k < xs.length) : ∃ p, L[k]? = some (xs.getD k atD, p) := by
  subst h
  simp only [List.length_map] at hk
  refine ⟨L[k].2, ?_⟩
  rw [List.getElem?_eq_getElem hk]
  simp [List.getD, List.getElem?_eq_getElem hk]

set_option maxRecDepth 100000 in
set_option maxHeartbeats 2000000 in
theorem twice_main (wn : ByteArray) (la : Int) (u : ByteArray) (a : Option Addr) (cap : Nat) (xs : List At) (i j : Nat) (w0 : World) (hrow : AttrsAt w0 a xs) (h1 : wn.size ≤ 65536) (h2 : u.size ≤ 65536) (hx : xs.length ≤ 4096)
    (hij : i < j) (hjn : j < xs.length) :
    Calls Try.prog 7 #[.string wn, .int .i64 la, .string u, .slice a xs.length cap, .int .i64 i, .int .i64 j] w0 fun e w' => e = .returned (.bool true) ∧ Below w0.heap.size w0 w' := by
  have h28 := bytes28 wn la u a cap xs i j w0 hrow (by unfold maxLen; omega) (by unfold maxLen; omega) (by unfold maxLen; omega)
  have h29 := fit29 wn u a cap xs w0 hrow h1 h2 hx
  have Hrow0 : Hid (AttrsAt w0 a xs) := hrow
  clear hrow
  go_enter Try.func7, Try.ntmps7
  go_wp2_with fail
  refine h28.mono ?_
  rintro e w' ⟨⟨b, rfl⟩, hw⟩
  obtain rfl := hw.symm
  clear h28
  cases b with
  | false =>
    go_wp2
    go_ret
    exact ⟨rfl, Below.refl _ _⟩
  | true =>
  go_wp2_with fail
  refine h29.mono ?_
  rintro e w ⟨⟨b, rfl⟩, n29, hw29⟩
  have Bw0 : Below w0.heap.size w0 w := by rw [hw29]; exact below_drewN (Below.refl _ _) _
  have Hsz : Hid (w.heap.size = w0.heap.size) := by show w.heap.size = _; rw [hw29]; rfl
  clear hw29 h29
  have Hrow : Hid (AttrsAt w a xs) := Hrow0.out.later Bw0
  cases b with
  | false =>
    go_wp2
    go_ret
    exact ⟨rfl, Bw0⟩
  | true =>
  go_wp2_with fail
  refine (qn20 wn la w h1).mono ?_
  rintro e w' ⟨⟨b, rfl⟩, hw'⟩
  obtain rfl := hw'.symm
  cases b with
  | false =>
    go_wp2
    go_ret
    exact ⟨rfl, Bw0⟩
  | true =>
  go_wp2_with fail
  refine (build_any wn la u a cap xs w Hrow.out (by omega)).mono ?_
  rintro r w1 ⟨e0, L, rfl, hL, E0, b1⟩
  have hLl : L.length = xs.length := by rw [← hL]; simp
  have HL : Hid (L.map (·.1) = xs) := hL
  have HLl : Hid (L.length = xs.length) := hLl
  clear hL hLl
  have E0' : Hid (ElemAt w1 w.heap.size e0 wn L) := E0
  have c1 := zzwithout_any w.heap.size e0 wn L j w1 E0 (by rw [HLl.out]; omega) (by rw [HLl.out]; omega)
  clear E0
  go_wp2_with fail
  refine c1.mono ?_
  rintro r w2 ⟨e1, rfl, E1, b2⟩
  clear c1
  have c2 := zzwithout_any w1.heap.size e1 wn (L.eraseIdx j) i w2 E1 (by have := HLl.out; rw [List.length_eraseIdx]; split <;> omega) (by have := HLl.out; rw [List.length_eraseIdx]; split <;> omega)
  clear E1
  go_wp2_with fail
  refine c2.mono ?_
  rintro r w3 ⟨e2, rfl, E2, b3⟩
  clear c2
  have E2' : Hid (ElemAt w3 w2.heap.size e2 wn ((L.eraseIdx j).eraseIdx i)) := E2
  clear E2
  have b13 : Below w1.heap.size w1 w3 := b2.trans (b3.mono b2.size)
  have c3 := zzwithout_any w.heap.size e0 wn L i w3 (E0'.out.later b13) (by rw [HLl.out]; omega) (by rw [HLl.out]; omega)
  go_wp2_with fail
  refine c3.mono ?_
  rintro r w4 ⟨e3, rfl, E3, b4⟩
  clear c3
  have c4 := zzwithout_any w3.heap.size e3 wn (L.eraseIdx i) (j - 1) w4 E3 (by have := HLl.out; rw [List.length_eraseIdx]; split <;> omega) (by have := HLl.out; rw [List.length_eraseIdx]; split <;> omega)
  rw [show (((j - 1 : Nat) : Nat) : Int) = (j : Int) - 1 from by omega] at c4
  clear E3
  go_wp2_with fail
  refine c4.mono ?_
  rintro r w5 ⟨e4, rfl, E4, b5⟩
  clear c4
  have b35 : Below w3.heap.size w3 w5 := b4.trans (b5.mono b4.size)
  have b15 : Below w1.heap.size w1 w5 := b13.trans (b35.mono b13.size)
  have EA : Hid (ElemAt w5 w2.heap.size e2 wn ((L.eraseIdx j).eraseIdx i)) := E2'.out.later b35
  have EB : Hid (ElemAt w5 w4.heap.size e4 wn ((L.eraseIdx i).eraseIdx (j - 1))) := E4
  have EL : Hid (ElemAt w5 w.heap.size e0 wn L) := E0'.out.later b15
  have BW : Below w0.heap.size w0 w5 := by
    have h01 := Hsz.out
    have hw15 : Below w.heap.size w w5 := b1.trans (b15.mono b1.size)
    rw [h01] at hw15
    exact Bw0.trans hw15
  have HR5 : Hid (AttrsAt w5 a xs) := Hrow.out.later (b1.trans (b15.mono b1.size))
  have ca := count_any _ e2 wn _ w5 EA.out
  have cb := count_any _ e4 wn _ w5 EB.out
  have hla : ((((L.eraseIdx j).eraseIdx i).length : Nat) : Int) = (xs.length : Int) - 2 := by
    have := HLl.out
    rw [List.length_eraseIdx, List.length_eraseIdx]
    split <;> split <;> omega
  have hlb : ((((L.eraseIdx i).eraseIdx (j - 1)).length : Nat) : Int) = (xs.length : Int) - 2 := by
    have := HLl.out
    rw [List.length_eraseIdx, List.length_eraseIdx]
    split <;> split <;> omega
  rw [hla] at ca
  rw [hlb] at cb
  have Hla : Hid (((L.eraseIdx j).eraseIdx i).length ≤ 10000) := by show _ ≤ _; omega
  have Hlb : Hid (((L.eraseIdx i).eraseIdx (j - 1)).length ≤ 10000) := by show _ ≤ _; omega
  clear b2 b3 b4 b5 b13 b35 b15 b1 E2' E0' E4 hla hlb Bw0
  go_wp2_with fail
  refine ca.mono ?_
  rintro r w' ⟨rfl, hw6⟩
  obtain rfl := hw6.symm
  clear ca
  go_wp2_with fail
  refine cb.mono ?_
  rintro r w' ⟨rfl, hw7⟩
  obtain rfl := hw7.symm
  clear cb
  go_wp2_with fail
  go_loopw [17, 18] (fun m i' wr => ∃ k : Nat, k ≤ xs.length ∧ i' = .int .i64 k ∧ m = .int .i64 (mk i j k) ∧ Below w5.heap.size w5 wr) (fun _ i' _ => xs.length - (intOf i').toNat)
  case atStart => exact ⟨0, Nat.zero_le _, rfl, by simp [mk], Below.refl _ _⟩
  case round =>
    obtain ⟨k, hk, rfl, rfl, hbr⟩ := hrel
    have hmk := mk_le i j k
    by_cases hlt : k < xs.length
    · by_cases hskip : k = i ∨ k = j
      · have Hn : Hid (mk i j (k + 1) = mk i j k) := mk_skip hij hskip
        by_cases hki : k = i
        · have hq : ((k : Int) == (i : Int)) = true := by rw [beq_iff_eq]; omega
          clear hskip hki
          go_wp2
          go_roundw
          case rel => exact ⟨k + 1, hlt, by go_num, by rw [Hn.out], hbr⟩
          case measure => simp [intOf]; omega
        · have hq : ((k : Int) == (i : Int)) = false := by rw [beq_eq_false_iff_ne]; omega
          have hq2 : ((k : Int) == (j : Int)) = true := by rw [beq_iff_eq]; omega
          clear hskip hki
          go_wp2
          go_roundw
          case rel => exact ⟨k + 1, hlt, by go_num, by rw [Hn.out], hbr⟩
          case measure => simp [intOf]; omega
      · have hki : k ≠ i := fun h => hskip (.inl h)
        have hkj : k ≠ j := fun h => hskip (.inr h)
        have Hn : Hid (mk i j (k + 1) = mk i j k + 1) := mk_next hij hki hkj
        obtain ⟨p, hp⟩ := at_of HL.out hlt
        have ga := mk_a L hij hki hkj
        have gb := mk_b L hij hki hkj
        rw [hp] at ga gb
        have hq : ((k : Int) == (i : Int)) = false := by rw [beq_eq_false_iff_ne]; omega
        have hq2 : ((k : Int) == (j : Int)) = false := by rw [beq_eq_false_iff_ne]; omega
        rcases HR5.out.later hbr with h | ⟨b, off, rfl, hbl, hcc⟩
        · omega
        obtain ⟨d0, d1, d2, d3⟩ := hcc k hlt
        have ia := attrIs_any _ e2 wn _ _ _ wr (EA.out.later hbr) ga (Nat.le_trans Hla.out (by decide))
        have HGB : Hid (((L.eraseIdx i).eraseIdx (j - 1))[mk i j k]? = some (xs.getD k atD, p)) := gb
        clear hcc hskip hki hkj ga gb hp
        generalize xs.getD k atD = x at *
        go_wp2_with fail
        refine ia.mono ?_
        rintro r w8 ⟨rfl, b8⟩
        clear ia
        have f0 := cell_later b8 d0
        have f1 := cell_later b8 d1
        have f2 := cell_later b8 d2
        have f3 := cell_later b8 d3
        have hbr8 := hbr.trans (b8.mono hbr.size)
        have ib := attrIs_any _ e4 wn _ _ _ w8 (EB.out.later hbr8) HGB.out (Nat.le_trans Hlb.out (by decide))
        clear d0 d1 d2 d3 b8 hbl
        go_wp2_with fail
        refine ib.mono ?_
        rintro r w9 ⟨rfl, b9⟩
        clear ib f0 f1 f2 f3
        have hbr9 := hbr8.trans (b9.mono hbr8.size)
        go_wp2
        go_roundw
        case rel => exact ⟨k + 1, hlt, by go_num, by rw [Hn.out]; go_num, hbr9⟩
        case measure => simp [intOf]; omega
    · obtain rfl : k = xs.length := by omega
      obtain ⟨W, rfl⟩ : ∃ W : World, W = wr := ⟨_, rfl⟩
      have cl := count_any _ e0 wn _ W (EL.out.later hbr)
      rw [HLl.out] at cl
      go_wp2_with fail
      refine cl.mono ?_
      rintro r w' ⟨rfl, hw8⟩
      obtain rfl := hw8.symm
      clear cl
      go_wp2_with fail
      go_loopw [19] (fun i' wr => ∃ k : Nat, k ≤ xs.length ∧ i' = .int .i64 k ∧ Below w5.heap.size w5 wr) (fun i' _ => xs.length - (intOf i').toNat)
      case atStart => exact ⟨0, Nat.zero_le _, rfl, hbr⟩
      case round =>
        clear hbr
        obtain ⟨k, hk, rfl, hbr⟩ := hrel
        by_cases hlt : k < xs.length
        · obtain ⟨p, hp⟩ := at_of HL.out hlt
          rcases HR5.out.later hbr with h | ⟨b, off, rfl, hbl, hcc⟩
          · omega
          obtain ⟨d0, d1, d2, d3⟩ := hcc k hlt
          have ia := attrIs_any _ e0 wn _ _ _ wr (EL.out.later hbr) hp (by rw [HLl.out]; omega)
          clear hcc hp
          generalize xs.getD k atD = x at *
          go_wp2_with fail
          refine ia.mono ?_
          rintro r w8 ⟨rfl, b8⟩
          clear ia d0 d1 d2 d3
          have hbr8 := hbr.trans (b8.mono hbr.size)
          go_wp2
          go_roundw
          case rel => exact ⟨k + 1, hlt, by go_num, hbr8⟩
          case measure => simp [intOf]; omega
        · have qa := qname_any _ e2 wn _ wr (EA.out.later hbr)
          have qb := qname_any _ e4 wn _ wr (EB.out.later hbr)
          have hqq : (wn.toList == wn.toList) = true := by simp
          go_wp2_with fail
          refine qa.mono ?_
          rintro r w' ⟨rfl, hw9⟩
          obtain rfl := hw9.symm
          clear qa
          go_wp2_with fail
          refine qb.mono ?_
          rintro r w' ⟨rfl, hw10⟩
          obtain rfl := hw10.symm
          clear qb
          go_wp2
          go_ret
          exact ⟨rfl, BW.trans (hbr.mono BW.size)⟩

end Go.Proofs.Qxb6614379a
