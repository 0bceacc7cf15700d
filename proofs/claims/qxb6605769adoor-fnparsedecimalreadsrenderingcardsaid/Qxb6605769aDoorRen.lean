import Derived.Test.Qxb6605769aDoorPlain
import Derived.Test.Qxb6605769aDoorMem
import Derived.OwnWalk
import Derived.Laws.IdiomStrings
namespace Go.Proofs.Qxb6605769aDoor
open Go.RowKit
set_option linter.unusedVariables false
set_option linter.unusedSimpArgs false

def cellsOfB (l : List UInt8) : List Value := l.map fun b => Value.int .u8 b.toNat
def Buf (w : World) (base : Nat) (v : Value) (l : List UInt8) : Prop := w.ownsRow base 5 1 v l.length (cellsOfB l)
theorem below_grown {w w' : World} {base : Nat} {v : Value} {l : List UInt8} (h : Buf w base v l) (hg : w.grownBy w' v.ownBlock) (hb : base ≤ w.heap.size) : Below base w w' :=
  ⟨hg.os, hg.tape, hg.output, hg.size, fun k hk => hg.block k (by omega) (fun e => by have := (World.ownsRow.lt h k e.symm).1; omega)⟩
theorem addp (b o j : Nat) : (⟨b, o, none⟩ : Addr).add j = ⟨b, o + j, none⟩ := by
  unfold Addr.add; split <;> simp_all
theorem cells_new (w : World) (cs : List Value) (t : TypeId) : ∀ j x, cs[j]? = some x → (w.alloc (.cells cs.toArray t)).cell? ((⟨w.heap.size, 0, none⟩ : Addr).add j) = some x := by
  intro j x hx
  have h : Has (w.alloc (.cells cs.toArray t)) w.heap.size cs t := Has.new cs t rfl
  rw [addp, Nat.zero_add]
  exact h.cell j hx
theorem Buf.of {w : World} {base : Nat} {v : Value} {l bs : List UInt8} {news : List Value} {k : Nat} (h : w.ownsRow base 5 1 v (l.length + k) (cellsOfB l ++ news)) (hk : bs.length = k) (hn : cellsOfB bs = news) : Buf w base v (l ++ bs) := by
  unfold Buf
  rw [List.length_append, hk, show cellsOfB (l ++ bs) = cellsOfB l ++ news from by rw [← hn]; simp [cellsOfB]]
  exact h
theorem info5 : (Tryd.prog.info? 5).map (fun i => (i.zero, i.size, i.bytes)) = some (some (.int .u8 0), 1, 1) := by kernel_rfl
theorem mk5 (n : Nat) (hn : n ≤ 1048576) (w : World) : ∃ cs : List Value, cs.length = n ∧ (Instr.makeSlice 31 (.int .i64 0) (.int .i64 (n : Int))).run Tryd.prog w = .ok (.slice (some ⟨w.heap.size, 0, none⟩) 0 n) (w.alloc (.cells cs.toArray 5)) := by
  obtain ⟨i0, hi, hz0, hz1, hz2⟩ := info_parts info5
  have := run_make (P := Tryd.prog) w 31 5 i0 _ Tryd.underlying31 hi hz0 .i64 .i64 0 n (by omega) (by omega) (by rw [hz2]; omega) (by omega)
  refine ⟨(madeCells (Value.int .u8 0).cells (n * 1)).toList, by simp [size_madeCells], ?_⟩
  rw [hz1] at this
  simpa using this

theorem dig_len : ∀ (k u : Nat), u < 10 ^ (k + 1) → (dig u).length ≤ k + 1
  | 0, u, h => by rw [dig, dif_pos (by omega)]; simp
  | k + 1, u, h => by
    rw [dig]
    split
    · simp
    · have h2 : u / 10 < 10 ^ (k + 1) := by
        rw [Nat.pow_succ] at h
        exact Nat.div_lt_of_lt_mul (by rw [Nat.mul_comm]; exact h)
      have := dig_len k (u / 10) h2
      simp
      omega

/-- the digits that stand in the array already -/
def Part (U v kk : Nat) (cs : List Value) : Prop := ∃ tl : List UInt8, dig U = dig v ++ tl ∧ kk + tl.length = 20 ∧ cs.length = 20 ∧ cs.drop kk = cellsOfB tl
theorem Part.pos {U v kk : Nat} {cs : List Value} (h : Part U v kk cs) (hU : U < 18446744073709551616) : 1 ≤ kk := by
  obtain ⟨tl, h1, h2, h3, h4⟩ := h
  have := dig_len 19 U (by omega)
  rw [h1, List.length_append] at this
  have hv : 0 < (dig v).length := List.length_pos_iff.2 (dig_ne v)
  omega
theorem drop_set (cs : List Value) (k : Nat) (x : Value) (h : k < cs.length) : (cs.set k x).drop k = x :: cs.drop (k + 1) := by
  rw [List.drop_eq_getElem_cons (by simpa using h), List.drop_set, if_pos (by omega)]
  simp
theorem Part.next {U v kk : Nat} {cs : List Value} (h : Part U v kk cs) (h1 : 1 ≤ kk) (hv : 10 ≤ v) : Part U (v / 10) (kk - 1) (cs.set (kk - 1) (.int .u8 (48 + (v : Int) % 10))) := by
  obtain ⟨tl, e1, e2, e3, e4⟩ := h
  refine ⟨(48 + v % 10).toUInt8 :: tl, ?_, by simp; omega, by simpa using e3, ?_⟩
  · rw [e1]
    conv => lhs; rw [dig, dif_neg (by omega)]
    simp
  · rw [drop_set _ _ _ (by omega), show kk - 1 + 1 = kk from by omega, e4]
    simp only [cellsOfB, List.map_cons, byte_toNat _ (Nat.mod_lt v (by omega : 0 < 10))]
    congr 2
theorem Part.last {U v kk : Nat} {cs : List Value} (h : Part U v kk cs) (h1 : 1 ≤ kk) (hv : v < 10) : (cs.set (kk - 1) (.int .u8 (48 + (v : Int)))).drop (kk - 1) = cellsOfB (dig U) ∧ kk - 1 + (dig U).length = 20 := by
  obtain ⟨tl, e1, e2, e3, e4⟩ := h
  have ed : dig v = [(48 + v).toUInt8] := by rw [dig, dif_pos hv]
  rw [ed] at e1
  rw [drop_set _ _ _ (by omega), show kk - 1 + 1 = kk from by omega, e4, e1]
  refine ⟨?_, by simp; omega⟩
  simp only [cellsOfB, List.map_append, List.map_cons, List.map_nil, byte_toNat v hv]
  rfl

theorem wrapU (U : Nat) (h : U ≤ 9223372036854775808) : IntKind.u64.wrap (-IntKind.u64.wrap (-(U : Int))) = (U : Int) := by
  have e : ∀ n : Int, IntKind.u64.wrap n = n % 18446744073709551616 := fun n => by simp [IntKind.wrap, IntKind.bits, IntKind.signed]
  rw [e, e]
  omega
theorem digit_at {cs : List Value} {m U j : Nat} (h : cs.drop m = cellsOfB (dig U)) (hm : m + (dig U).length = 20) (h1 : m ≤ j) (h2 : j < 20) : cs[j]? = some (.int .u8 ((dig U).getD (j - m) 0).toNat) := by
  have : (cs.drop m)[j - m]? = cs[j]? := by rw [List.getElem?_drop]; congr 1; omega
  rw [← this, h]
  have hl : j - m < (dig U).length := by omega
  simp [cellsOfB, List.getD, List.getElem?_eq_getElem hl]
theorem take_next (l : List UInt8) (k : Nat) (hk : k < l.length) : l.take (k + 1) = l.take k ++ [l.getD k 0] := by
  rw [List.take_succ_eq_append_getElem hk]
  simp [List.getD, List.getElem?_eq_getElem hk]
theorem Buf.conv {w : World} {base : Nat} {v : Value} {l : List UInt8} (h : Buf w base v l) (hl : l ≠ []) : (convert 31 9 v).run Tryd.prog w = .ok (.string ⟨l.toArray⟩) w := by
  have hn : l.length ≠ 0 := fun e => hl (List.length_eq_zero_iff.1 e)
  obtain ⟨h1, ⟨rfl, h2⟩ | ⟨g, cap, cur, rfl, hb, hg, hn, hm, hs, ht⟩⟩ := id h
  · omega
  · refine run_convert_bytes_back w 31 9 5 _ cap l Tryd.underlying31 Tryd.underlying5 Tryd.underlying9 fun j hj => ?_
    exact World.ownsRow.cells h (g := g) rfl j _ (by simp [cellsOfB, List.getElem?_eq_getElem hj])


set_option maxRecDepth 100000 in
set_option maxHeartbeats 2000000 in
theorem ren_neg (U : Nat) (z : Nat) (w : World) (h0 : 0 < U) (h1 : U ≤ 9223372036854775808) (hz : z ≤ 65536) :
    Calls Tryd.prog 8 #[.int .i64 (-(U : Int)), .int .i64 z] w fun e w' => e = .returned (.string ⟨([45] ++ (List.replicate z 48 ++ dig U)).toArray⟩) ∧ Below w.heap.size w w' := by
  have hn : -(U : Int) < 0 := by omega
  have hw := wrapU U h1
  obtain ⟨i0, hi0, hz0, hz1, hz2⟩ := info_parts info5
  have HR : Hid (∀ l, l = ([45] ++ (List.replicate z 48 ++ dig U)) → (⟨l.toArray⟩ : ByteArray) = ⟨([45] ++ (List.replicate z 48 ++ dig U)).toArray⟩) := fun l h => by rw [h]
  go_enter Tryd.func8, Tryd.ntmps8
  go_wp2_with fail
  go_loopw [5, 7] (fun u k wr => ∃ (v kk : Nat) (cs : List Value), u = .int .u64 v ∧ k = .int .i64 kk ∧ v ≤ U ∧ kk ≤ 20 ∧ Part U v kk cs ∧ Has wr w.heap.size cs 30 ∧ Below w.heap.size w wr) (fun u _ _ => (intOf u).toNat)
  case atStart => exact ⟨U, 20, _, by first | rfl | (rw [hw]), rfl, Nat.le_refl _, Nat.le_refl _, ⟨[], by simp, rfl, rfl, rfl⟩, Has.new [.int .u8 0, .int .u8 0, .int .u8 0, .int .u8 0, .int .u8 0, .int .u8 0, .int .u8 0, .int .u8 0, .int .u8 0, .int .u8 0, .int .u8 0, .int .u8 0, .int .u8 0, .int .u8 0, .int .u8 0, .int .u8 0, .int .u8 0, .int .u8 0, .int .u8 0, .int .u8 0] 30 rfl, (Below.refl _ _).alloc (Nat.le_refl _) _⟩
  case round =>
    obtain ⟨v, kk, cs, rfl, rfl, hvU, hkk, hP, Hc, hbel⟩ := hrel
    have hpos := hP.pos (by omega)
    obtain ⟨m, rfl⟩ : ∃ m, kk = m + 1 := ⟨kk - 1, by omega⟩
    have hcl : cs.length = 20 := by obtain ⟨_, _, _, h, _⟩ := hP; exact h
    obtain ⟨x0, hx0⟩ : ∃ x, cs[m]? = some x := ⟨_, List.getElem?_eq_getElem (by omega)⟩
    have e0 := Hc.cell m hx0
    clear hx0
    have e4 := Hc.frozen m
    have q0 : (0 : Int) ≤ (m : Int) := by omega
    have q1 : (m : Int) < 20 := by omega
    by_cases hv : 10 ≤ v
    · have HP : Hid (Part U (v / 10) m (cs.set m (.int .u8 (48 + (v : Int) % 10)))) := hP.next hpos hv
      have hv' : 10 ≤ (v : Int) := by omega
      clear hP hcl
      go_wp2
      go_roundw
      case rel => exact ⟨v / 10, m, _, by go_num, by go_num, by omega, by omega, HP.out, Hc.set m _, hbel.setCell (Nat.le_refl _) _⟩
      case measure => simp [intOf]; omega
    · have hL := hP.last hpos (by omega)
      rw [Nat.add_sub_cancel] at hL
      have hv' : ¬ 10 ≤ (v : Int) := by omega
      clear hP hcl
      generalize hcs' : cs.set m (.int .u8 (48 + (v : Int))) = cs' at *
      have Hc2 : Hid (Has (wr.setCell ⟨w.heap.size, m, none⟩ (.int .u8 (48 + (v : Int)))) w.heap.size cs' 30) := by
        show Has _ _ _ _; rw [← hcs']; exact Hc.set m _
      have hB2 : Below w.heap.size w (wr.setCell ⟨w.heap.size, m, none⟩ (.int .u8 (48 + (v : Int)))) := hbel.setCell (Nat.le_refl _) _
      have hlt := Hc.lt
      have hszW : (wr.setCell ⟨w.heap.size, m, none⟩ (.int .u8 (48 + (v : Int)))).heap.size = wr.heap.size := by simp
      obtain ⟨W2, v0, hmk, hB0, hA0, hw2, hs2⟩ : ∃ W2 v0, (Instr.makeSlice 31 (.int .i64 0) (.int .i64 (1 + (z : Int) + 20 - (m : Int)))).run Tryd.prog (wr.setCell ⟨w.heap.size, m, none⟩ (.int .u8 (48 + (v : Int)))) = .ok v0 W2 ∧
          Buf W2 (w.heap.size + 1) v0 [] ∧ Has W2 w.heap.size cs' 30 ∧ Below w.heap.size w W2 ∧ w.heap.size + 1 ≤ W2.heap.size := by
        obtain ⟨cz, hcz, hmk⟩ := mk5 (21 + z - m) (by omega) (wr.setCell ⟨w.heap.size, m, none⟩ (.int .u8 (48 + (v : Int))))
        rw [show ((21 + z - m : Nat) : Int) = 1 + (z : Int) + 20 - (m : Int) from by omega] at hmk
        exact ⟨_, _, hmk, World.ownsRow_made _ _ _ (by rw [hszW]; omega) (by unfold maxLen; omega) (by simp [hcz]), Hc2.out.alloc _, hB2.alloc (by rw [hszW]; omega) _, by simp; omega⟩
      have HL : Hid (cs'.drop m = cellsOfB (dig U) ∧ m + (dig U).length = 20) := hL
      have HB0 : Hid (Buf W2 (w.heap.size + 1) v0 []) := hB0
      clear hL hB0 Hc2 hB2 hcs' hszW
      go_wp2_with (at_builtin; refine wpList_append_own _ rfl _ _ 31 rfl (w.heap.size + 1) 5 i0 (.int .u8 0) 1 1 Tryd.underlying31 hi0 hz0 hz1 hz2 rfl (by decide) v0 _ _ rfl (World.ownsRow.alloc HB0.out _) ⟨W2.heap.size, 0, none⟩ 1 1 _ rfl (by rfl) (cells_new _ _ _) (by simp [Value.oneCell']) (by first | (unfold maxLen; omega) | (simp [maxLen]; done) | (simp [maxLen]; omega)) (by first | omega | (simp; done) | (simp; omega)) (by simp; omega) ?_)
      intro v1 w1 hown hgrow _
      have hgr : W2.grownBy w1 v0.ownBlock := (World.grownBy_alloc W2 _ _).trans hgrow
      have B : Below (w.heap.size + 1) W2 w1 := below_grown HB0.out hgr hs2
      have HB1 : Hid (Buf w1 (w.heap.size + 1) v1 [45]) := by
        show Buf w1 _ v1 _
        exact Buf.of (l := []) hown rfl rfl
      have hA1 := hA0.below B (by omega)
      have hw1 := hw2.trans (B.mono (by omega))
      have hs1 := Nat.le_trans hs2 B.size
      clear hgr hgrow hown B HB0 hA0 hmk
      go_wp2_with fail
      go_loopw [8, 9] (fun b i wr => ∃ (k : Nat), k ≤ z ∧ i = .int .i64 k ∧ Buf wr (w.heap.size + 1) b (([45] : List UInt8) ++ List.replicate k 48) ∧ Has wr w.heap.size cs' 30 ∧ Below w.heap.size w wr ∧ w.heap.size + 1 ≤ wr.heap.size) (fun _ i _ => z - (intOf i).toNat)
      case atStart => exact ⟨0, Nat.zero_le _, rfl, by simpa using HB1.out, hA1, hw1, hs1⟩
      case round =>
        obtain ⟨k, hk, rfl, hB, hA, hwq, hsq⟩ := hrel
        by_cases hlt2 : k < z
        · have hq : (k : Int) < (z : Int) := by omega
          generalize hPp : ([45] : List UInt8) ++ List.replicate k 48 = P at *
          have HPl : Hid (([45] : List UInt8) ++ List.replicate (k + 1) 48 = P ++ [48]) := by
            show _ = _
            rw [← hPp, List.replicate_succ', List.append_assoc]
          have hln : P.length ≤ 65537 := by rw [← hPp]; simp; omega
          have HB : Hid (Buf wr (w.heap.size + 1) u8 P) := hB
          clear hB hPp
          go_wp2_with (at_builtin; refine wpList_append_own _ rfl _ _ 31 rfl (w.heap.size + 1) 5 i0 (.int .u8 0) 1 1 Tryd.underlying31 hi0 hz0 hz1 hz2 rfl (by decide) u8 _ _ rfl (World.ownsRow.alloc HB.out _) ⟨wr.heap.size, 0, none⟩ 1 1 _ rfl (by rfl) (cells_new _ _ _) (by simp [Value.oneCell']) (by first | (unfold maxLen; omega) | (simp [maxLen]; done) | (simp [maxLen]; omega)) (by first | omega | (simp; done) | (simp; omega)) (by simp; omega) ?_)
          intro v' w5 hown hgrow _
          have hgr : wr.grownBy w5 u8.ownBlock := (World.grownBy_alloc wr _ _).trans hgrow
          have B : Below (w.heap.size + 1) wr w5 := below_grown HB.out hgr hsq
          have O : Hid (Buf w5 (w.heap.size + 1) v' (([45] : List UInt8) ++ List.replicate (k + 1) 48)) := by
            show Buf w5 _ v' _
            rw [HPl.out]
            exact Buf.of hown rfl rfl
          have hA5 := hA.below B (by omega)
          have hw5 := hwq.trans (B.mono (by omega))
          have hs5 := Nat.le_trans hsq B.size
          clear hgr hgrow hown B
          go_wp2
          go_roundw
          case rel => exact ⟨k + 1, hlt2, by go_num, O.out, hA5, hw5, hs5⟩
          case measure => simp [intOf]; omega
        · obtain rfl : k = z := by omega
          have hm20 : m ≤ 20 := by omega
          have HBz : Hid (Buf wr (w.heap.size + 1) u8 (([45] : List UInt8) ++ List.replicate k 48)) := hB
          clear hB
          go_wp2_with fail
          go_loopw [8, 10] (fun b i wr => ∃ (j : Nat), m ≤ j ∧ j ≤ 20 ∧ i = .int .i64 j ∧ Buf wr (w.heap.size + 1) b (([45] : List UInt8) ++ List.replicate k 48 ++ (dig U).take (j - m)) ∧ Has wr w.heap.size cs' 30 ∧ Below w.heap.size w wr ∧ w.heap.size + 1 ≤ wr.heap.size) (fun _ i _ => 20 - (intOf i).toNat)
          case atStart => exact ⟨m, Nat.le_refl _, hm20, rfl, by simpa using HBz.out, hA, hwq, hsq⟩
          case round =>
            obtain ⟨j, hj1, hj2, rfl, hB, hA3, hwp, hsp⟩ := hrel
            by_cases hlt3 : j < 20
            · have hq : (j : Int) < 20 := by omega
              have c0 := hA3.cell j (digit_at HL.out.1 HL.out.2 hj1 hlt3)
              have hdl : (dig U).length ≤ 20 := by have := HL.out.2; omega
              have hjl : j - m < (dig U).length := by have := HL.out.2; omega
              generalize hPp : ([45] : List UInt8) ++ List.replicate k 48 ++ (dig U).take (j - m) = P at *
              have HPl : Hid (([45] : List UInt8) ++ List.replicate k 48 ++ (dig U).take (j + 1 - m) = P ++ [(dig U).getD (j - m) 0]) := by
                show _ = _
                rw [← hPp, show j + 1 - m = j - m + 1 from by omega, take_next _ _ hjl, List.append_assoc, List.append_assoc, List.append_assoc]
              have hln : P.length ≤ 65560 := by rw [← hPp]; simp; omega
              have HB : Hid (Buf wr (w.heap.size + 1) u8 P) := hB
              clear hB hPp
              generalize (dig U).getD (j - m) 0 = x at *
              have r0 : (0 : Int) ≤ (j : Int) := by omega
              go_wp2_with (at_builtin; refine wpList_append_own _ rfl _ _ 31 rfl (w.heap.size + 1) 5 i0 (.int .u8 0) 1 1 Tryd.underlying31 hi0 hz0 hz1 hz2 rfl (by decide) u8 _ _ rfl (World.ownsRow.alloc HB.out _) ⟨wr.heap.size, 0, none⟩ 1 1 _ rfl (by rfl) (cells_new _ _ _) (by simp [Value.oneCell']) (by first | (unfold maxLen; omega) | (simp [maxLen]; done) | (simp [maxLen]; omega)) (by first | omega | (simp; done) | (simp; omega)) (by simp; omega) ?_)
              intro v' w5 hown hgrow _
              have hgr : wr.grownBy w5 u8.ownBlock := (World.grownBy_alloc wr _ _).trans hgrow
              have B : Below (w.heap.size + 1) wr w5 := below_grown HB.out hgr hsp
              have O : Hid (Buf w5 (w.heap.size + 1) v' (([45] : List UInt8) ++ List.replicate k 48 ++ (dig U).take (j + 1 - m))) := by
                show Buf w5 _ v' _
                rw [HPl.out]
                exact Buf.of hown rfl rfl
              have hA5 := hA3.below B (by omega)
              have hw5 := hwp.trans (B.mono (by omega))
              have hs5 := Nat.le_trans hsp B.size
              clear hgr hgrow hown B
              go_wp2
              go_roundw
              case rel => exact ⟨j + 1, by omega, hlt3, by go_num, O.out, hA5, hw5, hs5⟩
              case measure => simp [intOf]; omega
            · obtain rfl : j = 20 := by omega
              rw [List.take_of_length_le (by have := HL.out.2; omega)] at hB
              have hcv := hB.conv (by intro e; exact dig_ne U (List.append_eq_nil_iff.1 e).2)
              clear hB
              go_wp2
              go_ret
              exact ⟨by first | rfl | (simp; done), hwp⟩

set_option maxRecDepth 100000 in
set_option maxHeartbeats 2000000 in
theorem ren_nonneg (U : Nat) (z : Nat) (w : World) (h1 : U ≤ 9223372036854775807) (hz : z ≤ 65536) :
    Calls Tryd.prog 8 #[.int .i64 (U : Int), .int .i64 z] w fun e w' => e = .returned (.string ⟨([] ++ (List.replicate z 48 ++ dig U)).toArray⟩) ∧ Below w.heap.size w w' := by
  have hn : ¬ (U : Int) < 0 := by omega
  obtain ⟨i0, hi0, hz0, hz1, hz2⟩ := info_parts info5
  have HR : Hid (∀ l, l = ([] ++ (List.replicate z 48 ++ dig U)) → (⟨l.toArray⟩ : ByteArray) = ⟨([] ++ (List.replicate z 48 ++ dig U)).toArray⟩) := fun l h => by rw [h]
  go_enter Tryd.func8, Tryd.ntmps8
  go_wp2_with fail
  go_loopw [5, 7] (fun u k wr => ∃ (v kk : Nat) (cs : List Value), u = .int .u64 v ∧ k = .int .i64 kk ∧ v ≤ U ∧ kk ≤ 20 ∧ Part U v kk cs ∧ Has wr w.heap.size cs 30 ∧ Below w.heap.size w wr) (fun u _ _ => (intOf u).toNat)
  case atStart => exact ⟨U, 20, _, by first | rfl | (rw [hw]), rfl, Nat.le_refl _, Nat.le_refl _, ⟨[], by simp, rfl, rfl, rfl⟩, Has.new [.int .u8 0, .int .u8 0, .int .u8 0, .int .u8 0, .int .u8 0, .int .u8 0, .int .u8 0, .int .u8 0, .int .u8 0, .int .u8 0, .int .u8 0, .int .u8 0, .int .u8 0, .int .u8 0, .int .u8 0, .int .u8 0, .int .u8 0, .int .u8 0, .int .u8 0, .int .u8 0] 30 rfl, (Below.refl _ _).alloc (Nat.le_refl _) _⟩
  case round =>
    obtain ⟨v, kk, cs, rfl, rfl, hvU, hkk, hP, Hc, hbel⟩ := hrel
    have hpos := hP.pos (by omega)
    obtain ⟨m, rfl⟩ : ∃ m, kk = m + 1 := ⟨kk - 1, by omega⟩
    have hcl : cs.length = 20 := by obtain ⟨_, _, _, h, _⟩ := hP; exact h
    obtain ⟨x0, hx0⟩ : ∃ x, cs[m]? = some x := ⟨_, List.getElem?_eq_getElem (by omega)⟩
    have e0 := Hc.cell m hx0
    clear hx0
    have e4 := Hc.frozen m
    have q0 : (0 : Int) ≤ (m : Int) := by omega
    have q1 : (m : Int) < 20 := by omega
    by_cases hv : 10 ≤ v
    · have HP : Hid (Part U (v / 10) m (cs.set m (.int .u8 (48 + (v : Int) % 10)))) := hP.next hpos hv
      have hv' : 10 ≤ (v : Int) := by omega
      clear hP hcl
      go_wp2
      go_roundw
      case rel => exact ⟨v / 10, m, _, by go_num, by go_num, by omega, by omega, HP.out, Hc.set m _, hbel.setCell (Nat.le_refl _) _⟩
      case measure => simp [intOf]; omega
    · have hL := hP.last hpos (by omega)
      rw [Nat.add_sub_cancel] at hL
      have hv' : ¬ 10 ≤ (v : Int) := by omega
      clear hP hcl
      generalize hcs' : cs.set m (.int .u8 (48 + (v : Int))) = cs' at *
      have Hc2 : Hid (Has (wr.setCell ⟨w.heap.size, m, none⟩ (.int .u8 (48 + (v : Int)))) w.heap.size cs' 30) := by
        show Has _ _ _ _; rw [← hcs']; exact Hc.set m _
      have hB2 : Below w.heap.size w (wr.setCell ⟨w.heap.size, m, none⟩ (.int .u8 (48 + (v : Int)))) := hbel.setCell (Nat.le_refl _) _
      have hlt := Hc.lt
      have hszW : (wr.setCell ⟨w.heap.size, m, none⟩ (.int .u8 (48 + (v : Int)))).heap.size = wr.heap.size := by simp
      obtain ⟨W2, v0, hmk, hB0, hA0, hw2, hs2⟩ : ∃ W2 v0, (Instr.makeSlice 31 (.int .i64 0) (.int .i64 (1 + (z : Int) + 20 - (m : Int)))).run Tryd.prog (wr.setCell ⟨w.heap.size, m, none⟩ (.int .u8 (48 + (v : Int)))) = .ok v0 W2 ∧
          Buf W2 (w.heap.size + 1) v0 [] ∧ Has W2 w.heap.size cs' 30 ∧ Below w.heap.size w W2 ∧ w.heap.size + 1 ≤ W2.heap.size := by
        obtain ⟨cz, hcz, hmk⟩ := mk5 (21 + z - m) (by omega) (wr.setCell ⟨w.heap.size, m, none⟩ (.int .u8 (48 + (v : Int))))
        rw [show ((21 + z - m : Nat) : Int) = 1 + (z : Int) + 20 - (m : Int) from by omega] at hmk
        exact ⟨_, _, hmk, World.ownsRow_made _ _ _ (by rw [hszW]; omega) (by unfold maxLen; omega) (by simp [hcz]), Hc2.out.alloc _, hB2.alloc (by rw [hszW]; omega) _, by simp; omega⟩
      have HL : Hid (cs'.drop m = cellsOfB (dig U) ∧ m + (dig U).length = 20) := hL
      have HB0 : Hid (Buf W2 (w.heap.size + 1) v0 []) := hB0
      clear hL hB0 Hc2 hB2 hcs' hszW
      have HB1 := HB0
      have hA1 := hA0
      have hw1 := hw2
      have hs1 := hs2
      clear HB0 hA0
      go_wp2_with fail
      go_loopw [8, 9] (fun b i wr => ∃ (k : Nat), k ≤ z ∧ i = .int .i64 k ∧ Buf wr (w.heap.size + 1) b (([] : List UInt8) ++ List.replicate k 48) ∧ Has wr w.heap.size cs' 30 ∧ Below w.heap.size w wr ∧ w.heap.size + 1 ≤ wr.heap.size) (fun _ i _ => z - (intOf i).toNat)
      case atStart => exact ⟨0, Nat.zero_le _, rfl, by simpa using HB1.out, hA1, hw1, hs1⟩
      case round =>
        obtain ⟨k, hk, rfl, hB, hA, hwq, hsq⟩ := hrel
        by_cases hlt2 : k < z
        · have hq : (k : Int) < (z : Int) := by omega
          generalize hPp : ([] : List UInt8) ++ List.replicate k 48 = P at *
          have HPl : Hid (([] : List UInt8) ++ List.replicate (k + 1) 48 = P ++ [48]) := by
            show _ = _
            rw [← hPp, List.replicate_succ', List.append_assoc]
          have hln : P.length ≤ 65537 := by rw [← hPp]; simp; omega
          have HB : Hid (Buf wr (w.heap.size + 1) u8 P) := hB
          clear hB hPp
          go_wp2_with (at_builtin; refine wpList_append_own _ rfl _ _ 31 rfl (w.heap.size + 1) 5 i0 (.int .u8 0) 1 1 Tryd.underlying31 hi0 hz0 hz1 hz2 rfl (by decide) u8 _ _ rfl (World.ownsRow.alloc HB.out _) ⟨wr.heap.size, 0, none⟩ 1 1 _ rfl (by rfl) (cells_new _ _ _) (by simp [Value.oneCell']) (by first | (unfold maxLen; omega) | (simp [maxLen]; done) | (simp [maxLen]; omega)) (by first | omega | (simp; done) | (simp; omega)) (by simp; omega) ?_)
          intro v' w5 hown hgrow _
          have hgr : wr.grownBy w5 u8.ownBlock := (World.grownBy_alloc wr _ _).trans hgrow
          have B : Below (w.heap.size + 1) wr w5 := below_grown HB.out hgr hsq
          have O : Hid (Buf w5 (w.heap.size + 1) v' (([] : List UInt8) ++ List.replicate (k + 1) 48)) := by
            show Buf w5 _ v' _
            rw [HPl.out]
            exact Buf.of hown rfl rfl
          have hA5 := hA.below B (by omega)
          have hw5 := hwq.trans (B.mono (by omega))
          have hs5 := Nat.le_trans hsq B.size
          clear hgr hgrow hown B
          go_wp2
          go_roundw
          case rel => exact ⟨k + 1, hlt2, by go_num, O.out, hA5, hw5, hs5⟩
          case measure => simp [intOf]; omega
        · obtain rfl : k = z := by omega
          have hm20 : m ≤ 20 := by omega
          have HBz : Hid (Buf wr (w.heap.size + 1) u8 (([] : List UInt8) ++ List.replicate k 48)) := hB
          clear hB
          go_wp2_with fail
          go_loopw [8, 10] (fun b i wr => ∃ (j : Nat), m ≤ j ∧ j ≤ 20 ∧ i = .int .i64 j ∧ Buf wr (w.heap.size + 1) b (([] : List UInt8) ++ List.replicate k 48 ++ (dig U).take (j - m)) ∧ Has wr w.heap.size cs' 30 ∧ Below w.heap.size w wr ∧ w.heap.size + 1 ≤ wr.heap.size) (fun _ i _ => 20 - (intOf i).toNat)
          case atStart => exact ⟨m, Nat.le_refl _, hm20, rfl, by simpa using HBz.out, hA, hwq, hsq⟩
          case round =>
            obtain ⟨j, hj1, hj2, rfl, hB, hA3, hwp, hsp⟩ := hrel
            by_cases hlt3 : j < 20
            · have hq : (j : Int) < 20 := by omega
              have c0 := hA3.cell j (digit_at HL.out.1 HL.out.2 hj1 hlt3)
              have hdl : (dig U).length ≤ 20 := by have := HL.out.2; omega
              have hjl : j - m < (dig U).length := by have := HL.out.2; omega
              generalize hPp : ([] : List UInt8) ++ List.replicate k 48 ++ (dig U).take (j - m) = P at *
              have HPl : Hid (([] : List UInt8) ++ List.replicate k 48 ++ (dig U).take (j + 1 - m) = P ++ [(dig U).getD (j - m) 0]) := by
                show _ = _
                rw [← hPp, show j + 1 - m = j - m + 1 from by omega, take_next _ _ hjl, List.append_assoc, List.append_assoc, List.append_assoc]
              have hln : P.length ≤ 65560 := by rw [← hPp]; simp; omega
              have HB : Hid (Buf wr (w.heap.size + 1) u8 P) := hB
              clear hB hPp
              generalize (dig U).getD (j - m) 0 = x at *
              have r0 : (0 : Int) ≤ (j : Int) := by omega
              go_wp2_with (at_builtin; refine wpList_append_own _ rfl _ _ 31 rfl (w.heap.size + 1) 5 i0 (.int .u8 0) 1 1 Tryd.underlying31 hi0 hz0 hz1 hz2 rfl (by decide) u8 _ _ rfl (World.ownsRow.alloc HB.out _) ⟨wr.heap.size, 0, none⟩ 1 1 _ rfl (by rfl) (cells_new _ _ _) (by simp [Value.oneCell']) (by first | (unfold maxLen; omega) | (simp [maxLen]; done) | (simp [maxLen]; omega)) (by first | omega | (simp; done) | (simp; omega)) (by simp; omega) ?_)
              intro v' w5 hown hgrow _
              have hgr : wr.grownBy w5 u8.ownBlock := (World.grownBy_alloc wr _ _).trans hgrow
              have B : Below (w.heap.size + 1) wr w5 := below_grown HB.out hgr hsp
              have O : Hid (Buf w5 (w.heap.size + 1) v' (([] : List UInt8) ++ List.replicate k 48 ++ (dig U).take (j + 1 - m))) := by
                show Buf w5 _ v' _
                rw [HPl.out]
                exact Buf.of hown rfl rfl
              have hA5 := hA3.below B (by omega)
              have hw5 := hwp.trans (B.mono (by omega))
              have hs5 := Nat.le_trans hsp B.size
              clear hgr hgrow hown B
              go_wp2
              go_roundw
              case rel => exact ⟨j + 1, by omega, hlt3, by go_num, O.out, hA5, hw5, hs5⟩
              case measure => simp [intOf]; omega
            · obtain rfl : j = 20 := by omega
              rw [List.take_of_length_le (by have := HL.out.2; omega)] at hB
              have hcv := hB.conv (by intro e; exact dig_ne U (List.append_eq_nil_iff.1 e).2)
              clear hB
              go_wp2
              go_ret
              exact ⟨by first | rfl | (simp; done), hwp⟩
end Go.Proofs.Qxb6605769aDoor
