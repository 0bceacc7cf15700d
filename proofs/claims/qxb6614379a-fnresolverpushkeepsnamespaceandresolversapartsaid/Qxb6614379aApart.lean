import Derived.Test.Qxb6614379aGrp
import Derived.BigQuiet
import Derived.Deep.RegionWith
namespace Go.Proofs.Qxb6614379a
open Go.RowKit
set_option linter.unusedVariables false
set_option linter.unusedSimpArgs false

theorem mk30 (n : Nat) (hn : n ≤ 1048576) (w : World) : ∃ cs : List Value, cs.length = n ∧ (Instr.makeSlice 37 (.int .i64 (n : Int)) (.int .i64 (n : Int))).run Try.prog w = .ok (.slice (some ⟨w.heap.size, 0, none⟩) n n) (w.alloc (.cells cs.toArray 30)) := by
  obtain ⟨i0, hi, hz0, hz1, hz2⟩ := info_parts info30
  have := run_make (P := Try.prog) w 37 30 i0 _ Try.underlying37 hi hz0 .i64 .i64 n n (by omega) (by omega) (by rw [hz2]; omega) (by omega)
  refine ⟨(madeCells (Value.pointer none).cells (n * 1)).toList, by simp [size_madeCells], ?_⟩
  rw [hz1] at this
  simpa using this

theorem info68 : (Try.prog.info? 68).isSome = true := by kernel_rfl
theorem neq30 (p : Option Addr) (w : World) : (binOp .neq 30 (.pointer p) (.pointer p)).run Try.prog w = .ok (.bool false) w := by
  obtain ⟨j, hte⟩ := Option.isSome_iff_exists.1 info68
  have h : ∀ d : Nat, (Op.equalIn (d + 1) 30 (.pointer p) (.pointer p)).run Try.prog w = .ok true w := fun d => by
    cases p with
    | none => simp [Op.equalIn, run_underlying Try.underlying30]
    | some a => simp [Op.equalIn, run_underlying Try.underlying30, sizeOf, typeInfo, hte, run_sameAddr_same]
  simp only [binOp]
  simp [Op.equal, Op.maxDepth, h 9999]

theorem Grp.start (xs : List St) (w : World) (cs : List Value) (hl : cs.length = xs.length) :
    Grp xs w.heap.size 0 (fun _ => none) (fun _ _ => .slice none 0 0) w (((w.alloc (.map #[] 0)).alloc (.map #[] 0)).alloc (.cells cs.toArray 30)) := by
  refine ⟨fun s => ?_, fun s q => ⟨by simp [sel], .inl ⟨rfl, by simp [sel]⟩⟩, (fun s q s' q' g h => by cases h), ⟨cs, Has.new _ _ (by simp), hl, fun i hi => by omega⟩, ((((Below.refl _ _).alloc (Nat.le_refl _) _).alloc (by simp) _).alloc (by simp; omega) _), by simp⟩
  cases s with
  | false => exact (MapIs.made w _).kept (by rw [Below.heap_alloc _ _ _ (by simp [rb]; omega), Below.heap_alloc _ _ _ (by simp [rb])])
  | true =>
    have := MapIs.made (w.alloc (.map #[] 0)) (.slice none 0 0)
    rw [show (w.alloc (.map #[] 0)).heap.size = rb w.heap.size true from by simp [rb]] at this
    exact this.kept (by rw [Below.heap_alloc _ _ _ (by simp [rb])])

theorem Grp.push {xs : List St} {B k : Nat} {P : Nat → Option Addr} {V : Bool → ByteArray → Value} {w wr : World} (G : Grp xs B k P V w wr) (hk : k < xs.length) (hn : xs.length ≤ 1024) (u : ByteArray) :
    Calls Try.prog 12 #[.map (some (rb B (sec xs k))), .string (pre xs k), .pointer (some ⟨wr.heap.size, 0, none⟩)] ((wr.setCell ⟨B + 1 + 1, k, none⟩ (.pointer (some ⟨wr.heap.size, 0, none⟩))).alloc (.cells #[.string u] 68))
      fun e w3 => e = .returned (.tuple #[]) ∧ ∃ P' V', Grp xs B (k + 1) P' V' w w3 := by
  obtain ⟨cs, hc, hl, hi⟩ := G.made
  have hsz := G.size
  have hb2 : Kept (fun b => b = B + 2) wr ((wr.setCell ⟨B + 1 + 1, k, none⟩ (.pointer (some ⟨wr.heap.size, 0, none⟩))).alloc (.cells #[.string u] 68)) :=
    ⟨rfl, rfl, rfl, by simp [World.setCell], fun b hb hne => by rw [Below.heap_alloc _ _ _ (by simpa [World.setCell] using hb), Below.heap_setCell _ _ _ _ hne]⟩
  have hmade : ∃ cs' : List Value, Has ((wr.setCell ⟨B + 1 + 1, k, none⟩ (.pointer (some ⟨wr.heap.size, 0, none⟩))).alloc (.cells #[.string u] 68)) (B + 2) cs' 30 ∧ cs'.length = xs.length ∧ ∀ i, i < k + 1 → cs'[i]? = some (.pointer (updP P k (some ⟨wr.heap.size, 0, none⟩) i)) := by
    refine ⟨cs.set k (.pointer (some ⟨wr.heap.size, 0, none⟩)), (hc.set k _).alloc _, by simpa using hl, fun i hi' => ?_⟩
    by_cases e : i = k
    · subst e; simp [updP, hl, hk]
    · have : ¬ k = i := fun h => e h.symm
      simp [updP, e, this, hi i (by omega)]
  have hrl := rb_lt B (sec xs k)
  have hsel := sel_le xs (sec xs k) (pre xs k) k
  refine (push_any (rb B (sec xs k)) (V (sec xs k)) (pre xs k) (some ⟨wr.heap.size, 0, none⟩) (B + 3) _ _ _ ((G.maps _).kept (hb2.block _ (by omega) (by omega))) (by omega)
    (ownsRow_kept (G.rows _ _) (fun g hg => hb2.block g (ownsRow_block (G.rows _ _) hg).2 (by have := (ownsRow_block (G.rows _ _) hg).1; omega))) (by omega) (Nat.le_trans hsz hb2.size)).mono ?_
  rintro e w3 ⟨he, v', hm, hrow, hkept, hloc⟩
  exact ⟨he, _, _, G.step hk hb2 hmade hm hrow hkept hloc⟩

theorem Grp.drewN {xs : List St} {B k : Nat} {P : Nat → Option Addr} {V : Bool → ByteArray → Value} {w wr : World} (G : Grp xs B k P V w wr) (n : Nat) : Grp xs B k P V w (wr.drewN n) :=
  ⟨fun s => (G.maps s).kept rfl, fun s q => ownsRow_kept (G.rows s q) (fun _ _ => rfl), G.apart, G.made, below_drewN G.bel n, G.size⟩

set_option maxRecDepth 100000 in
set_option maxHeartbeats 1000000 in
theorem apart_main (a : Option Addr) (cap : Nat) (xs : List St) (u : ByteArray) (w : World) (hx : xs.length ≤ maxLen) (hus : u.size ≤ maxLen) (hrow : StepsAt w a xs) (hn : xs.length ≤ 1024) (hu : u.size ≤ 65536) :
    Calls Try.prog 4 #[.slice a xs.length cap, .string u] w fun e w' => e = .returned (.bool true) ∧ Below w.heap.size w w' := by
  have h17 := bytes17 a cap xs u w hx hrow
  have h18 := fit18 a cap xs u w hx hrow
  have Hrow : Hid (StepsAt w a xs) := hrow
  clear hrow
  obtain ⟨cs0, hcs0, hmk⟩ := mk30 xs.length (by omega) ((w.alloc (.map #[] 0)).alloc (.map #[] 0))
  have Hcs0 : Hid (cs0.length = xs.length) := hcs0
  clear hcs0
  unfold maxLen at hx hus
  go_enter Try.func4, Try.ntmps4
  go_wp2_with fail
  refine h17.mono ?_
  rintro e w' ⟨⟨b, rfl⟩, hw⟩
  obtain rfl := hw.symm
  clear h17
  cases b with
  | false =>
    go_wp2
    go_ret
    exact ⟨rfl, Below.refl _ _⟩
  | true =>
  go_wp2_with fail
  refine h18.mono ?_
  rintro e w' ⟨⟨b, rfl⟩, hw'⟩
  obtain rfl := hw'.symm
  clear h18
  cases b with
  | false =>
    go_wp2
    go_ret
    exact ⟨rfl, Below.refl _ _⟩
  | true =>
  go_wp2_with fail
  refine (newRes_any _).mono ?_
  rintro e w1 ⟨rfl, rfl⟩
  go_wp2_with fail
  refine (newRes_any _).mono ?_
  rintro e w1 ⟨rfl, rfl⟩
  go_wp2_with fail
  go_loopw [8] (fun i wr => ∃ (k : Nat) (P : Nat → Option Addr) (V : Bool → ByteArray → Value), k ≤ xs.length ∧ i = .int .i64 k ∧ Grp xs w.heap.size k P V w wr) (fun i _ => xs.length - (intOf i).toNat)
  case atStart => exact ⟨0, _, _, Nat.zero_le _, rfl, Grp.start xs w cs0 Hcs0.out⟩
  case round =>
    clear hmk Hcs0 cs0
    obtain ⟨k, P, V, hk, rfl, G⟩ := hrel
    by_cases hlt : k < xs.length
    · rcases Hrow.out with h | ⟨b, off, rfl, hbl, hcc⟩
      · omega
      obtain ⟨c0, c1⟩ := hcc k hlt
      clear hcc
      rw [← G.bel.cell (p := ⟨b, _, none⟩) hbl] at c0 c1
      have hbw : b < wr.heap.size := Nat.lt_of_lt_of_le hbl G.bel.size
      have hne1 : ¬ b = w.heap.size + 1 + 1 := by omega
      have hne2 : ¬ w.heap.size + 1 + 1 = b := by omega
      have hpush := G.push hlt hn u
      obtain ⟨cs, hc, hl, hi⟩ := G.made
      have m0 := hc.cell k (List.getElem?_eq_getElem (by omega))
      have m1 := hc.frozen k
      have m2 : w.heap.size + 1 + 1 < wr.heap.size := by have := G.size; omega
      change wr.cell? ⟨w.heap.size + 1 + 1, k, none⟩ = _ at m0
      change wr.frozen? ⟨w.heap.size + 1 + 1, k, none⟩ = _ at m1
      change wr.cell? ⟨b, off + k * 2, none⟩ = some (.string (pre xs k)) at c0
      change wr.cell? ⟨b, off + k * 2 + 1, none⟩ = some (.bool (sec xs k)) at c1
      generalize cs[k] = c at *
      clear hc hl hi cs
      generalize hs : sec xs k = s at *
      generalize pre xs k = q at *
      cases s with
      | false =>
        go_wp2_with fail
        refine (ns_any u _).mono ?_
        rintro e w1 ⟨rfl, rfl⟩
        go_wp2_with fail
        refine hpush.mono ?_
        rintro e w3 ⟨rfl, P', V', G'⟩
        clear hpush m0 m1 m2 c0 c1 G
        go_wp2
        go_roundw
        case rel => exact ⟨k + 1, P', V', hlt, by go_num, G'⟩
        case measure => simp [intOf]; omega
      | true =>
        go_wp2_with fail
        refine (ns_any u _).mono ?_
        rintro e w1 ⟨rfl, rfl⟩
        go_wp2_with fail
        refine hpush.mono ?_
        rintro e w3 ⟨rfl, P', V', G'⟩
        clear hpush m0 m1 m2 c0 c1 G
        go_wp2
        go_roundw
        case rel => exact ⟨k + 1, P', V', hlt, by go_num, G'⟩
        case measure => simp [intOf]; omega
    · obtain rfl : k = xs.length := by omega
      obtain ⟨W, rfl⟩ : ∃ W : World, W = wr := ⟨_, rfl⟩
      have Brow := Hrow.out.later G.bel
      have HB : Hid (StepsAt W a xs) := Brow
      have HG : Hid (Grp xs w.heap.size xs.length P V w W) := G
      clear G Brow
      go_wp2_with fail
      go_loopw [10] (fun i w2 => ∃ (k t : Nat), k ≤ xs.length ∧ i = .int .i64 k ∧ w2 = W.drewN t) (fun i _ => xs.length - (intOf i).toNat)
      case atStart => exact ⟨0, 0, Nat.zero_le _, rfl, rfl⟩
      case round =>
        obtain ⟨k, t, hk, rfl, rfl⟩ := hrel
        by_cases hlt' : k < xs.length
        · rcases HB.out with h | ⟨b, off, rfl, hbl, hcc⟩
          · omega
          obtain ⟨c0, c1⟩ := hcc k hlt'
          change W.cell? ⟨b, off + k * 2, none⟩ = some (.string (pre xs k)) at c0
          change W.cell? ⟨b, off + k * 2 + 1, none⟩ = some (.bool (sec xs k)) at c1
          have HC : Hid (∀ i, i < xs.length → W.cell? ⟨b, off + i * 2, none⟩ = some (.string (pre xs i)) ∧ W.cell? ⟨b, off + i * 2 + 1, none⟩ = some (.bool (sec xs i))) := hcc
          clear hcc
          go_wp2_with fail
          go_loopw [12, 13, 14, 15] (fun rk mi ot m w3 => ∃ (j t' : Nat), j ≤ xs.length ∧ m = .int .i64 j ∧ rk = .int .i64 (sel xs (sec xs k) (pre xs k) (min j k)).length ∧ mi = .int .i64 (sel xs (sec xs k) (pre xs k) j).length ∧ ot = .int .i64 (sel xs (!sec xs k) (pre xs k) j).length ∧ w3 = W.drewN t') (fun _ _ _ m _ => xs.length - (intOf m).toNat)
          case atStart => exact ⟨0, t, Nat.zero_le _, rfl, by simp [sel], by simp [sel], by simp [sel], rfl⟩
          case round =>
            obtain ⟨j, t', hj, rfl, rfl, rfl, rfl, rfl⟩ := hrel
            have hb1 := sel_le xs (sec xs k) (pre xs k) (min j k)
            have hb2 := sel_le xs (sec xs k) (pre xs k) j
            have hb3 := sel_le xs (!sec xs k) (pre xs k) j
            by_cases hlj : j < xs.length
            · obtain ⟨e0, e1⟩ := HC.out j hlj
              by_cases hpj : pre xs j = pre xs k
              · have hq : ((pre xs j).toList == (pre xs k).toList) = true := by rw [beqL]; simp [hpj]
                have Hpj : Hid (pre xs j = pre xs k) := hpj
                clear hpj
                have i0 : (0 : Int) ≤ (j : Int) := by omega
                have i1 : (j : Int) < (xs.length : Int) := by omega
                have i2 : (k : Int) < (xs.length : Int) := by omega
                by_cases hsj : sec xs j = sec xs k
                · have hq2 : (sec xs j == sec xs k) = true := by simp [hsj]
                  have M1 : Hid (sel xs (sec xs k) (pre xs k) (j + 1) = sel xs (sec xs k) (pre xs k) j ++ [j]) := sel_hit Hpj.out hsj
                  have M2 : Hid (sel xs (!sec xs k) (pre xs k) (j + 1) = sel xs (!sec xs k) (pre xs k) j) := sel_miss (fun h => by have := h.2; rw [hsj] at this; simp at this)
                  clear hsj
                  by_cases hjk : j < k
                  · have M3 : Hid (sel xs (sec xs k) (pre xs k) (min (j + 1) k) = sel xs (sec xs k) (pre xs k) (min j k) ++ [j]) := by
                      show _ = _
                      rw [show min (j + 1) k = j + 1 from by omega, show min j k = j from by omega]; exact M1.out
                    go_wp2_with fail
                    go_quiet (fail)
                    go_wp2
                    go_roundw
                    case rel => exact ⟨j + 1, _, hlj, by go_num, by rw [M3.out]; simp, by rw [M1.out]; simp, by rw [M2.out], rfl⟩
                    case measure => simp [intOf]; omega
                  · have M3 : Hid (sel xs (sec xs k) (pre xs k) (min (j + 1) k) = sel xs (sec xs k) (pre xs k) (min j k)) := by
                      show _ = _
                      rw [show min (j + 1) k = k from by omega, show min j k = k from by omega]
                    go_wp2_with fail
                    go_quiet (fail)
                    go_wp2
                    go_roundw
                    case rel => exact ⟨j + 1, _, hlj, by go_num, by rw [M3.out], by rw [M1.out]; simp, by rw [M2.out], rfl⟩
                    case measure => simp [intOf]; omega
                · have hq2 : (sec xs j == sec xs k) = false := by simp [hsj]
                  have hsj' : sec xs j = !sec xs k := by revert hsj; cases sec xs j <;> cases sec xs k <;> simp
                  have M1 : Hid (sel xs (sec xs k) (pre xs k) (j + 1) = sel xs (sec xs k) (pre xs k) j) := sel_miss (fun h => hsj h.2)
                  have M2 : Hid (sel xs (!sec xs k) (pre xs k) (j + 1) = sel xs (!sec xs k) (pre xs k) j ++ [j]) := sel_hit Hpj.out hsj'
                  have M3 : Hid (sel xs (sec xs k) (pre xs k) (min (j + 1) k) = sel xs (sec xs k) (pre xs k) (min j k)) := by
                    show _ = _
                    by_cases hjk : j < k
                    · rw [show min (j + 1) k = j + 1 from by omega, show min j k = j from by omega]; exact M1.out
                    · rw [show min (j + 1) k = k from by omega, show min j k = k from by omega]
                  clear hsj hsj'
                  go_wp2_with fail
                  go_quiet (fail)
                  go_wp2
                  go_roundw
                  case rel => exact ⟨j + 1, _, hlj, by go_num, by rw [M3.out], by rw [M1.out], by rw [M2.out]; simp, rfl⟩
                  case measure => simp [intOf]; omega
              · have hq : ((pre xs j).toList == (pre xs k).toList) = false := by rw [beqL]; simp [hpj]
                have M1 : Hid (sel xs (sec xs k) (pre xs k) (j + 1) = sel xs (sec xs k) (pre xs k) j) := sel_miss (fun h => hpj h.1)
                have M2 : Hid (sel xs (!sec xs k) (pre xs k) (j + 1) = sel xs (!sec xs k) (pre xs k) j) := sel_miss (fun h => hpj h.1)
                have M3 : Hid (sel xs (sec xs k) (pre xs k) (min (j + 1) k) = sel xs (sec xs k) (pre xs k) (min j k)) := by
                  show _ = _
                  by_cases hjk : j < k
                  · rw [show min (j + 1) k = j + 1 from by omega, show min j k = j from by omega]; exact M1.out
                  · rw [show min (j + 1) k = k from by omega, show min j k = k from by omega]
                go_wp2_with fail
                go_roundw
                case rel => exact ⟨j + 1, _, hlj, by go_num, by rw [M3.out], by rw [M1.out], by rw [M2.out], rfl⟩
                case measure => simp [intOf]; omega
            · obtain rfl : j = xs.length := by omega
              rw [show min xs.length k = k from by omega]
              have G := HG.out
              have hd := fun s n => depth_any (rb w.heap.size s) (V s) (pre xs k) (w.heap.size + 3) _ _ (W.drewN n) ((G.drewN n).maps s) ((G.drewN n).rows s (pre xs k))
              have hbd := fun n => binding_any (rb w.heap.size (sec xs k)) (V (sec xs k)) (pre xs k) (w.heap.size + 3) _ _ (sel xs (sec xs k) (pre xs k) k).length (P k) (W.drewN n) ((G.drewN n).maps _) ((G.drewN n).rows _ (pre xs k)) (by rw [List.getElem?_map, sel_rank hlt' rfl rfl]; rfl)
              obtain ⟨cs, hc, hl, hi⟩ := G.made
              have m0 := hc.cell k (hi k hlt')
              have i0 : (0 : Int) ≤ (k : Int) := by omega
              have i2 : (k : Int) < (xs.length : Int) := by omega
              have hnq := neq30 (P k)
              change W.cell? ⟨w.heap.size + 1 + 1, k, none⟩ = _ at m0
              clear hc hl hi cs G
              generalize hs : sec xs k = s at *
              cases s with
              | false =>
                have hd1 := hd false
                have hd2 := hd true
                simp only [rb, Bool.false_eq_true, if_false, if_true, Bool.not_false, Bool.not_true] at hd1 hd2 hbd ⊢
                clear hd
                go_wp2_with fail
                refine (hd1 t').mono ?_
                rintro e w5 ⟨rfl, rfl⟩
                go_wp2_with fail
                refine (hd2 t').mono ?_
                rintro e w5 ⟨rfl, rfl⟩
                clear hd1 hd2
                go_wp2_with fail
                go_quiet ((go_at_call 16; exact (hbd _).mono fun e w ⟨he, hw⟩ => ⟨he, _, hw⟩))
                go_wp2
                go_roundw
                case rel => exact ⟨k + 1, _, hlt', by go_num, rfl⟩
                case measure => simp [intOf]; omega
              | true =>
                have hd1 := hd true
                have hd2 := hd false
                simp only [rb, Bool.false_eq_true, if_false, if_true, Bool.not_false, Bool.not_true] at hd1 hd2 hbd ⊢
                clear hd
                go_wp2_with fail
                refine (hd1 t').mono ?_
                rintro e w5 ⟨rfl, rfl⟩
                go_wp2_with fail
                refine (hd2 t').mono ?_
                rintro e w5 ⟨rfl, rfl⟩
                clear hd1 hd2
                go_wp2_with fail
                go_quiet ((go_at_call 16; exact (hbd _).mono fun e w ⟨he, hw⟩ => ⟨he, _, hw⟩))
                go_wp2
                go_roundw
                case rel => exact ⟨k + 1, _, hlt', by go_num, rfl⟩
                case measure => simp [intOf]; omega
        · go_wp2
          go_ret
          exact ⟨rfl, below_drewN HG.out.bel t⟩

end Go.Proofs.Qxb6614379a
