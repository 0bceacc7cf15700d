import Derived.Test.Qxb6614379aStacks
namespace Go.Proofs.Qxb6614379a
open Go.RowKit
set_option linter.unusedVariables false
set_option linter.unusedSimpArgs false

theorem neqB (a : ByteArray) : (a.toList != a.toList) = false := by simp

set_option maxRecDepth 100000 in
set_option maxHeartbeats 1000000 in
theorem stacks_main (a : Option Addr) (cap : Nat) (xs : List Pu) (u : ByteArray) (w0 : World) (hx : xs.length ≤ maxLen) (hus : u.size ≤ maxLen) (hrow : PushesAt w0 a xs) (hn : xs.length ≤ 1024) (hu : u.size ≤ 65536) :
    Calls Try.prog 3 #[.slice a xs.length cap, .string u] w0 fun e w' => e = .returned (.bool true) ∧ Below w0.heap.size w0 w' := by
  have h9 := bytes9 a cap xs u w0 hx hrow
  have h10 := fit10 a cap xs u w0 hx hrow
  have Hrow0 : Hid (PushesAt w0 a xs) := hrow
  clear hrow
  unfold maxLen at hx hus
  go_enter Try.func3, Try.ntmps3
  go_wp2_with fail
  refine h9.mono ?_
  rintro e w' ⟨⟨b, rfl⟩, hw⟩
  obtain rfl := hw.symm
  clear h9
  cases b with
  | false =>
    go_wp2
    go_ret
    exact ⟨rfl, Below.refl _ _⟩
  | true =>
  go_wp2_with fail
  refine h10.mono ?_
  rintro e w ⟨⟨b, rfl⟩, n10, hw10⟩
  have Bw0 : Below w0.heap.size w0 w := by rw [hw10]; exact below_drewN (Below.refl _ _) _
  have hsz0 : w.heap.size = w0.heap.size := by rw [hw10]; rfl
  have Hsz : Hid (w.heap.size = w0.heap.size) := hsz0
  clear hw10 h10 hsz0
  have Hrow : Hid (PushesAt w a xs) := Hrow0.out.later Bw0
  cases b with
  | false =>
    go_wp2
    go_ret
    exact ⟨rfl, Bw0⟩
  | true =>
  go_wp2_with fail
  refine (newRes_any _).mono ?_
  rintro e w1 ⟨rfl, rfl⟩
  go_wp2_with fail
  go_loopw [6] (fun i wr => ∃ (k : Nat) (N : Nat → Nat) (V : ByteArray → Value), k ≤ xs.length ∧ i = .int .i64 k ∧ Grp1 xs w.heap.size k N V w wr) (fun i _ => xs.length - (intOf i).toNat)
  case atStart => exact ⟨0, _, _, Nat.zero_le _, rfl, Grp1.start xs w⟩
  case round =>
    obtain ⟨k, N, V, hk, rfl, G⟩ := hrel
    by_cases hlt : k < xs.length
    · rcases Hrow.out with h | ⟨b, off, rfl, hbl, hcc⟩
      · omega
      obtain ⟨c0, c1⟩ := hcc k hlt
      clear hcc
      rw [← G.bel.cell (p := ⟨b, _, none⟩) hbl] at c0 c1
      have hbw : b < wr.heap.size := Nat.lt_of_lt_of_le hbl G.bel.size
      have hpush := G.push hlt hn
      generalize px xs k = q at *
      generalize ur xs k = r at *
      clear G
      go_wp2_with fail
      go_region_with (first | (go_at_call 13; refine (ns_any r _).mono ?_; rintro e w1 ⟨rfl, rfl⟩) | (go_at_call 12; refine hpush.mono ?_; rintro e w3 ⟨rfl, G'⟩))
      all_goals
        obtain ⟨N', V', G''⟩ := G'
        clear hpush c0 c1
        go_wp2
        go_roundw
        case rel => exact ⟨k + 1, N', V', hlt, by go_num, G''⟩
        case measure => simp [intOf]; omega
    · obtain rfl : k = xs.length := by omega
      obtain ⟨W, rfl⟩ : ∃ W : World, W = wr := ⟨_, rfl⟩
      have HB : Hid (PushesAt W a xs) := Hrow.out.later G.bel
      have HG : Hid (Grp1 xs w.heap.size xs.length N V w W) := G
      have BW : Below w0.heap.size w0 W := by
        have := G.bel
        rw [Hsz.out] at this
        exact Bw0.trans this
      have Hdn : Hid (∀ q n, Calls Try.prog 14 #[.map (some w.heap.size), .string q] (W.drewN n) fun e w' => e = .returned (.int .i64 (sl xs q xs.length).length) ∧ w' = W.drewN n) := fun q n => depth_any w.heap.size V q (w.heap.size + 1) _ _ (W.drewN n) (G.drewN n).map ((G.drewN n).rows q)
      clear G Bw0
      go_wp2_with fail
      go_loopw [7, 8] (fun ab i w2 => ∃ (k t : Nat), k ≤ xs.length ∧ i = .int .i64 k ∧ ab = .bool (pa xs u k) ∧ w2 = W.drewN t) (fun _ i _ => xs.length - (intOf i).toNat)
      case atStart => exact ⟨0, 0, Nat.zero_le _, rfl, rfl, rfl⟩
      case round =>
        obtain ⟨k, t, hk, rfl, rfl, rfl⟩ := hrel
        by_cases hlt' : k < xs.length
        · rcases HB.out with h | ⟨b, off, rfl, hbl, hcc⟩
          · omega
          obtain ⟨c0, c1⟩ := hcc k hlt'
          have HC : Hid (∀ i, i < xs.length → W.cell? ⟨b, off + i * 2, none⟩ = some (.string (px xs i)) ∧ W.cell? ⟨b, off + i * 2 + 1, none⟩ = some (.string (ur xs i))) := hcc
          clear hcc
          have hab : Hid (pa xs u (k + 1) = (decide (px xs k = u) || pa xs u k)) := by
            show _ = _
            by_cases h : px xs k = u
            · rw [pa_hit h]; simp [h]
            · rw [pa_miss h]; simp [h]
          by_cases hpu : px xs k = u
          · have hq0 : ((px xs k).toList == u.toList) = true := by rw [beqL]; simp [hpu]
            have Hpu : Hid (px xs k = u) := hpu
            clear hpu
            go_wp2_with fail
            go_loop [10, 11, 12] (fun rk ct m => ∃ j : Nat, j ≤ xs.length ∧ m = .int .i64 j ∧ rk = .int .i64 (sl xs (px xs k) (min j k)).length ∧ ct = .int .i64 (sl xs (px xs k) j).length) (fun _ _ m => xs.length - (intOf m).toNat)
            case atStart => exact ⟨0, Nat.zero_le _, rfl, by simp [sl, sel], by simp [sl, sel]⟩
            case round =>
              obtain ⟨j, hj, rfl, rfl, rfl⟩ := hrel
              have hb1 := sl_le xs (px xs k) (min j k)
              have hb2 := sl_le xs (px xs k) j
              by_cases hlj : j < xs.length
              · obtain ⟨e0, e1⟩ := HC.out j hlj
                by_cases hpj : px xs j = px xs k
                · have hq : ((px xs j).toList == (px xs k).toList) = true := by rw [beqL]; simp [hpj]
                  have M1 : Hid (sl xs (px xs k) (j + 1) = sl xs (px xs k) j ++ [j]) := sl_hit hpj
                  clear hpj
                  by_cases hjk : j < k
                  · have M3 : Hid (sl xs (px xs k) (min (j + 1) k) = sl xs (px xs k) (min j k) ++ [j]) := by
                      show _ = _
                      rw [show min (j + 1) k = j + 1 from by omega, show min j k = j from by omega]; exact M1.out
                    go_wp2
                    go_round
                    case rel => exact ⟨j + 1, hlj, by go_num, by rw [M3.out]; simp, by rw [M1.out]; simp⟩
                    case measure => simp [intOf]; omega
                  · have M3 : Hid (sl xs (px xs k) (min (j + 1) k) = sl xs (px xs k) (min j k)) := by
                      show _ = _
                      rw [show min (j + 1) k = k from by omega, show min j k = k from by omega]
                    go_wp2
                    go_round
                    case rel => exact ⟨j + 1, hlj, by go_num, by rw [M3.out], by rw [M1.out]; simp⟩
                    case measure => simp [intOf]; omega
                · have hq : ((px xs j).toList == (px xs k).toList) = false := by rw [beqL]; simp [hpj]
                  have M1 : Hid (sl xs (px xs k) (j + 1) = sl xs (px xs k) j) := sl_miss hpj
                  have M3 : Hid (sl xs (px xs k) (min (j + 1) k) = sl xs (px xs k) (min j k)) := by
                    show _ = _
                    by_cases hjk : j < k
                    · rw [show min (j + 1) k = j + 1 from by omega, show min j k = j from by omega]; exact M1.out
                    · rw [show min (j + 1) k = k from by omega, show min j k = k from by omega]
                  go_wp2
                  go_round
                  case rel => exact ⟨j + 1, hlj, by go_num, by rw [M3.out], by rw [M1.out]⟩
                  case measure => simp [intOf]; omega
              · obtain rfl : j = xs.length := by omega
                rw [show min xs.length k = k from by omega]
                have G := HG.out
                have hbd : ∀ n, Calls Try.prog 16 #[.map (some w.heap.size), .string (px xs k), .int .i64 (sl xs (px xs k) k).length] (W.drewN n) fun e w' => e = .returned (.pointer (some ⟨N k, 0, none⟩)) ∧ w' = W.drewN n := fun n => binding_any w.heap.size V (px xs k) (w.heap.size + 1) _ _ (sl xs (px xs k) k).length (some ⟨N k, 0, none⟩) (W.drewN n) (G.drewN n).map ((G.drewN n).rows (px xs k)) (by rw [List.getElem?_map, sl_rank hlt' rfl]; rfl)
                have hur : ∀ n, Calls Try.prog 15 #[.pointer (some ⟨N k, 0, none⟩)] (W.drewN n) fun e w' => e = .returned (.string (ur xs k)) ∧ w' = W.drewN n := fun n => uri_any (N k) (ur xs k) (W.drewN n) ((G.ns k hlt').1.cell 0 rfl)
                have i0 : (0 : Int) ≤ (k : Int) := by omega
                have i2 : (k : Int) < (xs.length : Int) := by omega
                clear G
                go_wp2_with fail
                refine (Hdn.out (px xs k) t).mono ?_
                rintro e w5 ⟨rfl, rfl⟩
                go_wp2_with fail
                go_quiet (first | (go_at_call 16; exact (hbd _).mono fun e w ⟨he, hw⟩ => ⟨he, _, hw⟩) | (go_at_call 15; exact (hur _).mono fun e w ⟨he, hw⟩ => ⟨he, _, hw⟩))
                clear hbd hur
                go_wp2
                go_roundw
                case rel => exact ⟨k + 1, _, hlt', by go_num, by rw [hab.out]; simp [Hpu.out], rfl⟩
                case measure => simp [intOf]; omega
          · have hq0 : ((px xs k).toList == u.toList) = false := by rw [beqL]; simp [hpu]
            have Hpu : Hid (¬ px xs k = u) := hpu
            clear hpu
            go_wp2_with fail
            go_loop [10, 11, 12] (fun rk ct m => ∃ j : Nat, j ≤ xs.length ∧ m = .int .i64 j ∧ rk = .int .i64 (sl xs (px xs k) (min j k)).length ∧ ct = .int .i64 (sl xs (px xs k) j).length) (fun _ _ m => xs.length - (intOf m).toNat)
            case atStart => exact ⟨0, Nat.zero_le _, rfl, by simp [sl, sel], by simp [sl, sel]⟩
            case round =>
              obtain ⟨j, hj, rfl, rfl, rfl⟩ := hrel
              have hb1 := sl_le xs (px xs k) (min j k)
              have hb2 := sl_le xs (px xs k) j
              by_cases hlj : j < xs.length
              · obtain ⟨e0, e1⟩ := HC.out j hlj
                by_cases hpj : px xs j = px xs k
                · have hq : ((px xs j).toList == (px xs k).toList) = true := by rw [beqL]; simp [hpj]
                  have M1 : Hid (sl xs (px xs k) (j + 1) = sl xs (px xs k) j ++ [j]) := sl_hit hpj
                  clear hpj
                  by_cases hjk : j < k
                  · have M3 : Hid (sl xs (px xs k) (min (j + 1) k) = sl xs (px xs k) (min j k) ++ [j]) := by
                      show _ = _
                      rw [show min (j + 1) k = j + 1 from by omega, show min j k = j from by omega]; exact M1.out
                    go_wp2
                    go_round
                    case rel => exact ⟨j + 1, hlj, by go_num, by rw [M3.out]; simp, by rw [M1.out]; simp⟩
                    case measure => simp [intOf]; omega
                  · have M3 : Hid (sl xs (px xs k) (min (j + 1) k) = sl xs (px xs k) (min j k)) := by
                      show _ = _
                      rw [show min (j + 1) k = k from by omega, show min j k = k from by omega]
                    go_wp2
                    go_round
                    case rel => exact ⟨j + 1, hlj, by go_num, by rw [M3.out], by rw [M1.out]; simp⟩
                    case measure => simp [intOf]; omega
                · have hq : ((px xs j).toList == (px xs k).toList) = false := by rw [beqL]; simp [hpj]
                  have M1 : Hid (sl xs (px xs k) (j + 1) = sl xs (px xs k) j) := sl_miss hpj
                  have M3 : Hid (sl xs (px xs k) (min (j + 1) k) = sl xs (px xs k) (min j k)) := by
                    show _ = _
                    by_cases hjk : j < k
                    · rw [show min (j + 1) k = j + 1 from by omega, show min j k = j from by omega]; exact M1.out
                    · rw [show min (j + 1) k = k from by omega, show min j k = k from by omega]
                  go_wp2
                  go_round
                  case rel => exact ⟨j + 1, hlj, by go_num, by rw [M3.out], by rw [M1.out]⟩
                  case measure => simp [intOf]; omega
              · obtain rfl : j = xs.length := by omega
                rw [show min xs.length k = k from by omega]
                have G := HG.out
                have hbd : ∀ n, Calls Try.prog 16 #[.map (some w.heap.size), .string (px xs k), .int .i64 (sl xs (px xs k) k).length] (W.drewN n) fun e w' => e = .returned (.pointer (some ⟨N k, 0, none⟩)) ∧ w' = W.drewN n := fun n => binding_any w.heap.size V (px xs k) (w.heap.size + 1) _ _ (sl xs (px xs k) k).length (some ⟨N k, 0, none⟩) (W.drewN n) (G.drewN n).map ((G.drewN n).rows (px xs k)) (by rw [List.getElem?_map, sl_rank hlt' rfl]; rfl)
                have hur : ∀ n, Calls Try.prog 15 #[.pointer (some ⟨N k, 0, none⟩)] (W.drewN n) fun e w' => e = .returned (.string (ur xs k)) ∧ w' = W.drewN n := fun n => uri_any (N k) (ur xs k) (W.drewN n) ((G.ns k hlt').1.cell 0 rfl)
                have i0 : (0 : Int) ≤ (k : Int) := by omega
                have i2 : (k : Int) < (xs.length : Int) := by omega
                clear G
                go_wp2_with fail
                refine (Hdn.out (px xs k) t).mono ?_
                rintro e w5 ⟨rfl, rfl⟩
                go_wp2_with fail
                go_quiet (first | (go_at_call 16; exact (hbd _).mono fun e w ⟨he, hw⟩ => ⟨he, _, hw⟩) | (go_at_call 15; exact (hur _).mono fun e w ⟨he, hw⟩ => ⟨he, _, hw⟩))
                clear hbd hur
                go_wp2
                go_roundw
                case rel => exact ⟨k + 1, _, hlt', by go_num, by rw [hab.out]; simp [Hpu.out], rfl⟩
                case measure => simp [intOf]; omega
        · obtain rfl : k = xs.length := by omega
          cases hpa : pa xs u xs.length with
          | true =>
            go_wp2
            go_ret
            exact ⟨rfl, below_drewN BW t⟩
          | false =>
            have hz : (sl xs u xs.length).length = 0 := by unfold pa at hpa; simp at hpa; simp [hpa]
            have hdz := Hdn.out u t
            rw [hz] at hdz
            go_wp2_with (go_at_call 14; refine hdz.mono ?_; rintro e w5 ⟨rfl, rfl⟩)
            go_ret
            exact ⟨rfl, below_drewN BW t⟩

end Go.Proofs.Qxb6614379a
