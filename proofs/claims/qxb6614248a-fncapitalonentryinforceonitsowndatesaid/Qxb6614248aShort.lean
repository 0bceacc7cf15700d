import Derived.Test.Qxb6614248aMain
import Derived.Test.Qxb6614248aEq
namespace Go.Proofs.Qxb6614248a
open Go.RowKit
open Go.Sort (grow)
set_option linter.unusedVariables false
set_option linter.unusedSimpArgs false

/-- the issuer's cells -/
def iss (s1 s2 : ByteArray) (v : Value) : List Value := [.string s1, .string s2, .string ByteArray.empty, .pointer none, v]

set_option maxHeartbeats 1000000 in
theorem main_short (s1 s2 : ByteArray) (a : Option Addr) (cap : Nat) (xs : List (Int × Int)) (day : Int) (w : World) (h1 : s1.size ≤ maxLen) (h2 : s2.size ≤ maxLen)
    (hrow : RowsAt w a xs) (hnil : a = none → xs = []) (hr : ∀ i, -9223372036854775808 ≤ (xs.getD i (0, 0)).1 ∧ (xs.getD i (0, 0)).1 < 9223372036854775808)
    (hd0 : -9223372036854775808 ≤ day) (hd1 : day < 9223372036854775808)
    (hf : s1.size + s2.size + xs.length ≤ 1048576) (hn : xs.length ≤ 65536) (ht : s1.size + s2.size + 16 * xs.length ≤ 1048576) :
    Calls Try.prog 4 #[.string s1, .string s2, .slice a xs.length cap, .int .i64 day] w fun e w' => e = .returned (.bool true) ∧ Below w.heap.size w w' := by
  have hz := zz_any s1 s2 a xs.length cap day w h1 h2 (by unfold maxLen; omega)
  have hcaps := caps_any a cap xs w (by omega) hrow hnil hr
  have Hrow : Hid (RowsAt w a xs) := hrow
  have Hr : Hid (∀ i, -9223372036854775808 ≤ (xs.getD i (0, 0)).1 ∧ (xs.getD i (0, 0)).1 < 9223372036854775808) := hr
  clear hrow hr hnil
  unfold maxLen at h1 h2
  rw [decide_eq_true hf] at hz
  go_enter Try.func4, Try.ntmps4
  go_wp2_with (go_at_call 8; refine hz.mono ?_; rintro e w' ⟨rfl, hw⟩; obtain rfl := hw.symm)
  refine hcaps.mono ?_
  rintro e w1 ⟨a', cap', rfl, hc1, hb1⟩
  clear hz hcaps
  go_wp2_with fail
  refine (date_any day _ hd0 hd1).mono ?_
  rintro e w3 ⟨rfl, hb3⟩
  simp only [dateV]
  go_wp2_with fail
  have hw2 : Below w1.heap.size w1 (w1.alloc (.cells (iss s1 s2 (.slice a' xs.length cap')).toArray 36)) := (Below.refl _ _).alloc (Nat.le_refl _) _
  have Hi3 : Has w3 w1.heap.size (iss s1 s2 (.slice a' xs.length cap')) 36 := (Has.new _ _ rfl).later hb3
  have hw4 : Below w3.heap.size w3 (w3.alloc (.cells (dat day).toArray 40)) := (Below.refl _ _).alloc (Nat.le_refl _) _
  have hc4 := ((hc1.later hw2).later hb3).later hw4
  have Hi4 := Hi3.alloc (.cells (dat day).toArray 40)
  refine (capOn_any w1.heap.size a' cap' xs day _ (by omega) hc4 (Hi4.cell 4 rfl)).mono ?_
  rintro e w5 ⟨rfl, hb5⟩
  have hs1 := hb1.size
  have hs3 := hb3.size
  have hs5 := hb5.size
  simp at hs3 hs5
  have hw6 : Below w5.heap.size w5 (w5.alloc (.cells (ent (fnd (inF day xs))).toArray 43)) := (Below.refl _ _).alloc (Nat.le_refl _) _
  have Bw : Below w.heap.size w (w5.alloc (.cells (ent (fnd (inF day xs))).toArray 43)) :=
    ((((hb1.trans (hw2.mono hs1)).trans (hb3.mono (by simp; omega))).trans (hw4.mono (by omega))).trans (hb5.mono (by simp; omega))).trans (hw6.mono (by omega))
  have Ci := (hc4.later hb5).later hw6
  have Hi := (Hi4.later hb5).alloc (.cells (ent (fnd (inF day xs))).toArray 43)
  have Hd := ((Has.new (w := w3) (dat day) 40 rfl).later hb5).alloc (.cells (ent (fnd (inF day xs))).toArray 43)
  have Hg := Has.new (w := w5) (ent (fnd (inF day xs))) 43 rfl
  have hlt1 : w.heap.size ≤ w1.heap.size := hs1
  have hlt3 : w1.heap.size < w3.heap.size := by omega
  have hlt5 : w3.heap.size < w5.heap.size := by omega
  clear hb1 hb3 hb5 hw2 hw4 hw6 Hi3 Hi4 hc1 hc4 hs1 hs3 hs5
  generalize hy : inF day xs = y at *
  have Hy : Hid (inF day xs = y) := hy
  clear hy
  simp only [ent]
  go_wp2_with fail
  generalize hW : w5.alloc (.cells (ent (fnd y)).toArray 43) = W at *
  have hW' : w5.alloc (.cells #[.int .u64 ((fnd y).1 % 1000000000), .int .i64 ((fnd y).1 / 1000000000), .pointer none, .int .i64 (fnd y).2] 43) = W := hW
  rw [hW']
  clear hW hW'
  generalize w1.heap.size = bi at *
  generalize w3.heap.size = bd at *
  generalize w5.heap.size = bg at *
  clear w1 w3 w5
  have hRW := Hrow.out.later Bw
  go_loop [13, 14] (fun ex i => ∃ k : Nat, k ≤ xs.length ∧ i = .int .i64 k ∧ ex = .bool (exK day xs k)) (fun _ i => xs.length - (intOf i).toNat)
  case atStart => exact ⟨0, Nat.zero_le _, rfl, rfl⟩
  case round =>
    obtain ⟨k, hk, rfl, rfl⟩ := hrel
    by_cases hlt : k < xs.length
    · rcases hRW with h | ⟨b, off, rfl, hbl, hcc⟩
      · omega
      obtain ⟨c0, c1⟩ := hcc k hlt
      have Hs : Hid (exK day xs (k + 1) = (exK day xs k || decide ((xs.getD k (0, 0)).1 ≤ day))) := exK_succ hlt
      clear hcc
      generalize xs.getD k (0, 0) = x at *
      by_cases hx : x.1 ≤ day
      · go_wp2
        go_round
        case rel => exact ⟨k + 1, hlt, by go_num, by rw [Hs.out]; simp [hx]⟩
        case measure => simp [intOf]; omega
      · go_wp2
        go_round
        case rel => exact ⟨k + 1, hlt, by go_num, by rw [Hs.out]; simp [hx]⟩
        case measure => simp [intOf]; omega
    · obtain rfl : k = xs.length := by omega
      have he := exK_all day xs
      rw [Hy.out] at he
      rcases y with _ | g
      · have g0 := Hg.cell 0 rfl
        have g1 := Hg.cell 1 rfl
        have g2 := Hg.cell 2 rfl
        have g3 := Hg.cell 3 rfl
        simp only [fnd, Option.getD_none] at g0 g1 g2 g3
        have hq := eql43
        go_wp2
        go_ret
        exact ⟨rfl, Bw⟩
      · obtain ⟨y1, y2, y3⟩ := inF_some Hy.out
        have g0 := Hg.cell 0 rfl
        have g1 := Hg.cell 1 rfl
        have g2 := Hg.cell 2 rfl
        have g3 := Hg.cell 3 rfl
        have d0 := Hd.cell 0 rfl
        have d1 := Hd.cell 1 rfl
        have d2 := Hd.cell 2 rfl
        simp only [fnd, Option.getD_some] at g0 g1 g2 g3 Hg
        have ha := after_any g.1 day none none W
        rw [decide_eq_false (by omega)] at ha
        go_wp2_with fail
        refine ha.mono ?_
        rintro e w7 ⟨rfl, hb7⟩
        clear ha g0 g1 g2 g3 d0 d1 d2
        have Ci7 := Ci.later hb7
        have Hi7 := Hi.later hb7
        have Hg7 := Hg.later hb7
        have hRW7 := hRW.later hb7
        have Bw7 := Bw.trans (hb7.mono Bw.size)
        clear Ci Hi Hg hRW Bw Hd hb7
        go_wp2_with fail
        go_loopw [15, 16] (fun r i wr => ∃ k : Nat, k ≤ xs.length ∧ i = .int .i64 k ∧ r = .bool (isK g xs k) ∧ Below w7.heap.size w7 wr) (fun _ i _ => xs.length - (intOf i).toNat)
        case atStart => exact ⟨0, Nat.zero_le _, rfl, rfl, Below.refl _ _⟩
        case round =>
          obtain ⟨k, hk, rfl, rfl, hbr⟩ := hrel
          by_cases hlt' : k < xs.length
          · rcases hRW7.later hbr with h | ⟨b, off, rfl, hbl, hcc⟩
            · omega
            obtain ⟨c0, c1⟩ := hcc k hlt'
            have Hs : Hid (isK g xs (k + 1) = (isK g xs k || decide ((xs.getD k (0, 0)).1 = g.1 ∧ (xs.getD k (0, 0)).2 = g.2))) := isK_succ hlt'
            obtain ⟨r0, r1⟩ := Hr.out k
            clear hcc hRW7
            generalize xs.getD k (0, 0) = x at *
            have kx0 := cell_regrown c0
            have kx1 := cell_regrown c1
            have Hg8 := Hg7.later hbr
            have kg0 := cell_regrown (Hg8.cell 0 rfl)
            have kg1 := cell_regrown (Hg8.cell 1 rfl)
            have kg2 := cell_regrown (Hg8.cell 2 rfl)
            have kg3 := cell_regrown (Hg8.cell 3 rfl)
            have cD : ∀ d os, Calls Try.prog 10 #[.int .i64 x.1] (grow (redrawn wr d) os) fun e w'' => e = .returned (.agg #[.int .u64 (x.1 % 1000000000), .int .i64 (x.1 / 1000000000), .pointer none]) ∧ ∃ p : Regrown, w'' = grow (redrawn wr p.d) p.os := fun d os => Calls.regrown_of (date_any _ _ r0 r1)
            clear c0 c1
            go_wp2_with fail
            by_cases hxd : x.1 ≤ day
            · by_cases hxs : x.2 = g.2
              · have hb1 : (x.2 == g.2) = true := beq_iff_eq.2 hxs
                have Hxs : Hid (x.2 = g.2) := hxs
                clear hxs
                by_cases hxg : x.1 = g.1
                · have Hxg : Hid (x.1 = g.1) := hxg
                  have hq : ∀ w, (binOp .eql 40 (.agg #[.int .u64 (x.1 % 1000000000), .int .i64 (x.1 / 1000000000), .pointer none]) (.agg #[.int .u64 (g.1 % 1000000000), .int .i64 (g.1 / 1000000000), .pointer none])).run Try.prog w = .ok (.bool true) w := fun w => by rw [eql40, hxg]; simp
                  clear hxg
                  refine wp_region_quiet_below (by kernel_rfl) (by kernel_rfl) ?_
                  repeat (go_big_quiet_step ((go_at_call 10; exact cD _ _)))
                  refine wpQuiet_nil ?_
                  intro _ hw'
                  obtain ⟨⟨dq, osq⟩, hw''⟩ := hw'
                  subst hw''
                  clear cD kg0 kg1 kg2 kg3 kx0 kx1
                  have hG := hbr.trans ((below_regrown wr dq osq).mono hbr.size)
                  go_wp2
                  go_roundw
                  case rel => exact ⟨k + 1, hlt', by go_num, by rw [Hs.out]; simp [Hxg.out, Hxs.out], hG⟩
                  case measure => simp [intOf]; omega
                · have hq : ∀ w, (binOp .eql 40 (.agg #[.int .u64 (x.1 % 1000000000), .int .i64 (x.1 / 1000000000), .pointer none]) (.agg #[.int .u64 (g.1 % 1000000000), .int .i64 (g.1 / 1000000000), .pointer none])).run Try.prog w = .ok (.bool false) w := fun w => by
                    rw [eql40]
                    have : (x.1 % 1000000000 == g.1 % 1000000000 && x.1 / 1000000000 == g.1 / 1000000000) = false := by simp; omega
                    rw [this]
                  have Hxg : Hid (¬ x.1 = g.1) := hxg
                  clear hxg
                  refine wp_region_quiet_below (by kernel_rfl) (by kernel_rfl) ?_
                  repeat (go_big_quiet_step ((go_at_call 10; exact cD _ _)))
                  refine wpQuiet_nil ?_
                  intro _ hw'
                  obtain ⟨⟨dq, osq⟩, hw''⟩ := hw'
                  subst hw''
                  clear cD kg0 kg1 kg2 kg3 kx0 kx1
                  have hG := hbr.trans ((below_regrown wr dq osq).mono hbr.size)
                  go_wp2
                  go_roundw
                  case rel => exact ⟨k + 1, hlt', by go_num, by rw [Hs.out]; simp [Hxg.out], hG⟩
                  case measure => simp [intOf]; omega
              · have hb1 : (x.2 == g.2) = false := beq_eq_false_iff_ne.2 hxs
                have Hxs : Hid (¬ x.2 = g.2) := hxs
                clear hxs
                refine wp_region_quiet_below (by kernel_rfl) (by kernel_rfl) ?_
                repeat (go_big_quiet_step ((go_at_call 10; exact cD _ _)))
                refine wpQuiet_nil ?_
                intro _ hw'
                obtain ⟨⟨dq, osq⟩, hw''⟩ := hw'
                subst hw''
                clear cD kg0 kg1 kg2 kg3 kx0 kx1
                have hG := hbr.trans ((below_regrown wr dq osq).mono hbr.size)
                go_wp2
                go_roundw
                case rel => exact ⟨k + 1, hlt', by go_num, by rw [Hs.out]; simp [Hxs.out], hG⟩
                case measure => simp [intOf]; omega
            · have hdf : decide (x.1 ≤ day) = false := decide_eq_false hxd
              have Hxg : Hid (¬ x.1 = g.1) := (by omega : ¬ x.1 = g.1)
              refine wp_region_quiet_below (by kernel_rfl) (by kernel_rfl) ?_
              repeat (go_big_quiet_step ((go_at_call 10; exact cD _ _)))
              refine wpQuiet_nil ?_
              intro _ hw'
              obtain ⟨⟨dq, osq⟩, hw''⟩ := hw'
              subst hw''
              clear cD kg0 kg1 kg2 kg3 kx0 kx1
              have hG := hbr.trans ((below_regrown wr dq osq).mono hbr.size)
              go_wp2
              go_roundw
              case rel => exact ⟨k + 1, hlt', by go_num, by rw [Hs.out]; simp [Hxg.out], hG⟩
              case measure => simp [intOf]; omega
          · obtain rfl : k = xs.length := by omega
            have hall := isK_all y2
            have Ci8 := Ci7.later hbr
            have Hi8 := Hi7.later hbr
            have Hg8 := Hg7.later hbr
            have g0 := Hg8.cell 0 rfl
            have g1 := Hg8.cell 1 rfl
            have g2 := Hg8.cell 2 rfl
            have g3 := Hg8.cell 3 rfl
            have hcap := capOn_any bi a' cap' xs g.1 wr (by omega) Ci8 (Hi8.cell 4 rfl)
            rw [y3] at hcap
            have Hcap := hcap
            clear hcap
            go_wp2_with fail
            refine Hcap.mono ?_
            rintro e w9 ⟨rfl, hb9⟩
            clear Hcap g0 g1 g2 g3
            have Hg9 := (Hg8.later hb9).alloc (.cells (ent g).toArray 43)
            have hl9 := (Hg8.later hb9).lt
            have g0 := Hg9.cell 0 rfl
            have g1 := Hg9.cell 1 rfl
            have g2 := Hg9.cell 2 rfl
            have g3 := Hg9.cell 3 rfl
            simp only [ent] at g0 g1 g2 g3
            have hq := eql43
            simp only [ent, fnd, Option.getD_some, Option.isSome_some]
            go_wp2
            go_ret
            have hs7 := Bw7.size
            have hs8 := hbr.size
            have hs9 := hb9.size
            exact ⟨rfl, ((Bw7.trans (hbr.mono hs7)).trans (hb9.mono (by omega))).alloc (by omega) _⟩

end Go.Proofs.Qxb6614248a
