import Derived.Test.Qxb6605769aDoorPd
import Derived.Test.Qxb6605769aDoorRen
namespace Go.Proofs.Qxb6605769aDoor
open Go.RowKit
set_option linter.unusedVariables false
set_option linter.unusedSimpArgs false

set_option maxRecDepth 100000 in
set_option maxHeartbeats 1000000 in
theorem zz6 (s : ByteArray) (hs : s.size ≤ 1099511627776) (w : World) (he : Errs w) :
    Calls Tryd.prog 6 #[.string s] w fun e w' => e = .returned (.tuple #[.int .i64 (num s.data.toList), .bool (plainB s.data.toList && good s.data.toList)]) ∧ Below w.heap.size w w' := by
  have hc := pd_any s hs w he
  clear he
  generalize num s.data.toList = N at *
  generalize (plainB s.data.toList && good s.data.toList) = G at *
  go_enter Tryd.func6, Tryd.ntmps6
  go_wp2_with fail
  refine hc.mono ?_
  rintro e w1 ⟨rfl, hb⟩
  clear hc
  go_wp2
  go_ret2
  exact ⟨rfl, hb⟩

theorem render_len (n : Int) (z : Nat) (h : n.natAbs < 18446744073709551616) : (render n z).length ≤ z + 21 := by
  have := dig_len 19 n.natAbs (by omega)
  unfold render
  split <;> simp <;> omega

set_option maxRecDepth 100000 in
set_option maxHeartbeats 1000000 in
theorem back_neg (U z : Nat) (w : World) (he : Errs w) (h0 : 0 < U) (h1 : U ≤ 9223372036854775808) (hz : z ≤ 65536) :
    Calls Tryd.prog 4 #[.int .i64 (-(U : Int)), .int .i64 z] w fun e w' => e = .returned (.bool true) ∧ Below w.heap.size w w' := by
  have hr := ren_neg U z w h0 h1 hz
  have er : ([45] ++ (List.replicate z 48 ++ dig U)) = render (-(U : Int)) z := by
    unfold render; rw [if_pos (by omega)]; simp
  rw [er] at hr
  have hp := render_neg (-(U : Int)) z (by omega) (by omega)
  have hl := render_len (-(U : Int)) z (by omega)
  clear er
  generalize render (-(U : Int)) z = l at *
  have z1 : ¬ ((z : Int) < 0) := by omega
  have z2 : ¬ (65536 < (z : Int)) := by omega
  have hn : -(U : Int) < 0 := by omega
  go_enter Tryd.func4, Tryd.ntmps4
  go_wp2_with fail
  refine hr.mono ?_
  rintro e w1 ⟨rfl, hb⟩
  have hz6 := zz6 ⟨l.toArray⟩ (by show l.toArray.size ≤ _; simp; omega) w1 (he.later hb)
  have e1 : num l = -(U : Int) := by unfold num; rw [hp.1]
  simp only [hp.2, e1, Bool.false_and] at hz6
  clear hr hp e1
  go_wp2_with fail
  refine hz6.mono ?_
  rintro e w2 ⟨rfl, hb2⟩
  clear hz6
  go_wp2
  go_ret
  exact ⟨by first | rfl | (simp; done), hb.trans (hb2.mono hb.size)⟩

set_option maxRecDepth 100000 in
set_option maxHeartbeats 1000000 in
theorem back_nonneg (U z : Nat) (w : World) (he : Errs w) (h1 : U ≤ 9223372036854775807) (hz : z ≤ 65536) :
    Calls Tryd.prog 4 #[.int .i64 (U : Int), .int .i64 z] w fun e w' => e = .returned (.bool true) ∧ Below w.heap.size w w' := by
  have hr := ren_nonneg U z w h1 hz
  have er : (([] : List UInt8) ++ (List.replicate z 48 ++ dig U)) = render (U : Int) z := by
    unfold render; rw [if_neg (by omega)]; simp
  rw [er] at hr
  have hp := render_nonneg (U : Int) z (by omega) (by omega)
  have hl := render_len (U : Int) z (by omega)
  clear er
  generalize render (U : Int) z = l at *
  have z1 : ¬ ((z : Int) < 0) := by omega
  have z2 : ¬ (65536 < (z : Int)) := by omega
  have hn : ¬ (U : Int) < 0 := by omega
  go_enter Tryd.func4, Tryd.ntmps4
  go_wp2_with fail
  refine hr.mono ?_
  rintro e w1 ⟨rfl, hb⟩
  have hz6 := zz6 ⟨l.toArray⟩ (by show l.toArray.size ≤ _; simp; omega) w1 (he.later hb)
  have e1 : num l = (U : Int) := by unfold num; rw [hp.1]
  have e2 : good l = true := by unfold good; rw [hp.1]
  simp only [hp.2, e1, e2, Bool.true_and] at hz6
  clear hr hp e1 e2
  go_wp2_with fail
  refine hz6.mono ?_
  rintro e w2 ⟨rfl, hb2⟩
  clear hz6
  go_wp2
  go_ret
  exact ⟨by first | rfl | (simp; done), hb.trans (hb2.mono hb.size)⟩

set_option maxRecDepth 100000 in
set_option maxHeartbeats 1000000 in
theorem back_off (n z : Int) (w : World) (hz : z < 0 ∨ (0 ≤ z ∧ 65536 < z)) :
    Calls Tryd.prog 4 #[.int .i64 n, .int .i64 z] w fun e w' => e = .returned (.bool true) ∧ w' = w := by
  rcases hz with hz | ⟨hz', hz⟩
  all_goals
    go_enter Tryd.func4, Tryd.ntmps4
    go_wp2
    go_ret
    exact ⟨rfl, rfl⟩

theorem back_any (n z : Int) (w : World) (he : Errs w) (h1 : -9223372036854775808 ≤ n) (h2 : n ≤ 9223372036854775807) :
    Calls Tryd.prog 4 #[.int .i64 n, .int .i64 z] w fun e w' => e = .returned (.bool true) ∧ Below w.heap.size w w' := by
  by_cases hz : z < 0 ∨ (0 ≤ z ∧ 65536 < z)
  · exact (back_off n z w hz).mono fun e w' ⟨h, hw⟩ => ⟨h, by subst hw; exact Below.refl _ _⟩
  obtain ⟨z', rfl⟩ : ∃ z' : Nat, z = z' := ⟨z.toNat, by omega⟩
  by_cases hn : n < 0
  · obtain ⟨U, rfl⟩ : ∃ U : Nat, n = -(U : Int) := ⟨n.natAbs, by omega⟩
    exact back_neg U z' w he (by omega) (by omega) (by omega)
  · obtain ⟨U, rfl⟩ : ∃ U : Nat, n = U := ⟨n.toNat, by omega⟩
    exact back_nonneg U z' w he (by omega) (by omega)
end Go.Proofs.Qxb6605769aDoor
