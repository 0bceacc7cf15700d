import Derived.Test.Qxb6605769aDoorDm
namespace Go.Proofs.Qxb6605769aDoor
open Go.RowKit
set_option linter.unusedVariables false
set_option linter.unusedSimpArgs false

set_option maxRecDepth 100000 in
set_option maxHeartbeats 1000000 in
theorem zz6m (s : ByteArray) (hs : s.size ≤ 1099511627776) (w : World) (he : Errs w) :
    Calls Tryd.prog 6 #[.string s] w fun e w' => e = .returned (.tuple #[.int .i64 (num s.data.toList), .bool (plainB s.data.toList && good s.data.toList)]) ∧ Below w.heap.size w w' := by
  have hc := pd_any s hs w he
  clear he
  generalize num s.data.toList = N at *
  generalize (plainB s.data.toList && good s.data.toList) = G at *
  go_enter Tryd.func6, Tryd.ntmps6
  go_wp2_with fail
  refine hc.mono ?_
  rintro e w1 ⟨rfl, hb⟩
  clear hc
  go_wp2
  go_ret2
  exact ⟨rfl, hb⟩

set_option maxRecDepth 100000 in
set_option maxHeartbeats 1000000 in
theorem dm_nil (w : World) : Calls Tryd.prog 7 #[.string ⟨#[]⟩] w fun e w' => e = .returned (.tuple #[.int .i64 0, .bool false, .bool false, .bool false]) ∧ w' = w := by
  go_enter Tryd.func7, Tryd.ntmps7
  go_wp2
  try simp only [Exit.inBlock, Exit.then]
  refine bodyPost_ret (results_tmp4 rfl _ _ _) rfl ?_
  exact ⟨rfl, rfl⟩

theorem dm_any (s : ByteArray) (hs : s.size ≤ 1099511627776) (w : World) :
    Calls Tryd.prog 7 #[.string s] w fun e w' => e = .returned (.tuple #[.int .i64 (md s.data.toList).1, .bool (md s.data.toList).2.1, .bool (md s.data.toList).2.2.1, .bool (md s.data.toList).2.2.2]) ∧ w' = w := by
  by_cases h0 : s.size = 0
  · obtain ⟨d⟩ := s
    have : d = #[] := Array.eq_empty_of_size_eq_zero h0
    subst this
    exact dm_nil w
  have h0 : 0 < s.size := by omega
  by_cases h1 : (s[0]'h0).toNat = 43
  · exact dm_plus s hs h0 h1 w
  by_cases h2 : (s[0]'h0).toNat = 45
  · exact dm_minus s hs h0 h2 w
  · exact dm_bare s hs h0 h1 h2 w

/-- the five ways in which the two answers agree -/
theorem agree_cases (N : Int) (G : Bool) (r1 : Int) (r2 r3 r4 : Bool) (h : agrees N G (r1, r2, r3, r4) = true) :
    (r3 = true ∧ N = r1 ∧ G = r2) ∨ (r3 = false ∧ r4 = true ∧ G = false ∧ (N = 0 ∨ N = -9223372036854775808)) ∨ (r3 = false ∧ r4 = false ∧ G = false ∧ (N = 0 ∨ N = 9223372036854775807)) := by
  unfold agrees at h
  cases r3 <;> cases r4 <;> cases G <;> simp at h ⊢
  all_goals first | exact h | (exact ⟨h.1, h.2⟩) | omega

set_option maxRecDepth 100000 in
set_option maxHeartbeats 1000000 in
theorem match_core (s : ByteArray) (w : World) (hs : s.size ≤ 1048576) (N : Int) (G : Bool) (r1 : Int) (r2 r3 r4 : Bool)
    (h6 : Calls Tryd.prog 6 #[.string s] w fun e w' => e = .returned (.tuple #[.int .i64 N, .bool G]) ∧ Below w.heap.size w w')
    (h7 : ∀ w, Calls Tryd.prog 7 #[.string s] w fun e w' => e = .returned (.tuple #[.int .i64 r1, .bool r2, .bool r3, .bool r4]) ∧ w' = w)
    (h : agrees N G (r1, r2, r3, r4) = true) :
    Calls Tryd.prog 3 #[.string s] w fun e w' => e = .returned (.bool true) ∧ Below w.heap.size w w' := by
  have hs' : (s.size : Int) ≤ 1048576 := by omega
  rcases agree_cases N G r1 r2 r3 r4 h with ⟨rfl, rfl, rfl⟩ | ⟨rfl, rfl, rfl, rfl | rfl⟩ | ⟨rfl, rfl, rfl, rfl | rfl⟩
  all_goals
    clear h
    go_enter Tryd.func3, Tryd.ntmps3
    go_wp2_with (first | (go_at_call 5; go_in) | fail)
    refine h6.mono ?_
    rintro e w1 ⟨rfl, hb⟩
    clear h6
    go_wp2_with fail
    refine (h7 w1).mono ?_
    rintro e w2 ⟨rfl, rfl⟩
    clear h7
    go_wp2
    go_ret
    exact ⟨by first | rfl | (simp; done), hb⟩

set_option maxRecDepth 100000 in
set_option maxHeartbeats 1000000 in
theorem match_long (s : ByteArray) (w : World) (hs : 1048576 < s.size) (hm : s.size ≤ maxLen) :
    Calls Tryd.prog 3 #[.string s] w fun e w' => e = .returned (.bool true) ∧ w' = w := by
  unfold maxLen at hm
  have hs' : 1048576 < (s.size : Int) := by omega
  go_enter Tryd.func3, Tryd.ntmps3
  go_wp2
  go_ret
  exact ⟨rfl, rfl⟩

theorem match_any (s : ByteArray) (w : World) (hm : s.size ≤ maxLen) (he : Errs w) :
    Calls Tryd.prog 3 #[.string s] w fun e w' => e = .returned (.bool true) ∧ Below w.heap.size w w' := by
  by_cases hs : 1048576 < s.size
  · exact (match_long s w hs hm).mono fun e w' ⟨h, hw⟩ => ⟨h, by subst hw; exact Below.refl _ _⟩
  · exact match_core s w (by omega) _ _ _ _ _ _ (zz6m s (by omega) w he) (fun w => dm_any s (by omega) w) (law s.data.toList)
end Go.Proofs.Qxb6605769aDoor
