import Derived.Test.Qxb6614248aCaps
import Derived.Test.Qxb6614248aPlain
namespace Go.Proofs.Qxb6614248a
open Go.RowKit
open Go.Sort (grow)
set_option linter.unusedVariables false
set_option linter.unusedSimpArgs false

theorem RowsAt.later {w w' : World} {a : Option Addr} {xs : List (Int × Int)} (h : RowsAt w a xs) (hb : Below w.heap.size w w') : RowsAt w' a xs := by
  rcases h with h | ⟨b, off, rfl, hl, hc⟩
  · exact .inl h
  · refine .inr ⟨b, off, rfl, Nat.lt_of_lt_of_le hl hb.size, fun i hi => ?_⟩
    rw [hb.cell (p := ⟨b, _, none⟩) hl, hb.cell (p := ⟨b, _, none⟩) hl]
    exact hc i hi

theorem caps_any (a : Option Addr) (cap : Nat) (xs : List (Int × Int)) (w : World) (hm : xs.length ≤ 1048576) (hrow : RowsAt w a xs) (hn : a = none → xs = []) (hr : ∀ i, -9223372036854775808 ≤ (xs.getD i (0, 0)).1 ∧ (xs.getD i (0, 0)).1 < 9223372036854775808) :
    Calls Try.prog 9 #[.slice a xs.length cap] w fun e w' => ∃ (a' : Option Addr) (cap' : Nat), e = .returned (.slice a' xs.length cap') ∧ Caps w' a' xs ∧ Below w.heap.size w w' := by
  cases a with
  | none =>
    obtain rfl := hn rfl
    exact (caps_nil w _ cap).mono fun e w' ⟨he, hw⟩ => ⟨none, 0, by subst he; rfl, .inl rfl, by subst hw; exact Below.refl _ _⟩
  | some x => exact (caps_some x cap xs w hm hrow hr).mono fun e w' ⟨he, hc, hb⟩ => ⟨_, _, he, hc, hb⟩

set_option maxHeartbeats 1000000 in
theorem main_long (s1 s2 : ByteArray) (a : Option Addr) (n cap : Nat) (d : Int) (w : World) (h1 : s1.size ≤ maxLen) (h2 : s2.size ≤ maxLen) (h3 : n ≤ maxLen)
    (hlong : ¬ (s1.size + s2.size + n ≤ 1048576) ∨ 65536 < n ∨ 1048576 < s1.size + s2.size + 16 * n) :
    Calls Try.prog 4 #[.string s1, .string s2, .slice a n cap, .int .i64 d] w fun e w' => e = .returned (.bool true) ∧ w' = w := by
  have hz := zz_any s1 s2 a n cap d w h1 h2 h3
  unfold maxLen at h1 h2 h3
  by_cases hf : s1.size + s2.size + n ≤ 1048576
  · rw [decide_eq_true hf] at hz
    by_cases hn : n ≤ 65536
    · have ht : 1048576 < s1.size + s2.size + 16 * n := by omega
      clear hlong
      go_enter Try.func4, Try.ntmps4
      go_wp2_with (go_at_call 8; refine hz.mono ?_; rintro e w' ⟨rfl, rfl⟩)
      go_ret
      exact ⟨rfl, rfl⟩
    · clear hlong
      go_enter Try.func4, Try.ntmps4
      go_wp2_with (go_at_call 8; refine hz.mono ?_; rintro e w' ⟨rfl, rfl⟩)
      go_ret
      exact ⟨rfl, rfl⟩
  · rw [decide_eq_false hf] at hz
    clear hlong
    go_enter Try.func4, Try.ntmps4
    go_wp2_with (go_at_call 8; refine hz.mono ?_; rintro e w' ⟨rfl, rfl⟩)
    go_ret
    exact ⟨rfl, rfl⟩

end Go.Proofs.Qxb6614248a
