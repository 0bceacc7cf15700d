import Derived.Test.Qxb6614379aStk
namespace Go.Proofs.Qxb6614379a
open Go.RowKit
set_option linter.unusedVariables false
set_option linter.unusedSimpArgs false

set_option maxRecDepth 100000 in
set_option maxHeartbeats 1000000 in
theorem bytes9 (a : Option Addr) (cap : Nat) (xs : List Pu) (u : ByteArray) (w : World) (hx : xs.length ≤ maxLen) (hrow : PushesAt w a xs) :
    Calls Try.prog 9 #[.slice a xs.length cap, .string u] w fun e w' => RetBool e ∧ w' = w := by
  unfold maxLen at hx
  have Hrow : Hid (PushesAt w a xs) := hrow
  clear hrow
  by_cases hl : xs.length ≤ 1048576
  · go_enter Try.func9, Try.ntmps9
    go_wp2_with fail
    go_loop [5, 6] (fun z i => ∃ (k : Nat) (t : Int), k ≤ xs.length ∧ i = .int .i64 k ∧ z = .int .i64 t) (fun _ i => xs.length - (intOf i).toNat)
    case atStart => exact ⟨0, _, Nat.zero_le _, rfl, rfl⟩
    case round =>
      obtain ⟨k, t, hk, rfl, rfl⟩ := hrel
      by_cases hlt : k < xs.length
      · rcases Hrow.out with h | ⟨b, off, rfl, hbl, hcc⟩
        · omega
        obtain ⟨c0, c1⟩ := hcc k hlt
        clear hcc
        generalize px xs k = q at *
        generalize ur xs k = r at *
        go_wp2
        all_goals first
          | (go_round
             case rel => exact ⟨k + 1, _, hlt, by go_num, rfl⟩
             case measure => simp [intOf]; omega)
          | (go_ret; exact ⟨⟨_, rfl⟩, rfl⟩)
      · go_wp2
        all_goals (go_ret; exact ⟨⟨_, rfl⟩, rfl⟩)
  · go_enter Try.func9, Try.ntmps9
    go_wp2_with fail
    go_ret
    exact ⟨⟨_, rfl⟩, rfl⟩

set_option maxRecDepth 100000 in
set_option maxHeartbeats 1000000 in
theorem fit10 (a : Option Addr) (cap : Nat) (xs : List Pu) (u : ByteArray) (w : World) (hx : xs.length ≤ maxLen) (hrow : PushesAt w a xs) :
    Calls Try.prog 10 #[.slice a xs.length cap, .string u] w fun e w' => RetBool e ∧ ∃ n, w' = w.drewN n := by
  unfold maxLen at hx
  have Hrow : Hid (PushesAt w a xs) := hrow
  clear hrow
  go_enter Try.func10, Try.ntmps10
  go_wp2_with fail
  go_loopw [5, 6] (fun z i wr => ∃ (k n : Nat) (t : Int), k ≤ xs.length ∧ i = .int .i64 k ∧ z = .int .i64 t ∧ wr = w.drewN n) (fun _ i _ => xs.length - (intOf i).toNat)
  case atStart => exact ⟨0, 0, _, Nat.zero_le _, rfl, rfl, rfl⟩
  case round =>
    obtain ⟨k, n, t, hk, rfl, rfl, rfl⟩ := hrel
    by_cases hlt : k < xs.length
    · rcases Hrow.out with h | ⟨b, off, rfl, hbl, hcc⟩
      · omega
      obtain ⟨c0, c1⟩ := hcc k hlt
      clear hcc
      generalize px xs k = q at *
      generalize ur xs k = r at *
      have i0 : (0 : Int) ≤ (k : Int) := by omega
      have i1 : (k : Int) < (xs.length : Int) := by omega
      go_wp2_with fail
      go_quiet (fail)
      go_wp2
      all_goals first
        | (go_roundw
           case rel => exact ⟨k + 1, _, _, hlt, by go_num, rfl, rfl⟩
           case measure => simp [intOf]; omega)
        | (go_ret; exact ⟨⟨_, rfl⟩, _, rfl⟩)
    · go_wp2
      all_goals (go_ret; exact ⟨⟨_, rfl⟩, _, rfl⟩)

end Go.Proofs.Qxb6614379a
