import Derived.Test.Qxb6614379aBuild
namespace Go.Proofs.Qxb6614379a
open Go.RowKit
set_option linter.unusedVariables false
set_option linter.unusedSimpArgs false

set_option maxRecDepth 100000 in
set_option maxHeartbeats 2000000 in
theorem bytes28 (wn : ByteArray) (la : Int) (u : ByteArray) (a : Option Addr) (cap : Nat) (xs : List At) (i j : Int) (w : World) (hrow : AttrsAt w a xs) (h1 : wn.size ≤ maxLen) (h2 : u.size ≤ maxLen) (hx : xs.length ≤ maxLen) :
    Calls Try.prog 28 #[.string wn, .int .i64 la, .string u, .slice a xs.length cap, .int .i64 i, .int .i64 j] w fun e w' => RetBool e ∧ w' = w := by
  unfold maxLen at hx h1 h2
  have Hrow : Hid (AttrsAt w a xs) := hrow
  clear hrow
  by_cases hf : wn.size + u.size + xs.length ≤ 1048576
  · go_enter Try.func28, Try.ntmps28
    go_wp2_with fail
    go_loop [13, 14] (fun z i => ∃ (k : Nat) (t : Int), k ≤ xs.length ∧ i = .int .i64 k ∧ z = .int .i64 t) (fun _ i => xs.length - (intOf i).toNat)
    case atStart => exact ⟨0, _, Nat.zero_le _, rfl, rfl⟩
    case round =>
      obtain ⟨k, t, hk, rfl, rfl⟩ := hrel
      by_cases hlt : k < xs.length
      · rcases Hrow.out with h | ⟨b, off, rfl, hbl, hcc⟩
        · omega
        obtain ⟨c0, c1, c2, c3⟩ := hcc k hlt
        clear hcc
        generalize xs.getD k atD = x at *
        go_wp2
        all_goals first
          | (go_round
             case rel => exact ⟨k + 1, _, hlt, by go_num, rfl⟩
             case measure => simp [intOf]; omega)
          | (go_ret; exact ⟨⟨_, rfl⟩, rfl⟩)
      · go_wp2
        all_goals (go_ret; exact ⟨⟨_, rfl⟩, rfl⟩)
  · go_enter Try.func28, Try.ntmps28
    go_wp2_with fail
    all_goals (go_ret; exact ⟨⟨_, rfl⟩, rfl⟩)

set_option maxRecDepth 100000 in
set_option maxHeartbeats 2000000 in
theorem fit29 (wn u : ByteArray) (a : Option Addr) (cap : Nat) (xs : List At) (w : World) (hrow : AttrsAt w a xs) (h1 : wn.size ≤ 65536) (h2 : u.size ≤ 65536) (hx : xs.length ≤ 4096) :
    Calls Try.prog 29 #[.string wn, .string u, .slice a xs.length cap] w fun e w' => RetBool e ∧ ∃ n, w' = w.drewN n := by
  have Hrow : Hid (AttrsAt w a xs) := hrow
  clear hrow
  go_enter Try.func29, Try.ntmps29
  go_wp2_with fail
  go_loopw [7, 8] (fun z i wr => ∃ (k n : Nat) (t : Int), k ≤ xs.length ∧ i = .int .i64 k ∧ z = .int .i64 t ∧ wr = w.drewN n) (fun _ i _ => xs.length - (intOf i).toNat)
  case atStart => exact ⟨0, 0, _, Nat.zero_le _, rfl, rfl, rfl⟩
  case round =>
    obtain ⟨k, n, t, hk, rfl, rfl, rfl⟩ := hrel
    by_cases hlt : k < xs.length
    · rcases Hrow.out with h | ⟨b, off, rfl, hbl, hcc⟩
      · omega
      obtain ⟨c0, c1, c2, c3⟩ := hcc k hlt
      clear hcc
      generalize xs.getD k atD = x at *
      have i0 : (0 : Int) ≤ (k : Int) := by omega
      have i1 : (k : Int) < (xs.length : Int) := by omega
      go_wp2_with fail
      go_quiet (fail)
      go_wp2
      all_goals first
        | (go_roundw
           case rel => exact ⟨k + 1, _, _, hlt, by go_num, rfl, rfl⟩
           case measure => simp [intOf]; omega)
        | (go_ret; exact ⟨⟨_, rfl⟩, _, rfl⟩)
    · go_wp2
      all_goals (go_ret; exact ⟨⟨_, rfl⟩, _, rfl⟩)

set_option maxRecDepth 100000 in
set_option maxHeartbeats 2000000 in
theorem qn20 (wn : ByteArray) (la : Int) (w : World) (h1 : wn.size ≤ 65536) :
    Calls Try.prog 20 #[.string wn, .int .i64 la] w fun e w' => RetBool e ∧ w' = w := by
  go_enter Try.func20, Try.ntmps20
  go_wp2_with fail
  go_loop [5, 6, 7] (fun c z i => ∃ (k : Nat) (t q : Int), k ≤ wn.size ∧ i = .int .i64 k ∧ z = .int .i64 t ∧ c = .int .i64 q) (fun _ _ i => wn.size - (intOf i).toNat)
  case atStart => exact ⟨0, _, _, Nat.zero_le _, rfl, rfl, rfl⟩
  case round =>
    obtain ⟨k, t, q, hk, rfl, rfl, rfl⟩ := hrel
    by_cases hlt : k < wn.size
    · go_wp2
      all_goals
        (go_round
         case rel => exact ⟨k + 1, _, _, hlt, by go_num, rfl, rfl⟩
         case measure => simp [intOf]; omega)
    · go_wp2
      all_goals (go_ret; exact ⟨⟨_, rfl⟩, rfl⟩)

end Go.Proofs.Qxb6614379a
