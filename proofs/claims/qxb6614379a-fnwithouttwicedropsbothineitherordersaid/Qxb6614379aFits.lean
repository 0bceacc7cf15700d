import Derived.Test.Qxb6614379aPush
namespace Go.Proofs.Qxb6614379a
open Go.RowKit
set_option linter.unusedVariables false
set_option linter.unusedSimpArgs false

/-- it returns one of the two bools -/
def RetBool (e : Ending) : Prop := ∃ b, e = .returned (.bool b)

/-- a slice of steps that came in -/
def StepsAt (w : World) (a : Option Addr) (xs : List (ByteArray × Bool)) : Prop :=
  xs.length = 0 ∨ ∃ b off, a = some ⟨b, off, none⟩ ∧ b < w.heap.size ∧ ∀ i, i < xs.length →
    w.cell? ⟨b, off + i * 2, none⟩ = some (.string (xs.getD i (ByteArray.empty, false)).1) ∧ w.cell? ⟨b, off + i * 2 + 1, none⟩ = some (.bool (xs.getD i (ByteArray.empty, false)).2)
theorem StepsAt.later {w w' : World} {a : Option Addr} {xs : List (ByteArray × Bool)} (h : StepsAt w a xs) (hb : Below w.heap.size w w') : StepsAt w' a xs := by
  rcases h with h | ⟨b, off, rfl, hl, hc⟩
  · exact .inl h
  · refine .inr ⟨b, off, rfl, Nat.lt_of_lt_of_le hl hb.size, fun i hi => ?_⟩
    rw [hb.cell (p := ⟨b, _, none⟩) hl, hb.cell (p := ⟨b, _, none⟩) hl]
    exact hc i hi

set_option maxHeartbeats 1000000 in
theorem bytes17 (a : Option Addr) (cap : Nat) (xs : List (ByteArray × Bool)) (u : ByteArray) (w : World) (hx : xs.length ≤ maxLen) (hrow : StepsAt w a xs) :
    Calls Try.prog 17 #[.slice a xs.length cap, .string u] w fun e w' => RetBool e ∧ w' = w := by
  unfold maxLen at hx
  have Hrow : Hid (StepsAt w a xs) := hrow
  clear hrow
  by_cases hl : xs.length ≤ 1048576
  · go_enter Try.func17, Try.ntmps17
    go_wp2_with fail
    go_loop [5, 6] (fun z i => ∃ (k : Nat) (t : Int), k ≤ xs.length ∧ i = .int .i64 k ∧ z = .int .i64 t) (fun _ i => xs.length - (intOf i).toNat)
    case atStart => exact ⟨0, _, Nat.zero_le _, rfl, rfl⟩
    case round =>
      obtain ⟨k, t, hk, rfl, rfl⟩ := hrel
      by_cases hlt : k < xs.length
      · rcases Hrow.out with h | ⟨b, off, rfl, hbl, hcc⟩
        · omega
        obtain ⟨c0, c1⟩ := hcc k hlt
        clear hcc
        generalize xs.getD k (ByteArray.empty, false) = x at *
        go_wp2
        all_goals first
          | (go_round
             case rel => exact ⟨k + 1, _, hlt, by go_num, rfl⟩
             case measure => simp [intOf]; omega)
          | (go_ret; exact ⟨⟨_, rfl⟩, rfl⟩)
      · go_wp2
        all_goals (go_ret; exact ⟨⟨_, rfl⟩, rfl⟩)
  · go_enter Try.func17, Try.ntmps17
    go_wp2_with fail
    go_ret
    exact ⟨⟨_, rfl⟩, rfl⟩

set_option maxHeartbeats 1000000 in
theorem fit18 (a : Option Addr) (cap : Nat) (xs : List (ByteArray × Bool)) (u : ByteArray) (w : World) (hx : xs.length ≤ maxLen) (hrow : StepsAt w a xs) :
    Calls Try.prog 18 #[.slice a xs.length cap, .string u] w fun e w' => RetBool e ∧ w' = w := by
  unfold maxLen at hx
  have Hrow : Hid (StepsAt w a xs) := hrow
  clear hrow
  go_enter Try.func18, Try.ntmps18
  go_wp2_with fail
  go_loop [5, 6] (fun z i => ∃ (k : Nat) (t : Int), k ≤ xs.length ∧ i = .int .i64 k ∧ z = .int .i64 t) (fun _ i => xs.length - (intOf i).toNat)
  case atStart => exact ⟨0, _, Nat.zero_le _, rfl, rfl⟩
  case round =>
    obtain ⟨k, t, hk, rfl, rfl⟩ := hrel
    by_cases hlt : k < xs.length
    · rcases Hrow.out with h | ⟨b, off, rfl, hbl, hcc⟩
      · omega
      obtain ⟨c0, c1⟩ := hcc k hlt
      clear hcc
      generalize xs.getD k (ByteArray.empty, false) = x at *
      go_wp2
      all_goals first
        | (go_round
           case rel => exact ⟨k + 1, _, hlt, by go_num, rfl⟩
           case measure => simp [intOf]; omega)
        | (go_ret; exact ⟨⟨_, rfl⟩, rfl⟩)
    · go_wp2
      all_goals (go_ret; exact ⟨⟨_, rfl⟩, rfl⟩)

end Go.Proofs.Qxb6614379a
