import Derived.Test.Qxb6605732aClone
import Derived.OwnWalk
namespace Go.Proofs.Qxb6605732a
open Go.RowKit
open Go.Sort (grow)
open Go.Lib
set_option linter.unusedVariables false
set_option linter.unusedSimpArgs false

/-- what the model hands out: two views and the flag -/
def Out (R : Nat) (w : World) (q : List UInt8 × List UInt8 × Bool) (e : Ending) : Prop :=
  ∃ a1 n1 c1 a2 n2 c2, e = .returned (.tuple #[.slice a1 n1 c1, .slice a2 n2 c2, .bool q.2.2]) ∧ View R w a1 n1 c1 q.1 ∧ View R w a2 n2 c2 q.2.1
theorem Out.none (R : Nat) (w : World) : Out R w ([], [], false) (.returned (.tuple #[.slice none 0 0, .slice none 0 0, .bool false])) := ⟨_, _, _, _, _, _, rfl, View.nil _ _, View.nil _ _⟩
theorem below_draws (w : World) (t : Nat) : Below w.heap.size w (w.drewN t) := below_drewN (Below.refl _ _) t
theorem View.drewN {R : Nat} {w : World} {a : Option Addr} {n c : Nat} {l : List UInt8} (h : View R w a n c l) (t : Nat) : View R (w.drewN t) a n c l :=
  h.below ⟨rfl, rfl, rfl, Nat.le_refl _, fun _ _ => rfl⟩

set_option maxRecDepth 100000 in
set_option maxHeartbeats 1000000 in
theorem mod_nil (R : Nat) (a : Option Addr) (n c : Nat) (ok : Bool) (w : World) (h : View R w a n c []) :
    Calls Try.prog 7 #[.slice a n c, .bool ok] w fun e w' => Out R w' ([], [], false) e ∧ ∃ t, w' = w.drewN t := by
  obtain rfl := h.1
  clear h
  go_enter Try.func7, Try.ntmps7
  go_wp2
  go_ret3
  exact ⟨Out.none _ _, 0, rfl⟩

set_option maxRecDepth 100000 in
set_option maxHeartbeats 1000000 in
theorem mod_251 (R : Nat) (a : Option Addr) (n c : Nat) (ok : Bool) (w : World) (t : List UInt8) (h : View R w a n c (251 :: t)) (hm : t.length < 9000000000000) :
    Calls Try.prog 7 #[.slice a n c, .bool ok] w fun e w' => Out R w' ([], t, false) e ∧ ∃ t, w' = w.drewN t := by
  obtain rfl := h.1
  obtain ⟨g, o, rfl, _, hc⟩ := h.some (by simp)
  have c0 : w.cell? ⟨g, o, none⟩ = some (.int .u8 251) := hc 0 (by simp)
  have V : Hid (View R w (cutA (some ⟨g, o, none⟩) c 1) t.length (c - 1) t) := h.drop (k := 1) (by simp)
  have t1 : ∀ wx, (Instr.slice 22 (.slice (some ⟨g, o, none⟩) (t.length + 1) c) (some (.int .i64 1)) none none).run Try.prog wx = .ok (.slice (cutA (some ⟨g, o, none⟩) c 1) t.length (c - 1)) wx := fun wx => cut_from (some ⟨g, o, none⟩) (t.length + 1) c 1 (by omega) wx
  clear hc h
  simp only [List.length_cons]
  generalize cutA (some ⟨g, o, none⟩) c 1 = a2 at *
  go_enter Try.func7, Try.ntmps7
  go_wp2
  go_quiet (fail)
  go_wp2
  go_ret3
  exact ⟨⟨_, _, _, _, _, _, rfl, View.nil _ _, V.out.drewN _⟩, _, rfl⟩

set_option maxRecDepth 100000 in
set_option maxHeartbeats 1000000 in
theorem mod_255 (R : Nat) (a : Option Addr) (n c : Nat) (ok : Bool) (w : World) (t : List UInt8) (h : View R w a n c (255 :: t)) (hm : t.length < 9000000000000) :
    Calls Try.prog 7 #[.slice a n c, .bool ok] w fun e w' => Out R w' ([], t, false) e ∧ ∃ t, w' = w.drewN t := by
  obtain rfl := h.1
  obtain ⟨g, o, rfl, _, hc⟩ := h.some (by simp)
  have c0 : w.cell? ⟨g, o, none⟩ = some (.int .u8 255) := hc 0 (by simp)
  have V : Hid (View R w (cutA (some ⟨g, o, none⟩) c 1) t.length (c - 1) t) := h.drop (k := 1) (by simp)
  have t1 : ∀ wx, (Instr.slice 22 (.slice (some ⟨g, o, none⟩) (t.length + 1) c) (some (.int .i64 1)) none none).run Try.prog wx = .ok (.slice (cutA (some ⟨g, o, none⟩) c 1) t.length (c - 1)) wx := fun wx => cut_from (some ⟨g, o, none⟩) (t.length + 1) c 1 (by omega) wx
  clear hc h
  simp only [List.length_cons]
  generalize cutA (some ⟨g, o, none⟩) c 1 = a2 at *
  go_enter Try.func7, Try.ntmps7
  go_wp2
  go_quiet (fail)
  go_wp2
  go_ret3
  exact ⟨⟨_, _, _, _, _, _, rfl, View.nil _ _, V.out.drewN _⟩, _, rfl⟩
end Go.Proofs.Qxb6605732a
