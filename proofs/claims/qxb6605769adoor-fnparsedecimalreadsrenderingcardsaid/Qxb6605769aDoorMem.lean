import Derived.Test.Qxb6605769aDoorRows
import Derived.WalkKit
import Derived.WalkSpells
import Derived.WalkLawsBesides
import Derived.Lib.QuietBelow
namespace Go.Proofs.Qxb6605769aDoor
open Go.RowKit
open Go.Sort (grow)
set_option linter.unusedVariables false

/-- block b holds just these cells, none of them shut to writes -/
def Has (w : World) (b : Nat) (cs : List Value) (t : TypeId) : Prop := w.heap[b]? = some (.cells cs.toArray t)

section
variable {w w' : World} {b B : Nat} {cs : List Value} {t : TypeId}

theorem Has.lt (h : Has w b cs t) : b < w.heap.size := by
  rcases Nat.lt_or_ge b w.heap.size with h' | h'
  · exact h'
  · unfold Has at h; rw [Array.getElem?_eq_none h'] at h; cases h
theorem Has.new (cs : List Value) (t : TypeId) (h : b = w.heap.size) : Has (w.alloc (.cells cs.toArray t)) b cs t := by
  subst h; show (w.heap.push _)[w.heap.size]? = _; simp
theorem Has.alloc (h : Has w b cs t) (o : Obj) : Has (w.alloc o) b cs t := by
  have := h.lt
  show (w.heap.push _)[b]? = _
  rw [Array.getElem?_push, if_neg (by omega)]; exact h
theorem Has.drew (h : Has w b cs t) : Has w.drew b cs t := h
theorem Has.below (h : Has w b cs t) (hb : Below B w w') (hB : b < B) : Has w' b cs t := (hb.block b hB).trans h
theorem Has.later (h : Has w b cs t) (hb : Below w.heap.size w w') : Has w' b cs t := h.below hb h.lt
theorem Has.cell (h : Has w b cs t) (i : Nat) {v : Value} (hv : cs[i]? = some v) : w.cell? ⟨b, i, none⟩ = some v := by
  unfold Has at h; simp [World.cell?, h, hv]
theorem Has.frozen (h : Has w b cs t) (o : Nat) : w.frozen? ⟨b, o, none⟩ = false := by
  unfold Has at h; simp [World.frozen?, h]
theorem Has.set (h : Has w b cs t) (i : Nat) (v : Value) : Has (w.setCell ⟨b, i, none⟩ v) b (cs.set i v) t := by
  unfold Has at h ⊢
  simp [World.setCell, Array.getElem?_modify, h]
theorem Has.other (h : Has w b cs t) {a : Addr} (hne : b ≠ a.block) (v : Value) : Has (w.setCell a v) b cs t := by
  unfold Has at h ⊢; rw [Below.heap_setCell _ _ _ _ hne]; exact h
theorem Has.regrown (h : Has w b cs t) (d : Nat) (os : Array Obj) : Has (grow (redrawn w d) os) b cs t := h.later (below_regrown w d os)
end

end Go.Proofs.Qxb6605769aDoor
