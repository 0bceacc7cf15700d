import Derived.Test.Qxb6605732aMem
import Derived.Below
namespace Go.Proofs.Qxb6605732a
open Go.RowKit
open Go.Sort (grow)
set_option linter.unusedVariables false
set_option linter.unusedSimpArgs false

/-- a slice of bytes that lies below block R and shows the list l -/
def View (R : Nat) (w : World) (a : Option Addr) (n c : Nat) (l : List UInt8) : Prop :=
  l.length = n ∧ n ≤ c ∧ ((a = none ∧ c = 0) ∨ ∃ g o, a = some ⟨g, o, none⟩ ∧ g < R ∧ ∀ i, i < n → w.cell? ⟨g, o + i, none⟩ = some (.int .u8 (l.getD i 0).toNat))

theorem View.below {R : Nat} {w w' : World} {a : Option Addr} {n c : Nat} {l : List UInt8} (h : View R w a n c l) (hb : Below R w w') : View R w' a n c l := by
  obtain ⟨h1, h2, h | ⟨g, o, rfl, hg, hc⟩⟩ := h
  · exact ⟨h1, h2, .inl h⟩
  · exact ⟨h1, h2, .inr ⟨g, o, rfl, hg, fun i hi => (hb.cell hg).trans (hc i hi)⟩⟩
theorem View.nil (R : Nat) (w : World) : View R w none 0 0 [] := ⟨rfl, Nat.le_refl _, .inl ⟨rfl, rfl⟩⟩
theorem View.up {R R' : Nat} {w : World} {a : Option Addr} {n c : Nat} {l : List UInt8} (h : View R w a n c l) (hb : R ≤ R') : View R' w a n c l := by
  obtain ⟨h1, h2, h | ⟨g, o, rfl, hg, hc⟩⟩ := h
  · exact ⟨h1, h2, .inl h⟩
  · exact ⟨h1, h2, .inr ⟨g, o, rfl, by omega, hc⟩⟩

/-- what a cut leaves of the base address -/
def cutA (a : Option Addr) (c k : Nat) : Option Addr := if c = k then a else a.map (·.add k)
theorem View.take {R : Nat} {w : World} {a : Option Addr} {n c : Nat} {l : List UInt8} (h : View R w a n c l) {k : Nat} (hk : k ≤ n) : View R w (cutA a c 0) k c (l.take k) := by
  obtain ⟨h1, h2, h3⟩ := h
  refine ⟨by rw [List.length_take]; omega, by omega, ?_⟩
  rcases h3 with ⟨rfl, hc⟩ | ⟨g, o, rfl, hg, hc⟩
  · left; refine ⟨?_, hc⟩; unfold cutA; simp
  · right
    refine ⟨g, o, ?_, hg, fun i hi => ?_⟩
    · unfold cutA; split <;> simp [Addr.add]
    · rw [hc i (by omega)]
      simp [List.getD, List.getElem?_take, hi]
theorem View.drop {R : Nat} {w : World} {a : Option Addr} {n c : Nat} {l : List UInt8} (h : View R w a n c l) {k : Nat} (hk : k ≤ n) : View R w (cutA a c k) (n - k) (c - k) (l.drop k) := by
  obtain ⟨h1, h2, h3⟩ := h
  refine ⟨by rw [List.length_drop]; omega, by omega, ?_⟩
  rcases h3 with ⟨rfl, hc⟩ | ⟨g, o, rfl, hg, hc⟩
  · left; refine ⟨?_, by omega⟩; unfold cutA; simp
  · right
    unfold cutA
    by_cases hck : c = k
    · rw [if_pos hck]
      exact ⟨g, o, rfl, hg, fun i hi => by omega⟩
    · rw [if_neg hck]
      refine ⟨g, o + k, ?_, hg, fun i hi => ?_⟩
      · simp only [Option.map_some, Addr.add]; split <;> simp_all
      · rw [Nat.add_assoc, hc (k + i) (by omega)]
        simp [List.getD, List.getElem?_drop]

theorem el22 : Try.prog.elem 22 = 5 := by kernel_rfl
theorem cut_to (a : Option Addr) (n c k : Nat) (hk : k ≤ c) (wx : World) : (Instr.slice 22 (.slice a n c) none (some (.int .i64 k)) none).run Try.prog wx = .ok (.slice (cutA a c 0) k c) wx := by
  rw [run_slice_h (t := 22) (a := a) (len := n) (cap := c) (ht := by rw [el22]; exact Try.underlying22) (h0 := by omega) (h2 := by omega)]
  have : Try.prog.cellsOf 5 = 1 := by kernel_rfl
  simp [el22, go_sem, this, Result.andThen, sliced, cutA]
theorem cut_from (a : Option Addr) (n c k : Nat) (hk : k ≤ n) (wx : World) : (Instr.slice 22 (.slice a n c) (some (.int .i64 k)) none none).run Try.prog wx = .ok (.slice (cutA a c k) (n - k) (c - k)) wx := by
  rw [run_slice_l (t := 22) (a := a) (len := n) (cap := c) (ht := by rw [el22]; exact Try.underlying22) (h0 := by omega) (h1 := by omega)]
  have : Try.prog.cellsOf 5 = 1 := by kernel_rfl
  simp [el22, go_sem, this, Result.andThen, sliced, cutA]


/-! ### (*reader).bytes -/
set_option maxRecDepth 100000 in
set_option maxHeartbeats 1000000 in
theorem bytes19 (R : Nat) (a : Option Addr) (n c : Nat) (l : List UInt8) (ok : Bool) (k : Nat) (w : World) (hr : Has w R [.slice a n c, .bool ok] 38) (hv : View R w a n c l) (hk : k ≤ n) (hn : n ≤ 9000000000000000000) :
    Calls Try.prog 19 #[.pointer (some ⟨R, 0, none⟩), .int .i64 k] w fun e w' => e = .returned (.slice (cutA a c 0) k c) ∧ View R w' (cutA a c 0) k c (l.take k) ∧
      Has w' R [.slice (cutA a c k) (n - k) (c - k), .bool ok] 38 ∧ View R w' (cutA a c k) (n - k) (c - k) (l.drop k) ∧ Below R w w' := by
  have c0 := hr.cell 0 rfl
  have c1 := hr.cell 1 rfl
  have fz := hr.frozen 0
  have hnc := hv.2.1
  have t1 := fun wx => cut_to a n c k (by omega) wx
  have t2 := fun wx => cut_from a n c k hk wx
  have V1 : Hid (View R w (cutA a c 0) k c (l.take k)) := hv.take hk
  have V2 : Hid (View R w (cutA a c k) (n - k) (c - k) (l.drop k)) := hv.drop hk
  have H2 : Hid (Has (w.setCell ⟨R, 0, none⟩ (.slice (cutA a c k) (n - k) (c - k))) R [.slice (cutA a c k) (n - k) (c - k), .bool ok] 38) := hr.set 0 _
  have B : Hid (Below R w (w.setCell ⟨R, 0, none⟩ (.slice (cutA a c k) (n - k) (c - k)))) := by
    show Below R w _; exact (Below.refl R w).setCell (p := ⟨R, 0, none⟩) (Nat.le_refl R) _
  clear hv hr
  generalize cutA a c 0 = a1 at *
  generalize cutA a c k = a2 at *
  go_enter Try.func19, Try.ntmps19
  go_wp2
  go_ret
  exact ⟨rfl, V1.out.below B.out, H2.out, V2.out.below B.out, B.out⟩

set_option maxRecDepth 100000 in
set_option maxHeartbeats 1000000 in
theorem bytes19_no (R : Nat) (a : Option Addr) (n c : Nat) (ok : Bool) (k : Nat) (w : World) (hr : Has w R [.slice a n c, .bool ok] 38) (hk : n < k) (hkm : k ≤ 9000000000000000000) :
    Calls Try.prog 19 #[.pointer (some ⟨R, 0, none⟩), .int .i64 k] w fun e w' => e = .returned (.slice none 0 0) ∧ Has w' R [.slice none 0 0, .bool false] 38 ∧ Below R w w' := by
  have c0 := hr.cell 0 rfl
  have c1 := hr.cell 1 rfl
  have fz := hr.frozen 0
  have fz1 := hr.frozen 1
  have h1 : Has (w.setCell ⟨R, 1, none⟩ (.bool false)) R [.slice a n c, .bool false] 38 := hr.set 1 _
  have fz2 := h1.frozen 0
  have d0 := h1.cell 0 rfl
  have H2 : Hid (Has ((w.setCell ⟨R, 1, none⟩ (.bool false)).setCell ⟨R, 0, none⟩ (.slice none 0 0)) R [.slice none 0 0, .bool false] 38) := h1.set 0 _
  have B : Hid (Below R w ((w.setCell ⟨R, 1, none⟩ (.bool false)).setCell ⟨R, 0, none⟩ (.slice none 0 0))) := by
    show Below R w _; exact ((Below.refl R w).setCell (p := ⟨R, 1, none⟩) (Nat.le_refl R) _).setCell (p := ⟨R, 0, none⟩) (Nat.le_refl R) _
  clear hr h1
  go_enter Try.func19, Try.ntmps19
  go_wp2
  go_ret
  exact ⟨rfl, H2.out, B.out⟩
end Go.Proofs.Qxb6605732a
