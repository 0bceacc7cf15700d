import Derived.Test.Qxb6614248aForce
import Derived.Deep.RegionWith
namespace Go.Proofs.Qxb6614248a
open Go.RowKit
set_option linter.unusedVariables false

theorem Caps.later {w w' : World} {a : Option Addr} {xs : List (Int × Int)} (h : Caps w a xs) (hb : Below w.heap.size w w') : Caps w' a xs := by
  rcases h with h | ⟨b, rfl, hl, hc⟩
  · exact .inl h
  · refine .inr ⟨b, rfl, Nat.lt_of_lt_of_le hl hb.size, fun i hi => ?_⟩
    rw [hb.cell (p := ⟨b, _, none⟩) hl, hb.cell (p := ⟨b, _, none⟩) hl, hb.cell (p := ⟨b, _, none⟩) hl, hb.cell (p := ⟨b, _, none⟩) hl]
    exact hc i hi

set_option maxHeartbeats 400000 in
theorem capOn_any (bi : Nat) (a : Option Addr) (cap : Nat) (xs : List (Int × Int)) (day : Int) (w : World) (hm : xs.length ≤ 1048576) (hrow : Caps w a xs)
    (hi : w.cell? ⟨bi, 4, none⟩ = some (.slice a xs.length cap)) :
    Calls Try.prog 11 #[.pointer (some ⟨bi, 0, none⟩), .agg #[.int .u64 (day % 1000000000), .int .i64 (day / 1000000000), .pointer none]] w
      fun e w' => e = .returned (.tuple #[.agg (ent (fnd (inF day xs))).toArray, .bool (inF day xs).isSome]) ∧ Below w.heap.size w w' := by
  have Hrow : Hid (Caps w a xs) := hrow
  clear hrow
  have hbi : bi < w.heap.size := World.block_lt_of_cell? w _ hi
  go_enter Try.func11, Try.ntmps11
  go_wp2
  have hw2 : Below w.heap.size w ((w.alloc (.cells (dat day).toArray 40)).alloc (.cells (ent (0, 0)).toArray 43)) := ((Below.refl _ _).alloc (Nat.le_refl _) _).alloc (by simp) _
  have hr2 := (Hrow.out.later hw2).later ((Below.refl _ _).drew)
  go_region_with (go_at_call 15; refine (force_any a cap xs day _ hm (by exact hr2)).mono ?_; rintro e w1 ⟨rfl, hb1⟩; have He := ((Has.new (w := w.alloc (.cells (dat day).toArray 40)) (ent (0, 0)) 43 (b := w.heap.size + 1) (by simp)).drew).later hb1; have e0 := He.cell 0 rfl; have e1 := He.cell 1 rfl; have e2 := He.cell 2 rfl; have e3 := He.cell 3 rfl; have e4 := He.frozen; simp only [ent])
  all_goals
    go_wp2
    exact bodyPost_ret (v := .tuple #[.agg (ent (fnd (inF day xs))).toArray, .bool (inF day xs).isSome]) (by simp [results, Try.results11, go_sem, e0, e1, e2, e3, ent]) rfl
        ⟨rfl, ((((hw2.trans ((Below.refl _ _).drew)).trans (hb1.mono (by simp; omega))).setCell (by simp) _).setCell (by simp) _).setCell (by simp) _ |>.setCell (by simp) _⟩

end Go.Proofs.Qxb6614248a
