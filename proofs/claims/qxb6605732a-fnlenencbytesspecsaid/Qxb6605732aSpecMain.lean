import Derived.Test.Qxb6605732aSpec
namespace Go.Proofs.Qxb6605732a
open Go.RowKit
open Go.Sort (grow)
open Go.Lib
set_option linter.unusedVariables false
set_option linter.unusedSimpArgs false

set_option maxRecDepth 100000 in
set_option maxHeartbeats 1000000 in
theorem spec_main (a : Option Addr) (cap : Nat) (l : List UInt8) (ok : Bool) (w : World) (h : ArgAt w a l.length l) (hm : l.length ≤ 1048576) :
    Calls Try.prog 3 #[.slice a l.length cap, .bool ok] w fun e w' => e = .returned (.bool true) ∧ Below w.heap.size w w' := by
  have hcl := clone_any a cap l w hm h
  clear h
  go_enter Try.func3, Try.ntmps3
  go_wp2_with (first | (go_at_call 5; go_in) | fail)
  refine hcl.mono ?_
  rintro e w1 ⟨a1, c1, rfl, hv, hb1⟩
  clear hcl
  have hmo := mod_any _ a1 _ c1 l ok w1 hv (by omega)
  have Hv : Hid (View w1.heap.size w1 a1 l.length c1 l) := hv
  clear hv
  go_wp2_with fail
  refine hmo.mono ?_
  rintro e w2 ⟨⟨a3, n3, c3, a4, n4, c4, rfl, v3, v4⟩, t, hw2⟩
  have hb2 : Below w1.heap.size w1 w2 := by rw [hw2]; exact below_draws _ _
  have hs2 : w2.heap.size = w1.heap.size := by rw [hw2]; rfl
  have hv2 : View w2.heap.size w2 a1 l.length c1 l := by rw [hs2]; exact Hv.out.below hb2
  rw [← hs2] at v3 v4
  have V3 : Hid (View w2.heap.size w2 a3 n3 c3 (lenBytes l ok).1) := v3
  have V4 : Hid (View w2.heap.size w2 a4 n4 c4 (lenBytes l ok).2.1) := v4
  have hb12 : Below w.heap.size w w2 := hb1.trans (hb2.mono hb1.size)
  clear hw2 hmo Hv hb2 v3 v4 hs2 hb1
  have hne := new_any a1 l.length c1 l ok w2 hv2
  clear hv2
  go_wp2_with fail
  refine hne.mono ?_
  rintro e w3 ⟨rfl, hr, hb3⟩
  have hrd := rd9 _ l ok w3 hr (by omega)
  clear hne hr
  go_wp2_with fail
  refine hrd.mono ?_
  rintro e w4 ⟨a5, n5, c5, rfl, v5, ⟨a6, n6, c6, hh, v6⟩, hb4⟩
  have hb34 : Below w2.heap.size w2 w4 := hb3.trans hb4
  have hx1 := eq_any _ _ a5 a3 n5 n3 c5 c3 _ w4 v5 (V3.out.below hb34) (by
    have := lenInt_len l ok
    unfold lenBytes
    split
    · simp
    · simp only [List.length_take]; omega)
  have hx2 := fun t => eq_any _ _ a6 a4 n6 n4 c6 c4 _ (w4.drewN t) (v6.drewN t) ((V4.out.below hb34).drewN t) (by
    have := lenInt_len l ok
    unfold lenBytes
    split
    · simp
    · simp only [List.length_drop]; omega)
  have hk1 := fun t => b11 _ _ _ _ _ (w4.drewN t) (hh.later (below_draws w4 t))
  have hk2 := fun t => ok12 _ _ _ _ _ (w4.drewN t) (hh.later (below_draws w4 t))
  have HB : Hid (Below w.heap.size w w4) := hb12.trans (hb34.mono hb12.size)
  clear hrd v5 v6 hh V3 V4 hb34 hb4 hb3 hb12
  generalize lenBytes l ok = q at *
  go_wp2_with fail
  refine hx1.mono ?_
  rintro e w5 ⟨rfl, t1, rfl⟩
  clear hx1
  go_wp2_with fail
  refine (hk1 t1).mono ?_
  rintro e w5 ⟨rfl, rfl⟩
  go_wp2_with fail
  refine (hx2 t1).mono ?_
  rintro e w5 ⟨rfl, t2, hw5⟩
  rw [World.drewN_drewN] at hw5
  subst hw5
  go_wp2_with fail
  refine (hk2 _).mono ?_
  rintro e w5 ⟨rfl, rfl⟩
  clear hk1 hk2 hx2
  go_wp2
  go_ret
  exact ⟨by simp, below_drewN HB.out _⟩
end Go.Proofs.Qxb6605732a
