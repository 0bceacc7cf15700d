import Derived.Test.Qxb6614379aWo
import Derived.Test.Qxb6614379aGate
import Derived.Deep.AppendLies
namespace Go.Proofs.Qxb6614379a
open Go.RowKit
set_option linter.unusedVariables false
set_option linter.unusedSimpArgs false

theorem Has.far {w : World} {b : Nat} {cs : List Value} {t : TypeId} (h : Has w b cs t) (ht : t ≠ 93) {base n : Nat} {v : Value} {xs : List Value} (hr : w.ownsRow base 93 6 v n xs) : some b ≠ v.ownBlock := by
  intro e
  rcases hr.2 with ⟨rfl, _⟩ | ⟨g, cap, cur, rfl, _, hh, _⟩
  · cases e
  · simp [Value.ownBlock] at e
    subst e
    unfold Has at h
    rw [h] at hh
    simp at hh
    exact ht hh.2
theorem Has.grown {w w' : World} {b : Nat} {cs : List Value} {t : TypeId} (h : Has w b cs t) {r : Option Nat} (hg : w.grownBy w' r) (hne : some b ≠ r) : Has w' b cs t := (hg.block b h.lt hne).trans h

/-- the element once the attribute is appended: W: the world ahead of the statement; W1: behind the append -/
theorem app_end {W W1 : World} {B e h t bb g cap : Nat} {la : Int} {ns p : Option Addr} {wn : ByteArray} {L : Acs} {v : Value} {x : At}
    (h1 : Has W e [.pointer (some ⟨h, 0, none⟩), .int .i64 0, .pointer (some ⟨bb, 0, none⟩)] 79) (h2 : Has W bb [v, .slice none 0 0] 98) (h3 : Has W h [.pointer (some ⟨t, 0, none⟩), .pointer none] 75) (h4 : Has W t [.string wn, .int .i64 la, .pointer ns] 72)
    (hB1 : B ≤ e) (hB2 : B ≤ bb) (hown : W.ownsRow B 93 6 v L.length (L.flatMap acell))
    (hgrow : (W.alloc (.cells (acell (x, p)).toArray 93)).drew.grownBy W1 v.ownBlock) (hown1 : W1.ownsRow B 93 6 (.slice (some ⟨g, 0, none⟩) (L.length + 1) cap) (L.length + 1) (L.flatMap acell ++ acell (x, p))) :
    ElemAt (W1.setCell ⟨bb, 0, none⟩ (.slice (some ⟨g, 0, none⟩) (L.length + 1) cap)) B e wn (L ++ [(x, p)]) ∧ Below B W (W1.setCell ⟨bb, 0, none⟩ (.slice (some ⟨g, 0, none⟩) (L.length + 1) cap)) := by
  have g1 := (h1.alloc (.cells (acell (x, p)).toArray 93)).drew.grown hgrow (h1.far (by decide) hown)
  have g2 := (h2.alloc (.cells (acell (x, p)).toArray 93)).drew.grown hgrow (h2.far (by decide) hown)
  have g3 := (h3.alloc (.cells (acell (x, p)).toArray 93)).drew.grown hgrow (h3.far (by decide) hown)
  have g4 := (h4.alloc (.cells (acell (x, p)).toArray 93)).drew.grown hgrow (h4.far (by decide) hown)
  have ne : ∀ {b : Nat} {cs : List Value} {t : TypeId}, Has W1 b cs t → t ≠ 98 → b ≠ bb := fun hb ht e => by
    subst e
    unfold Has at hb g2
    rw [hb] at g2
    simp at g2
    exact ht g2.2
  refine ⟨⟨h, t, la, ns, some ⟨bb, 0, none⟩, g1.other (ne g1 (by decide)) _, g3.other (ne g3 (by decide)) _, g4.other (ne g4 (by decide)) _, hB1, .inr ⟨bb, _, rfl, hB2, g2.set 0 _, ?_⟩⟩, ?_⟩
  · rw [List.flatMap_append, List.length_append]
    simp only [List.flatMap_cons, List.flatMap_nil, List.append_nil, List.length_cons, List.length_nil]
    refine ownsRow_kept hown1 (fun k hk => ?_)
    rw [Below.heap_setCell _ _ _ _ (fun e => ?_)]
    have hne := g2.far (by decide) hown1
    rw [hk] at hne
    exact hne (by rw [e])
  · refine Below.setCell ?_ hB2 _
    have hW : B ≤ W.heap.size := Nat.le_trans hB1 (Nat.le_of_lt h1.lt)
    exact (((Below.refl _ _).alloc hW _).drew).grown hgrow (by simp; omega) (fun k hk => (ownsRow_block hown hk).1)

theorem acell_news (w : World) (x : At × Option Addr) : ∀ j u, (acell x)[j]? = some u → (w.alloc (.cells (acell x).toArray 93)).drew.cell? ((⟨w.heap.size, 0, none⟩ : Addr).add j) = some u := fun j u hj => by
  have := (Has.new (w := w) (acell x) 93 rfl).cell j hj
  rw [WideShapes.add_plain, Nat.zero_add]
  exact this
theorem acell_one1 (x : At × Option Addr) : ∀ u ∈ acell x, u.oneCell' = true := by
  intro u hu
  simp [acell] at hu
  rcases hu with rfl | rfl | rfl | rfl | rfl | rfl <;> rfl

set_option maxRecDepth 100000 in
set_option maxHeartbeats 1000000 in
theorem app_e1 (e h t bb B : Nat) (la : Int) (ns : Option Addr) (wn : ByteArray) (v : Value) (x : At) (L : Acs) (w : World) (hs : x.sp.toList.isEmpty = true)
    (h1 : Has w e [.pointer (some ⟨h, 0, none⟩), .int .i64 0, .pointer (some ⟨bb, 0, none⟩)] 79) (h2 : Has w bb [v, .slice none 0 0] 98) (h3 : Has w h [.pointer (some ⟨t, 0, none⟩), .pointer none] 75) (h4 : Has w t [.string wn, .int .i64 la, .pointer ns] 72)
    (hB1 : B ≤ e) (hB2 : B ≤ bb) (hown : w.ownsRow B 93 6 v L.length (L.flatMap acell)) (hm : L.length ≤ 10000) :
    Calls Try.prog 42 #[.pointer (some ⟨e, 0, none⟩), .string x.sp, .string x.lo, .string x.pf, .string x.va] w fun r w' => r = .returned (.tuple #[]) ∧ (∃ p, ElemAt w' B e wn (L ++ [(x, p)])) ∧ Below B w w' := by
  have hel := h1.lt
  have hhl := h3.lt
  have htl := h4.lt
  have c2 := h1.cell 2 rfl
  have d0 := h2.cell 0 rfl
  have H1 := h1
  have H2 := h2
  have H3 := h3
  have H4 := h4
  have HO := hown
  have HB : Below B w w := Below.refl _ _
  have hbl := h2.lt
  obtain ⟨i0, hi0, hz0, hz1, hz2⟩ := info_parts info93
  have C2 := H1.cell 2 rfl
  have D0 := H2.cell 0 rfl
  go_enter Try.func42, Try.ntmps42
  go_wp2
  refine wp_region_gate 18 20 (fun w' => w'.cell? ⟨e, 2, none⟩ = some (.pointer (some ⟨bb, 0, none⟩)) ∧ w'.cell? ⟨bb, 0, none⟩ = some v) (by kernel_rfl) (by kernel_rfl) (fun c a d u w h => by cases d <;> exact h) ⟨C2, D0⟩ ?_
  simp only [List.take_succ_cons, List.take_zero, List.drop_succ_cons, List.drop_zero]
  iterate 18
    apply wpHeld_step
    · rfl
    · intro w' hS
      obtain ⟨s0, s1⟩ := hS
      go_simp
      rfl
    simp only [Act.put, List.setIfInBounds_toArray, List.set_cons_zero, List.set_cons_succ]
  show wpGate _ _ _ _ _ _ _ _ _
  refine wpGate_step rfl (fun K hK => ?_)
  go_simp
  refine hK _ _ (fun _ => ⟨?_, ?_⟩) ?_
  · exact (H1.alloc (.cells (acell (x, none)).toArray 93)).drew.cell 2 rfl
  · exact (H2.alloc (.cells (acell (x, none)).toArray 93)).drew.cell 0 rfl
  clear hK K
  refine wpGate_step rfl (fun K hK => ?_)
  have HO1 : (w.alloc (.cells (acell (x, none)).toArray 93)).drew.ownsRow B 93 6 v L.length (L.flatMap acell) := ownsRow_kept HO (fun k hk => Below.heap_alloc _ _ _ (ownsRow_block HO hk).2)
  have hBW : B ≤ w.heap.size := Nat.le_trans hB1 (Nat.le_of_lt H1.lt)
  refine wp_append_lies (w.alloc (.cells (acell (x, none)).toArray 93)).drew (.tmp 36) (.tmp 44) 88 rfl B 93 i0 z93 6 80 Try.underlying88 hi0 hz0 hz1 hz2 z93_size six_pos v L.length (L.flatMap acell) rfl HO1 ⟨w.heap.size, 0, none⟩ 1 1 (acell (x, none)) rfl rfl ?_ (acell_one1 _) (by decide) (by unfold maxLen; omega) (by omega) (by simp at hBW ⊢; omega) _ rfl ?_
  · have := acell_news w (x, none)
    simpa using this
  intro g cap w1 hown1 hgrow hat hlt
  have K1 := (H1.alloc (.cells (acell (x, none)).toArray 93)).drew.grown hgrow (H1.far (by decide) HO)
  have K2 := (H2.alloc (.cells (acell (x, none)).toArray 93)).drew.grown hgrow (H2.far (by decide) HO)
  refine hK _ _ (fun _ => ⟨K1.cell 2 rfl, K2.cell 0 rfl⟩) ?_
  clear hK K
  simp only [Act.put, List.setIfInBounds_toArray, List.set_cons_zero, List.set_cons_succ]
  have k0 := K2.cell 0 rfl
  have k1 := K2.frozen 0
  iterate 2
    refine wpGate_step rfl (fun K hK => ?_)
    go_simp
    refine hK _ _ (fun h => absurd h (by decide)) ?_
    clear hK K
  refine wpGate_step rfl (fun K hK => ?_)
  go_simp
  refine hK _ _ (fun h => absurd h (by decide)) ?_
  clear hK K
  refine wpGate_nil ?_
  have hfin := app_end (L := L) H1 H2 H3 H4 hB1 hB2 HO hgrow hown1
  go_wp2
  go_end0
  exact ⟨rfl, ⟨_, hfin.1⟩, HB.trans hfin.2⟩

set_option maxRecDepth 100000 in
set_option maxHeartbeats 1000000 in
theorem app_n1 (e h t bb B : Nat) (la : Int) (ns : Option Addr) (wn : ByteArray) (v : Value) (x : At) (L : Acs) (w : World) (hs : x.sp.toList.isEmpty = false)
    (h1 : Has w e [.pointer (some ⟨h, 0, none⟩), .int .i64 0, .pointer (some ⟨bb, 0, none⟩)] 79) (h2 : Has w bb [v, .slice none 0 0] 98) (h3 : Has w h [.pointer (some ⟨t, 0, none⟩), .pointer none] 75) (h4 : Has w t [.string wn, .int .i64 la, .pointer ns] 72)
    (hB1 : B ≤ e) (hB2 : B ≤ bb) (hown : w.ownsRow B 93 6 v L.length (L.flatMap acell)) (hm : L.length ≤ 10000) :
    Calls Try.prog 42 #[.pointer (some ⟨e, 0, none⟩), .string x.sp, .string x.lo, .string x.pf, .string x.va] w fun r w' => r = .returned (.tuple #[]) ∧ (∃ p, ElemAt w' B e wn (L ++ [(x, p)])) ∧ Below B w w' := by
  have hel := h1.lt
  have hhl := h3.lt
  have htl := h4.lt
  have c2 := h1.cell 2 rfl
  have d0 := h2.cell 0 rfl
  have H1 := h1.alloc (.cells #[.string x.sp] 68)
  have H2 := h2.alloc (.cells #[.string x.sp] 68)
  have H3 := h3.alloc (.cells #[.string x.sp] 68)
  have H4 := h4.alloc (.cells #[.string x.sp] 68)
  have HO := ownsRow_kept (w' := (w.alloc (.cells #[.string x.sp] 68))) hown (fun k hk => Below.heap_alloc _ _ _ (ownsRow_block hown hk).2)
  have HB : Below B w (w.alloc (.cells #[.string x.sp] 68)) := (Below.refl _ _).alloc (Nat.le_trans hB1 (Nat.le_of_lt hel)) _
  have hbl := h2.lt
  obtain ⟨i0, hi0, hz0, hz1, hz2⟩ := info_parts info93
  have C2 := H1.cell 2 rfl
  have D0 := H2.cell 0 rfl
  go_enter Try.func42, Try.ntmps42
  go_wp2
  refine wp_region_gate 18 20 (fun w' => w'.cell? ⟨e, 2, none⟩ = some (.pointer (some ⟨bb, 0, none⟩)) ∧ w'.cell? ⟨bb, 0, none⟩ = some v) (by kernel_rfl) (by kernel_rfl) (fun c a d u w h => by cases d <;> exact h) ⟨C2, D0⟩ ?_
  simp only [List.take_succ_cons, List.take_zero, List.drop_succ_cons, List.drop_zero]
  iterate 18
    apply wpHeld_step
    · rfl
    · intro w' hS
      obtain ⟨s0, s1⟩ := hS
      go_simp
      rfl
    simp only [Act.put, List.setIfInBounds_toArray, List.set_cons_zero, List.set_cons_succ]
  show wpGate _ _ _ _ _ _ _ _ _
  refine wpGate_step rfl (fun K hK => ?_)
  go_simp
  refine hK _ _ (fun _ => ⟨?_, ?_⟩) ?_
  · exact (H1.alloc (.cells (acell (x, (some ⟨w.heap.size, 0, none⟩))).toArray 93)).drew.cell 2 rfl
  · exact (H2.alloc (.cells (acell (x, (some ⟨w.heap.size, 0, none⟩))).toArray 93)).drew.cell 0 rfl
  clear hK K
  refine wpGate_step rfl (fun K hK => ?_)
  have HO1 : ((w.alloc (.cells #[.string x.sp] 68)).alloc (.cells (acell (x, (some ⟨w.heap.size, 0, none⟩))).toArray 93)).drew.ownsRow B 93 6 v L.length (L.flatMap acell) := ownsRow_kept HO (fun k hk => Below.heap_alloc _ _ _ (ownsRow_block HO hk).2)
  have hBW : B ≤ (w.alloc (.cells #[.string x.sp] 68)).heap.size := Nat.le_trans hB1 (Nat.le_of_lt H1.lt)
  refine wp_append_lies ((w.alloc (.cells #[.string x.sp] 68)).alloc (.cells (acell (x, (some ⟨w.heap.size, 0, none⟩))).toArray 93)).drew (.tmp 36) (.tmp 44) 88 rfl B 93 i0 z93 6 80 Try.underlying88 hi0 hz0 hz1 hz2 z93_size six_pos v L.length (L.flatMap acell) rfl HO1 ⟨w.heap.size + 1, 0, none⟩ 1 1 (acell (x, (some ⟨w.heap.size, 0, none⟩))) rfl rfl ?_ (acell_one1 _) (by decide) (by unfold maxLen; omega) (by omega) (by simp at hBW ⊢; omega) _ rfl ?_
  · have := acell_news (w.alloc (.cells #[.string x.sp] 68)) (x, (some ⟨w.heap.size, 0, none⟩))
    simpa using this
  intro g cap w1 hown1 hgrow hat hlt
  have K1 := (H1.alloc (.cells (acell (x, (some ⟨w.heap.size, 0, none⟩))).toArray 93)).drew.grown hgrow (H1.far (by decide) HO)
  have K2 := (H2.alloc (.cells (acell (x, (some ⟨w.heap.size, 0, none⟩))).toArray 93)).drew.grown hgrow (H2.far (by decide) HO)
  refine hK _ _ (fun _ => ⟨K1.cell 2 rfl, K2.cell 0 rfl⟩) ?_
  clear hK K
  simp only [Act.put, List.setIfInBounds_toArray, List.set_cons_zero, List.set_cons_succ]
  have k0 := K2.cell 0 rfl
  have k1 := K2.frozen 0
  iterate 2
    refine wpGate_step rfl (fun K hK => ?_)
    go_simp
    refine hK _ _ (fun h => absurd h (by decide)) ?_
    clear hK K
  refine wpGate_step rfl (fun K hK => ?_)
  go_simp
  refine hK _ _ (fun h => absurd h (by decide)) ?_
  clear hK K
  refine wpGate_nil ?_
  have hfin := app_end (L := L) H1 H2 H3 H4 hB1 hB2 HO hgrow hown1
  go_wp2
  go_end0
  exact ⟨rfl, ⟨_, hfin.1⟩, HB.trans hfin.2⟩

set_option maxRecDepth 100000 in
set_option maxHeartbeats 1000000 in
theorem app_e0 (e h t B : Nat) (la : Int) (ns : Option Addr) (wn : ByteArray) (x : At) (w : World) (hs : x.sp.toList.isEmpty = true)
    (h1 : Has w e [.pointer (some ⟨h, 0, none⟩), .int .i64 0, .pointer none] 79) (h3 : Has w h [.pointer (some ⟨t, 0, none⟩), .pointer none] 75) (h4 : Has w t [.string wn, .int .i64 la, .pointer ns] 72)
    (hB1 : B ≤ e) :
    Calls Try.prog 42 #[.pointer (some ⟨e, 0, none⟩), .string x.sp, .string x.lo, .string x.pf, .string x.va] w fun r w' => r = .returned (.tuple #[]) ∧ (∃ p, ElemAt w' B e wn ([] ++ [(x, p)])) ∧ Below B w w' := by
  have hel := h1.lt
  have hhl := h3.lt
  have htl := h4.lt
  have c2 := h1.cell 2 rfl
  have c3 := h1.frozen 2
  obtain ⟨WW, hWW⟩ : ∃ WW, WW = ((w.setCell ⟨e, 2, none⟩ (.pointer (some ⟨w.heap.size, 0, none⟩))).alloc (.cells #[.slice none 0 0, .slice none 0 0] 98)) := ⟨_, rfl⟩
  have H1 : Has WW e [.pointer (some ⟨h, 0, none⟩), .int .i64 0, .pointer (some ⟨w.heap.size, 0, none⟩)] 79 := by rw [hWW]; exact ((h1.set 2 _).alloc _)
  have H2 : Has WW w.heap.size [.slice none 0 0, .slice none 0 0] 98 := by rw [hWW]; exact Has.new _ _ (by simp [World.setCell])
  have neE : ∀ {b : Nat} {cs : List Value} {t : TypeId}, Has w b cs t → t ≠ 79 → b ≠ e := fun hb ht he => by
    subst he
    unfold Has at hb h1
    rw [hb] at h1
    simp at h1
    exact ht h1.2
  have H3 : Has WW h [.pointer (some ⟨t, 0, none⟩), .pointer none] 75 := by rw [hWW]; exact ((h3.other (neE h3 (by decide)) _).alloc _)
  have H4 : Has WW t [.string wn, .int .i64 la, .pointer ns] 72 := by rw [hWW]; exact ((h4.other (neE h4 (by decide)) _).alloc _)
  have HO : WW.ownsRow B 93 6 (.slice none 0 0) 0 [] := World.ownsRow_nil _ _ _ _
  have hBw : B ≤ w.heap.size := Nat.le_trans hB1 (Nat.le_of_lt hel)
  have HB : Below B w WW := by
    rw [hWW]
    exact ((Below.refl _ _).setCell hB1 _).alloc (by simpa [World.setCell] using hBw) _
  have hB2 : B ≤ w.heap.size := by omega
  have hbl := H2.lt
  have HWW : Hid (WW = ((w.setCell ⟨e, 2, none⟩ (.pointer (some ⟨w.heap.size, 0, none⟩))).alloc (.cells #[.slice none 0 0, .slice none 0 0] 98))) := hWW
  clear hWW neE
  obtain ⟨i0, hi0, hz0, hz1, hz2⟩ := info_parts info93
  have C2 := H1.cell 2 rfl
  have D0 := H2.cell 0 rfl
  go_enter Try.func42, Try.ntmps42
  go_wp2
  rw [← HWW.out]
  refine wp_region_gate 18 20 (fun w' => w'.cell? ⟨e, 2, none⟩ = some (.pointer (some ⟨w.heap.size, 0, none⟩)) ∧ w'.cell? ⟨w.heap.size, 0, none⟩ = some (.slice none 0 0)) (by kernel_rfl) (by kernel_rfl) (fun c a d u w h => by cases d <;> exact h) ⟨C2, D0⟩ ?_
  simp only [List.take_succ_cons, List.take_zero, List.drop_succ_cons, List.drop_zero]
  iterate 18
    apply wpHeld_step
    · rfl
    · intro w' hS
      obtain ⟨s0, s1⟩ := hS
      go_simp
      rfl
    simp only [Act.put, List.setIfInBounds_toArray, List.set_cons_zero, List.set_cons_succ]
  show wpGate _ _ _ _ _ _ _ _ _
  refine wpGate_step rfl (fun K hK => ?_)
  go_simp
  refine hK _ _ (fun _ => ⟨?_, ?_⟩) ?_
  · exact (H1.alloc (.cells (acell (x, none)).toArray 93)).drew.cell 2 rfl
  · exact (H2.alloc (.cells (acell (x, none)).toArray 93)).drew.cell 0 rfl
  clear hK K
  refine wpGate_step rfl (fun K hK => ?_)
  have HO1 : (WW.alloc (.cells (acell (x, none)).toArray 93)).drew.ownsRow B 93 6 (.slice none 0 0) 0 [] := ownsRow_kept HO (fun k hk => Below.heap_alloc _ _ _ (ownsRow_block HO hk).2)
  have hBW : B ≤ WW.heap.size := Nat.le_trans hB1 (Nat.le_of_lt H1.lt)
  refine wp_append_lies (WW.alloc (.cells (acell (x, none)).toArray 93)).drew (.tmp 36) (.tmp 44) 88 rfl B 93 i0 z93 6 80 Try.underlying88 hi0 hz0 hz1 hz2 z93_size six_pos (.slice none 0 0) 0 [] rfl HO1 ⟨WW.heap.size, 0, none⟩ 1 1 (acell (x, none)) rfl rfl ?_ (acell_one1 _) (by decide) (by unfold maxLen; omega) (by omega) (by simp at hBW ⊢; omega) _ rfl ?_
  · have := acell_news WW (x, none)
    simpa using this
  intro g cap w1 hown1 hgrow hat hlt
  have K1 := (H1.alloc (.cells (acell (x, none)).toArray 93)).drew.grown hgrow (H1.far (by decide) HO)
  have K2 := (H2.alloc (.cells (acell (x, none)).toArray 93)).drew.grown hgrow (H2.far (by decide) HO)
  refine hK _ _ (fun _ => ⟨K1.cell 2 rfl, K2.cell 0 rfl⟩) ?_
  clear hK K
  simp only [Act.put, List.setIfInBounds_toArray, List.set_cons_zero, List.set_cons_succ]
  have k0 := K2.cell 0 rfl
  have k1 := K2.frozen 0
  iterate 2
    refine wpGate_step rfl (fun K hK => ?_)
    go_simp
    refine hK _ _ (fun h => absurd h (by decide)) ?_
    clear hK K
  refine wpGate_step rfl (fun K hK => ?_)
  go_simp
  refine hK _ _ (fun h => absurd h (by decide)) ?_
  clear hK K
  refine wpGate_nil ?_
  have hfin := app_end (L := ([] : Acs)) H1 H2 H3 H4 hB1 hB2 HO hgrow (by simpa using hown1)
  go_wp2
  go_end0
  exact ⟨rfl, ⟨_, (by simpa using hfin.1)⟩, HB.trans (by simpa using hfin.2)⟩

set_option maxRecDepth 100000 in
set_option maxHeartbeats 1000000 in
theorem app_n0 (e h t B : Nat) (la : Int) (ns : Option Addr) (wn : ByteArray) (x : At) (w : World) (hs : x.sp.toList.isEmpty = false)
    (h1 : Has w e [.pointer (some ⟨h, 0, none⟩), .int .i64 0, .pointer none] 79) (h3 : Has w h [.pointer (some ⟨t, 0, none⟩), .pointer none] 75) (h4 : Has w t [.string wn, .int .i64 la, .pointer ns] 72)
    (hB1 : B ≤ e) :
    Calls Try.prog 42 #[.pointer (some ⟨e, 0, none⟩), .string x.sp, .string x.lo, .string x.pf, .string x.va] w fun r w' => r = .returned (.tuple #[]) ∧ (∃ p, ElemAt w' B e wn ([] ++ [(x, p)])) ∧ Below B w w' := by
  have hel := h1.lt
  have hhl := h3.lt
  have htl := h4.lt
  have c2 := h1.cell 2 rfl
  have c3 := h1.frozen 2
  obtain ⟨WW, hWW⟩ : ∃ WW, WW = (((w.setCell ⟨e, 2, none⟩ (.pointer (some ⟨w.heap.size + 1, 0, none⟩))).alloc (.cells #[.string x.sp] 68)).alloc (.cells #[.slice none 0 0, .slice none 0 0] 98)) := ⟨_, rfl⟩
  have H1 : Has WW e [.pointer (some ⟨h, 0, none⟩), .int .i64 0, .pointer (some ⟨(w.heap.size + 1), 0, none⟩)] 79 := by rw [hWW]; exact ((h1.set 2 _).alloc _).alloc _
  have H2 : Has WW (w.heap.size + 1) [.slice none 0 0, .slice none 0 0] 98 := by rw [hWW]; exact Has.new _ _ (by simp [World.setCell])
  have neE : ∀ {b : Nat} {cs : List Value} {t : TypeId}, Has w b cs t → t ≠ 79 → b ≠ e := fun hb ht he => by
    subst he
    unfold Has at hb h1
    rw [hb] at h1
    simp at h1
    exact ht h1.2
  have H3 : Has WW h [.pointer (some ⟨t, 0, none⟩), .pointer none] 75 := by rw [hWW]; exact ((h3.other (neE h3 (by decide)) _).alloc _).alloc _
  have H4 : Has WW t [.string wn, .int .i64 la, .pointer ns] 72 := by rw [hWW]; exact ((h4.other (neE h4 (by decide)) _).alloc _).alloc _
  have HO : WW.ownsRow B 93 6 (.slice none 0 0) 0 [] := World.ownsRow_nil _ _ _ _
  have hBw : B ≤ w.heap.size := Nat.le_trans hB1 (Nat.le_of_lt hel)
  have HB : Below B w WW := by
    rw [hWW]
    exact (((Below.refl _ _).setCell hB1 _).alloc (by simpa [World.setCell] using hBw) _).alloc (by simp [World.setCell]; omega) _
  have hB2 : B ≤ (w.heap.size + 1) := by omega
  have hbl := H2.lt
  have HWW : Hid (WW = (((w.setCell ⟨e, 2, none⟩ (.pointer (some ⟨w.heap.size + 1, 0, none⟩))).alloc (.cells #[.string x.sp] 68)).alloc (.cells #[.slice none 0 0, .slice none 0 0] 98))) := hWW
  clear hWW neE
  obtain ⟨i0, hi0, hz0, hz1, hz2⟩ := info_parts info93
  have C2 := H1.cell 2 rfl
  have D0 := H2.cell 0 rfl
  go_enter Try.func42, Try.ntmps42
  go_wp2
  rw [← HWW.out]
  refine wp_region_gate 18 20 (fun w' => w'.cell? ⟨e, 2, none⟩ = some (.pointer (some ⟨(w.heap.size + 1), 0, none⟩)) ∧ w'.cell? ⟨(w.heap.size + 1), 0, none⟩ = some (.slice none 0 0)) (by kernel_rfl) (by kernel_rfl) (fun c a d u w h => by cases d <;> exact h) ⟨C2, D0⟩ ?_
  simp only [List.take_succ_cons, List.take_zero, List.drop_succ_cons, List.drop_zero]
  iterate 18
    apply wpHeld_step
    · rfl
    · intro w' hS
      obtain ⟨s0, s1⟩ := hS
      go_simp
      rfl
    simp only [Act.put, List.setIfInBounds_toArray, List.set_cons_zero, List.set_cons_succ]
  show wpGate _ _ _ _ _ _ _ _ _
  refine wpGate_step rfl (fun K hK => ?_)
  go_simp
  refine hK _ _ (fun _ => ⟨?_, ?_⟩) ?_
  · exact (H1.alloc (.cells (acell (x, (some ⟨w.heap.size, 0, none⟩))).toArray 93)).drew.cell 2 rfl
  · exact (H2.alloc (.cells (acell (x, (some ⟨w.heap.size, 0, none⟩))).toArray 93)).drew.cell 0 rfl
  clear hK K
  refine wpGate_step rfl (fun K hK => ?_)
  have HO1 : (WW.alloc (.cells (acell (x, (some ⟨w.heap.size, 0, none⟩))).toArray 93)).drew.ownsRow B 93 6 (.slice none 0 0) 0 [] := ownsRow_kept HO (fun k hk => Below.heap_alloc _ _ _ (ownsRow_block HO hk).2)
  have hBW : B ≤ WW.heap.size := Nat.le_trans hB1 (Nat.le_of_lt H1.lt)
  refine wp_append_lies (WW.alloc (.cells (acell (x, (some ⟨w.heap.size, 0, none⟩))).toArray 93)).drew (.tmp 36) (.tmp 44) 88 rfl B 93 i0 z93 6 80 Try.underlying88 hi0 hz0 hz1 hz2 z93_size six_pos (.slice none 0 0) 0 [] rfl HO1 ⟨WW.heap.size, 0, none⟩ 1 1 (acell (x, (some ⟨w.heap.size, 0, none⟩))) rfl rfl ?_ (acell_one1 _) (by decide) (by unfold maxLen; omega) (by omega) (by simp at hBW ⊢; omega) _ rfl ?_
  · have := acell_news WW (x, (some ⟨w.heap.size, 0, none⟩))
    simpa using this
  intro g cap w1 hown1 hgrow hat hlt
  have K1 := (H1.alloc (.cells (acell (x, (some ⟨w.heap.size, 0, none⟩))).toArray 93)).drew.grown hgrow (H1.far (by decide) HO)
  have K2 := (H2.alloc (.cells (acell (x, (some ⟨w.heap.size, 0, none⟩))).toArray 93)).drew.grown hgrow (H2.far (by decide) HO)
  refine hK _ _ (fun _ => ⟨K1.cell 2 rfl, K2.cell 0 rfl⟩) ?_
  clear hK K
  simp only [Act.put, List.setIfInBounds_toArray, List.set_cons_zero, List.set_cons_succ]
  have k0 := K2.cell 0 rfl
  have k1 := K2.frozen 0
  iterate 2
    refine wpGate_step rfl (fun K hK => ?_)
    go_simp
    refine hK _ _ (fun h => absurd h (by decide)) ?_
    clear hK K
  refine wpGate_step rfl (fun K hK => ?_)
  go_simp
  refine hK _ _ (fun h => absurd h (by decide)) ?_
  clear hK K
  refine wpGate_nil ?_
  have hfin := app_end (L := ([] : Acs)) H1 H2 H3 H4 hB1 hB2 HO hgrow (by simpa using hown1)
  go_wp2
  go_end0
  exact ⟨rfl, ⟨_, (by simpa using hfin.1)⟩, HB.trans (by simpa using hfin.2)⟩

end Go.Proofs.Qxb6614379a
