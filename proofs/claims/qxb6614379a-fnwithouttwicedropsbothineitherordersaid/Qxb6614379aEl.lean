import Derived.Test.Qxb6614379aFits
import Derived.BigQuiet
import Derived.Deep.RegionWith
namespace Go.Proofs.Qxb6614379a
open Go.RowKit
set_option linter.unusedVariables false
set_option linter.unusedSimpArgs false

/-- an attribute as it is handed in -/
structure At where
  sp : ByteArray
  lo : ByteArray
  pf : ByteArray
  va : ByteArray

/-- its cells in an element, the namespace's pointer beside -/
def acell (x : At × Option Addr) : List Value := [.string x.1.sp, .string x.1.lo, .pointer x.2, .string x.1.pf, .string x.1.va, .int .i64 0]
theorem acell_length (x : At × Option Addr) : (acell x).length = 6 := rfl
abbrev Acs := List (At × Option Addr)
theorem flat_length (L : Acs) : (L.flatMap acell).length = L.length * 6 := by
  induction L with
  | nil => rfl
  | cons x L ih => rw [List.flatMap_cons, List.length_append, ih, acell_length, List.length_cons]; omega
theorem flat_get {L : Acs} {k : Nat} {x : At × Option Addr} (h : L[k]? = some x) (j : Nat) (hj : j < 6) : (L.flatMap acell)[k * 6 + j]? = (acell x)[j]? := by
  induction L generalizing k with
  | nil => simp at h
  | cons y L ih =>
    rw [List.flatMap_cons]
    cases k with
    | zero =>
      simp at h
      subst h
      rw [List.getElem?_append_left (by rw [acell_length]; omega), Nat.zero_mul, Nat.zero_add]
    | succ k =>
      simp at h
      rw [List.getElem?_append_right (by rw [acell_length]; omega), acell_length, ← ih h]
      congr 1
      omega

/-- block e is an element of written name wn whose attributes are L; it lies, its body and the row of its attributes with it, from block B on -/
def ElemAt (w : World) (B e : Nat) (wn : ByteArray) (L : Acs) : Prop :=
  ∃ (h t : Nat) (la : Int) (ns body : Option Addr), Has w e [.pointer (some ⟨h, 0, none⟩), .int .i64 0, .pointer body] 79 ∧ Has w h [.pointer (some ⟨t, 0, none⟩), .pointer none] 75 ∧
    Has w t [.string wn, .int .i64 la, .pointer ns] 72 ∧ B ≤ e ∧
    ((body = none ∧ L = []) ∨ ∃ (bb : Nat) (v : Value), body = some ⟨bb, 0, none⟩ ∧ B ≤ bb ∧ Has w bb [v, .slice none 0 0] 98 ∧ w.ownsRow B 93 6 v L.length (L.flatMap acell))

theorem ElemAt.later {w w' : World} {B e : Nat} {wn : ByteArray} {L : Acs} (h : ElemAt w B e wn L) (hb : Below w.heap.size w w') : ElemAt w' B e wn L := by
  obtain ⟨h, t, la, ns, body, h1, h2, h3, h4, h5⟩ := h
  refine ⟨h, t, la, ns, body, h1.later hb, h2.later hb, h3.later hb, h4, ?_⟩
  rcases h5 with h5 | ⟨bb, v, e1, e2, e3, e4⟩
  · exact .inl h5
  · exact .inr ⟨bb, v, e1, e2, e3.later hb, ownsRow_kept e4 (fun g hg => hb.block g (ownsRow_block e4 hg).2)⟩

/-- 'el.attrs()' gives a slice that owns the attributes' row, or nil -/
theorem attrs_any (B e : Nat) (wn : ByteArray) (L : Acs) (w : World) (hE : ElemAt w B e wn L) :
    ∃ v, w.ownsRow B 93 6 v L.length (L.flatMap acell) ∧ Calls Try.prog 44 #[.pointer (some ⟨e, 0, none⟩)] w fun e w' => e = .returned v ∧ w' = w := by
  obtain ⟨h, t, la, ns, body, h1, h2, h3, h4, h5⟩ := hE
  have c2 := h1.cell 2 rfl
  rcases h5 with ⟨rfl, rfl⟩ | ⟨bb, v, rfl, e2, e3, e4⟩
  · refine ⟨.slice none 0 0, ⟨rfl, .inl ⟨rfl, rfl⟩⟩, ?_⟩
    go_enter Try.func44, Try.ntmps44
    go_wp2
    go_ret
    exact ⟨rfl, rfl⟩
  · refine ⟨v, e4, ?_⟩
    have d0 := e3.cell 0 rfl
    go_enter Try.func44, Try.ntmps44
    go_wp2
    go_ret
    exact ⟨rfl, rfl⟩

theorem content_any (B e : Nat) (wn : ByteArray) (L : Acs) (w : World) (hE : ElemAt w B e wn L) :
    Calls Try.prog 48 #[.pointer (some ⟨e, 0, none⟩)] w fun e w' => e = .returned (.slice none 0 0) ∧ w' = w := by
  obtain ⟨h, t, la, ns, body, h1, h2, h3, h4, h5⟩ := hE
  have c2 := h1.cell 2 rfl
  rcases h5 with ⟨rfl, rfl⟩ | ⟨bb, v, rfl, e2, e3, e4⟩
  · go_enter Try.func48, Try.ntmps48
    go_wp2
    go_ret
    exact ⟨rfl, rfl⟩
  · have d0 := e3.cell 1 rfl
    go_enter Try.func48, Try.ntmps48
    go_wp2
    go_ret
    exact ⟨rfl, rfl⟩

theorem qname_any (B e : Nat) (wn : ByteArray) (L : Acs) (w : World) (hE : ElemAt w B e wn L) :
    Calls Try.prog 34 #[.pointer (some ⟨e, 0, none⟩)] w fun e w' => e = .returned (.string wn) ∧ w' = w := by
  obtain ⟨h, t, la, ns, body, h1, h2, h3, h4, h5⟩ := hE
  have c0 := h1.cell 0 rfl
  have d0 := h2.cell 0 rfl
  have t0 := h3.cell 0 rfl
  go_enter Try.func34, Try.ntmps34
  go_wp2
  go_ret
  exact ⟨rfl, rfl⟩

theorem count_any (B e : Nat) (wn : ByteArray) (L : Acs) (w : World) (hE : ElemAt w B e wn L) :
    Calls Try.prog 32 #[.pointer (some ⟨e, 0, none⟩)] w fun e w' => e = .returned (.int .i64 L.length) ∧ w' = w := by
  obtain ⟨v, hv, hc⟩ := attrs_any B e wn L w hE
  clear hE
  rcases hv.2 with ⟨rfl, hn⟩ | ⟨g, cap, cur, rfl, _⟩
  · clear hv
    rw [hn]
    go_enter Try.func32, Try.ntmps32
    go_wp2_with (go_at_call 44; refine hc.mono ?_; rintro e w' ⟨rfl, rfl⟩)
    go_ret
    exact ⟨rfl, rfl⟩
  · clear hv
    go_enter Try.func32, Try.ntmps32
    go_wp2_with (go_at_call 44; refine hc.mono ?_; rintro e w' ⟨rfl, rfl⟩)
    go_ret
    exact ⟨rfl, rfl⟩

theorem row_cell {w : World} {base : Nat} {e : TypeId} {sz : Nat} {v : Value} {n : Nat} {xs : List Value} (h : w.ownsRow base e sz v n xs) {g cap i : Nat} (hv : v = .slice (some ⟨g, 0, none⟩) n cap) {x : Value} (hx : xs[i]? = some x) : w.cell? ⟨g, i, none⟩ = some x := by
  have := h.cells (g := g) (by rw [hv]; rfl) i x hx
  simpa [WideShapes.add_plain] using this

set_option maxHeartbeats 400000 in
theorem attrAt_any (B e : Nat) (wn : ByteArray) (L : Acs) (k : Nat) (x : At × Option Addr) (w : World) (hE : ElemAt w B e wn L) (hx : L[k]? = some x) (hm : L.length ≤ 1000000) :
    Calls Try.prog 45 #[.pointer (some ⟨e, 0, none⟩), .int .i64 k] w fun e w' => e = .returned (.tuple #[.string x.1.sp, .string x.1.lo, .string x.1.pf, .string x.1.va]) ∧ Below w.heap.size w w' := by
  obtain ⟨v, hv, hc⟩ := attrs_any B e wn L w hE
  clear hE
  have hk : k < L.length := by
    rcases Nat.lt_or_ge k L.length with h | h
    · exact h
    · rw [List.getElem?_eq_none h] at hx; cases hx
  rcases hv.2 with ⟨rfl, hn⟩ | ⟨g, cap, cur, hvv, _⟩
  · omega
  · have c0 := row_cell hv hvv (flat_get hx 0 (by omega))
    have c1 := row_cell hv hvv (flat_get hx 1 (by omega))
    have c2 := row_cell hv hvv (flat_get hx 2 (by omega))
    have c3 := row_cell hv hvv (flat_get hx 3 (by omega))
    have c4 := row_cell hv hvv (flat_get hx 4 (by omega))
    have c5 := row_cell hv hvv (flat_get hx 5 (by omega))
    subst hvv
    clear hv hx
    simp only [Nat.add_zero] at c0
    go_enter Try.func45, Try.ntmps45
    go_wp2_with (go_at_call 44; refine hc.mono ?_; rintro e w' ⟨rfl, rfl⟩)
    go_quiet (fail)
    go_wp2
    exact bodyPost_ret (v := .tuple #[.string x.1.sp, .string x.1.lo, .string x.1.pf, .string x.1.va]) (by simp [results, Try.results45, go_sem]) rfl ⟨rfl, below_drewN ((Below.refl _ _).alloc (Nat.le_refl _) _) _⟩

set_option maxHeartbeats 400000 in
theorem attrIs_any (B e : Nat) (wn : ByteArray) (L : Acs) (k : Nat) (x : At × Option Addr) (w : World) (hE : ElemAt w B e wn L) (hx : L[k]? = some x) (hm : L.length ≤ 1000000) :
    Calls Try.prog 33 #[.pointer (some ⟨e, 0, none⟩), .int .i64 k, .agg #[.string x.1.sp, .string x.1.lo, .string x.1.pf, .string x.1.va]] w fun e w' => e = .returned (.bool true) ∧ Below w.heap.size w w' := by
  have hc := attrAt_any B e wn L k x (w.alloc (.cells #[.string x.1.sp, .string x.1.lo, .string x.1.pf, .string x.1.va] 61)) (hE.later ((Below.refl _ _).alloc (Nat.le_refl _) _)) hx hm
  clear hE hx hm
  go_enter Try.func33, Try.ntmps33
  go_wp2_with fail
  refine hc.mono ?_
  rintro e w1 ⟨rfl, hb⟩
  have H1 : Has w1 w.heap.size [.string x.1.sp, .string x.1.lo, .string x.1.pf, .string x.1.va] 61 := (Has.new _ _ rfl).later hb
  have c0 := H1.cell 0 rfl
  have c1 := H1.cell 1 rfl
  have c2 := H1.cell 2 rfl
  have c3 := H1.cell 3 rfl
  go_wp2
  go_ret
  exact ⟨rfl, ((Below.refl _ _).alloc (Nat.le_refl _) _).trans (hb.mono (by simp))⟩

end Go.Proofs.Qxb6614379a
