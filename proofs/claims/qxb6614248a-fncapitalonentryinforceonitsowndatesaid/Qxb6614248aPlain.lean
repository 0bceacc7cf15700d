import Derived.Test.Qxb6614248aForce
namespace Go.Proofs.Qxb6614248a
set_option linter.unusedVariables false
set_option linter.unusedSimpArgs false

theorem fold_some (day : Int) (xs : List (Int × Int)) : ∀ (a : Option (Int × Int)), (∀ y, a = some y → y.1 ≤ day) → (xs.foldl (st day) a).isSome = (a.isSome || xs.any fun x => decide (x.1 ≤ day)) := by
  induction xs with
  | nil => intro a _; simp
  | cons x xs ih =>
    intro a ha
    rw [List.foldl_cons, ih]
    · cases a with
      | none => by_cases h : x.1 ≤ day <;> simp [st, h]
      | some y => simp only [st]; split <;> simp
    · intro y hy
      cases a with
      | none => by_cases h : x.1 ≤ day <;> simp [st, h] at hy; subst hy; exact h
      | some z => simp only [st] at hy; split at hy <;> (simp at hy; subst hy) <;> first | (rename_i h; exact h.1) | exact ha _ rfl

theorem inF_isSome (day : Int) (xs : List (Int × Int)) : (inF day xs).isSome = xs.any fun x => decide (x.1 ≤ day) := by
  rw [inF, fold_some day xs none (fun _ h => by cases h)]; simp

theorem fold_max (day : Int) (xs : List (Int × Int)) : ∀ (a : Option (Int × Int)) (g : Int × Int), xs.foldl (st day) a = some g →
    (∀ y, a = some y → y.1 ≤ g.1) ∧ ∀ x ∈ xs, x.1 ≤ day → x.1 ≤ g.1 := by
  induction xs with
  | nil => intro a g h; simp at h; subst h; exact ⟨fun y hy => by simp at hy; subst hy; exact Int.le_refl _, fun x hx => by cases hx⟩
  | cons x xs ih =>
    intro a g h
    rw [List.foldl_cons] at h
    obtain ⟨h1, h2⟩ := ih _ g h
    cases a with
    | none =>
      refine ⟨(fun y hy => by cases hy), fun z hz hd => ?_⟩
      rcases List.mem_cons.1 hz with rfl | hz
      · exact h1 z (by simp [st, hd])
      · exact h2 z hz hd
    | some y =>
      by_cases hc : x.1 ≤ day ∧ y.1 < x.1
      · have hx := h1 x (by simp [st, hc])
        refine ⟨fun z hz => by simp at hz; subst hz; omega, fun z hz hd => ?_⟩
        rcases List.mem_cons.1 hz with rfl | hz
        · exact hx
        · exact h2 z hz hd
      · have hy := h1 y (by simp [st, hc])
        refine ⟨fun z hz => by simp at hz; subst hz; omega, fun z hz hd => ?_⟩
        rcases List.mem_cons.1 hz with rfl | hz
        · omega
        · exact h2 z hz hd

theorem fold_mem (day : Int) (xs : List (Int × Int)) : ∀ (a : Option (Int × Int)) (g : Int × Int), (∀ y, a = some y → y.1 ≤ day) → xs.foldl (st day) a = some g → g.1 ≤ day ∧ (a = some g ∨ g ∈ xs) := by
  induction xs with
  | nil => intro a g ha h; simp at h; exact ⟨ha g h, .inl h⟩
  | cons x xs ih =>
    intro a g ha h
    rw [List.foldl_cons] at h
    cases a with
    | none =>
      by_cases hd : x.1 ≤ day
      · obtain ⟨h1, h2⟩ := ih _ g (fun y hy => by simp [st, hd] at hy; subst hy; exact hd) h
        refine ⟨h1, .inr ?_⟩
        rcases h2 with h2 | h2
        · simp [st, hd] at h2; subst h2; simp
        · exact List.mem_cons_of_mem _ h2
      · obtain ⟨h1, h2⟩ := ih _ g (fun y hy => by simp [st, hd] at hy) h
        refine ⟨h1, .inr ?_⟩
        rcases h2 with h2 | h2
        · simp [st, hd] at h2
        · exact List.mem_cons_of_mem _ h2
    | some y =>
      by_cases hc : x.1 ≤ day ∧ y.1 < x.1
      · obtain ⟨h1, h2⟩ := ih _ g (fun z hz => by simp [st, hc] at hz; subst hz; exact hc.1) h
        refine ⟨h1, .inr ?_⟩
        rcases h2 with h2 | h2
        · simp [st, hc] at h2; subst h2; simp
        · exact List.mem_cons_of_mem _ h2
      · obtain ⟨h1, h2⟩ := ih _ g (fun z hz => by simp [st, hc] at hz; subst hz; exact ha _ rfl) h
        refine ⟨h1, ?_⟩
        rcases h2 with h2 | h2
        · simp [st, hc] at h2; exact .inl (by rw [h2])
        · exact .inr (List.mem_cons_of_mem _ h2)

theorem fold_congr (d1 d2 : Int) (xs : List (Int × Int)) : (∀ x ∈ xs, x.1 ≤ d1 ↔ x.1 ≤ d2) → ∀ a, xs.foldl (st d1) a = xs.foldl (st d2) a := by
  induction xs with
  | nil => intro _ a; rfl
  | cons x xs ih =>
    intro h a
    rw [List.foldl_cons, List.foldl_cons, ih (fun z hz => h z (List.mem_cons_of_mem _ hz))]
    congr 1
    have := h x (by simp)
    cases a <;> simp [st, this]

theorem inF_some {day : Int} {xs : List (Int × Int)} {g : Int × Int} (h : inF day xs = some g) : g.1 ≤ day ∧ g ∈ xs ∧ inF g.1 xs = some g := by
  obtain ⟨h1, h2⟩ := fold_mem day xs none g (fun _ h => by cases h) h
  have h3 := (fold_max day xs none g h).2
  refine ⟨h1, h2.resolve_left (by simp), ?_⟩
  rw [← h]
  exact fold_congr _ _ xs (fun x hx => ⟨fun hx' => by omega, fun hx' => h3 x hx hx'⟩) none

/-- some row so far is dated on or before the day -/
def exK (day : Int) (xs : List (Int × Int)) (k : Nat) : Bool := (xs.take k).any fun x => decide (x.1 ≤ day)
/-- the entry is among the rows so far -/
def isK (g : Int × Int) (xs : List (Int × Int)) (k : Nat) : Bool := (xs.take k).any fun x => decide (x.1 = g.1 ∧ x.2 = g.2)

theorem exK_succ {day : Int} {xs : List (Int × Int)} {k : Nat} (hk : k < xs.length) : exK day xs (k + 1) = (exK day xs k || decide ((xs.getD k (0, 0)).1 ≤ day)) := by
  unfold exK; rw [List.take_succ_eq_append_getElem hk, List.any_append]; simp [List.getElem?_eq_getElem hk]
theorem isK_succ {g : Int × Int} {xs : List (Int × Int)} {k : Nat} (hk : k < xs.length) : isK g xs (k + 1) = (isK g xs k || decide ((xs.getD k (0, 0)).1 = g.1 ∧ (xs.getD k (0, 0)).2 = g.2)) := by
  unfold isK; rw [List.take_succ_eq_append_getElem hk, List.any_append]; simp [List.getElem?_eq_getElem hk]
theorem exK_all (day : Int) (xs : List (Int × Int)) : exK day xs xs.length = (inF day xs).isSome := by
  rw [inF_isSome]; unfold exK; rw [List.take_length]
theorem isK_all {g : Int × Int} {xs : List (Int × Int)} (h : g ∈ xs) : isK g xs xs.length = true := by
  unfold isK; rw [List.take_length, List.any_eq_true]; exact ⟨g, h, by simp⟩

end Go.Proofs.Qxb6614248a
