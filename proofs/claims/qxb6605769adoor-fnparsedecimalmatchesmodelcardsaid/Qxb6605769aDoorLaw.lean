import Derived.Test.Qxb6605769aDoorPlain
namespace Go.Proofs.Qxb6605769aDoor
open Go.Lib
set_option linter.unusedVariables false
set_option linter.unusedSimpArgs false

/-- the last four of the model's answers, once every byte behind the sign is a digit and they spell V -/
def fin (neg signed : Bool) (V : Nat) : Int × Bool × Bool × Bool :=
  if neg then (if 9223372036854775808 ≤ V then (-9223372036854775808, false, true, true) else (-(V : Int), false, true, true))
  else (if 9223372036854775808 ≤ V then (9223372036854775807, false, true, false) else ((V : Int), !signed, true, false))
/-- what decimalModel answers -/
def md (l : List UInt8) : Int × Bool × Bool × Bool :=
  match l with
  | [] => (0, false, false, false)
  | c :: r =>
    if c.toNat = 43 then (if plainB r then fin false true (val 0 r) else (0, false, false, false))
    else if c.toNat = 45 then (if plainB r then fin true true (val 0 r) else (0, false, false, true))
    else (if plainB (c :: r) then fin false false (val 0 (c :: r)) else (0, false, false, false))
/-- what the law asks of parseDecimal's answer beside the model's -/
def agrees (n : Int) (ok : Bool) (q : Int × Bool × Bool × Bool) : Bool :=
  if q.2.2.1 then decide (n = q.1) && decide (ok = q.2.1)
  else if q.2.2.2 then !ok && (decide (n = 0) || decide (n = -9223372036854775808)) else !ok && (decide (n = 0) || decide (n = 9223372036854775807))

theorem plain_iff (l : List UInt8) : plainB l = true ↔ l ≠ [] ∧ ∀ c ∈ l, isDig c = true := by
  unfold plainB
  cases l with
  | nil => simp
  | cons c r => simp

/-- ParseUint, by what its text is -/
theorem pu_cases (b : List UInt8) : (plainB b = true ∧ parseUintB 64 b = if val 0 b ≤ 18446744073709551615 then .ok (val 0 b) else .range) ∨ (plainB b = false ∧ (parseUintB 64 b = .syntax ∨ parseUintB 64 b = .range)) := by
  cases hp : plainB b with
  | true =>
    left
    obtain ⟨h1, h2⟩ := (plain_iff b).1 hp
    refine ⟨rfl, ?_⟩
    unfold parseUintB
    rw [if_neg h1]
    exact pu_digits b 0 h2 (by omega)
  | false =>
    right
    refine ⟨rfl, ?_⟩
    unfold parseUintB
    by_cases hb : b = []
    · rw [if_pos hb]; exact .inl rfl
    · rw [if_neg hb]
      have hn : ¬ ∀ c ∈ b, isDig c = true := fun h => by
        have := (plain_iff b).2 ⟨hb, h⟩
        rw [hp] at this; cases this
      show parseUintM 18446744073709551615 0 b = _ ∨ parseUintM 18446744073709551615 0 b = _
      cases hq : parseUintM 18446744073709551615 0 b with
      | ok u => exact absurd hq (pu_other b 0 u hn)
      | «syntax» => exact .inl rfl
      | range => exact .inr rfl

theorem law_plus (r : List UInt8) (c : UInt8) (hc : c.toNat = 43) : agrees (num (c :: r)) (plainB (c :: r) && good (c :: r)) (md (c :: r)) = true := by
  have hnp : plainB (c :: r) = false := by
    unfold plainB; rw [List.all_cons, show isDig c = false from by unfold isDig; rw [hc]; rfl]; simp
  have hm : md (c :: r) = if plainB r then fin false true (val 0 r) else (0, false, false, false) := by
    show (if c.toNat = 43 then _ else _) = _
    rw [if_pos hc]
  have hpi : parseIntB 64 (c :: r) = match parseUintB 64 r with | .syntax => .syntax | .range => .range | .ok u => if 9223372036854775808 ≤ u then .range else .ok (u : Int) := by
    simp only [parseIntB]
    rw [if_pos (Or.inl hc)]
    cases hq : parseUintB 64 r <;> simp [hc, hq]
  have hsat : intSat 64 (c :: r) = 9223372036854775807 := by unfold intSat; simp [hc]
  rw [hnp, hm]
  simp only [Bool.false_and]
  unfold num
  rw [hpi, hsat]
  rcases pu_cases r with ⟨hp, he⟩ | ⟨hp, he | he⟩
  · rw [he, hp]
    generalize val 0 r = V
    unfold fin agrees
    by_cases h1 : V ≤ 18446744073709551615
    · rw [if_pos h1]
      by_cases h2 : 9223372036854775808 ≤ V
      · simp [h2]
      · simp [h2]
    · rw [if_neg h1]
      have h2 : 9223372036854775808 ≤ V := by omega
      simp [h2]
  · rw [he, hp]; simp [agrees]
  · rw [he, hp]; simp [agrees]

theorem law_minus (r : List UInt8) (c : UInt8) (hc : c.toNat = 45) : agrees (num (c :: r)) (plainB (c :: r) && good (c :: r)) (md (c :: r)) = true := by
  have hnp : plainB (c :: r) = false := by
    unfold plainB; rw [List.all_cons, show isDig c = false from by unfold isDig; rw [hc]; rfl]; simp
  have hm : md (c :: r) = if plainB r then fin true true (val 0 r) else (0, false, false, true) := by
    show (if c.toNat = 43 then _ else if c.toNat = 45 then _ else _) = _
    rw [if_neg (by omega), if_pos hc]
  have hpi : parseIntB 64 (c :: r) = match parseUintB 64 r with | .syntax => .syntax | .range => .range | .ok u => if 9223372036854775808 < u then .range else .ok (-(u : Int)) := by
    simp only [parseIntB]
    rw [if_pos (Or.inr hc)]
    cases hq : parseUintB 64 r <;> simp [hc, hq]
  have hsat : intSat 64 (c :: r) = -9223372036854775808 := by unfold intSat; simp [hc]
  rw [hnp, hm]
  simp only [Bool.false_and]
  unfold num
  rw [hpi, hsat]
  rcases pu_cases r with ⟨hp, he⟩ | ⟨hp, he | he⟩
  · rw [he, hp]
    generalize val 0 r = V
    unfold fin agrees
    by_cases h1 : V ≤ 18446744073709551615
    · rw [if_pos h1]
      by_cases h2 : 9223372036854775808 ≤ V
      · by_cases h3 : 9223372036854775808 < V
        · simp [h2, h3]
        · obtain rfl : V = 9223372036854775808 := by omega
          simp
      · have h3 : ¬ 9223372036854775808 < V := by omega
        simp [h2, h3]
    · rw [if_neg h1]
      have h2 : 9223372036854775808 ≤ V := by omega
      simp [h2]
  · rw [he, hp]; simp [agrees]
  · rw [he, hp]; simp [agrees]

theorem law_bare (r : List UInt8) (c : UInt8) (h1 : c.toNat ≠ 43) (h2 : c.toNat ≠ 45) : agrees (num (c :: r)) (plainB (c :: r) && good (c :: r)) (md (c :: r)) = true := by
  have hm : md (c :: r) = if plainB (c :: r) then fin false false (val 0 (c :: r)) else (0, false, false, false) := by
    show (if c.toNat = 43 then _ else if c.toNat = 45 then _ else _) = _
    rw [if_neg h1, if_neg h2]
  have hpi : parseIntB 64 (c :: r) = match parseUintB 64 (c :: r) with | .syntax => .syntax | .range => .range | .ok u => if 9223372036854775808 ≤ u then .range else .ok (u : Int) := by
    simp only [parseIntB]
    rw [if_neg (fun h => h.elim h1 h2)]
    cases hq : parseUintB 64 (c :: r) <;> simp [h1, h2, hq]
  have hsat : intSat 64 (c :: r) = 9223372036854775807 := by unfold intSat; simp [h2]
  rw [hm]
  unfold num good
  rw [hpi, hsat]
  generalize hl : c :: r = l
  rcases pu_cases l with ⟨hp, he⟩ | ⟨hp, he | he⟩
  · rw [he, hp]
    generalize val 0 l = V
    unfold fin agrees
    by_cases h1 : V ≤ 18446744073709551615
    · rw [if_pos h1]
      by_cases h2 : 9223372036854775808 ≤ V
      · simp [h2]
      · simp [h2]
    · rw [if_neg h1]
      have h2 : 9223372036854775808 ≤ V := by omega
      simp [h2]
  · rw [he, hp]; simp [agrees]
  · rw [he, hp]; simp [agrees]

theorem law (l : List UInt8) : agrees (num l) (plainB l && good l) (md l) = true := by
  cases l with
  | nil => simp [agrees, md, num, parseIntB, plainB]
  | cons c r =>
    by_cases h1 : c.toNat = 43
    · exact law_plus r c h1
    by_cases h2 : c.toNat = 45
    · exact law_minus r c h2
    · exact law_bare r c h1 h2
end Go.Proofs.Qxb6605769aDoor
