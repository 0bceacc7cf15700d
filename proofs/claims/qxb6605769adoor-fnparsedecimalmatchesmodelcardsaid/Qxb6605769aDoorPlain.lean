import Derived.Test.Qxb6605769aDoorRows
import Derived.Lib.ParseIntB
namespace Go.Proofs.Qxb6605769aDoor
open Go.Lib
set_option linter.unusedVariables false
set_option linter.unusedSimpArgs false

/-- a decimal digit -/
def isDig (c : UInt8) : Bool := decide (48 ≤ c.toNat) && decide (c.toNat ≤ 57)
/-- the number that digits spell behind acc -/
def val (acc : Nat) (l : List UInt8) : Nat := l.foldl (fun a c => a * 10 + (c.toNat - 48)) acc

theorem isDig_iff (c : UInt8) : isDig c = true ↔ 48 ≤ c.toNat ∧ c.toNat ≤ 57 := by simp [isDig]
theorem val_cons (acc : Nat) (c : UInt8) (r : List UInt8) : val acc (c :: r) = val (acc * 10 + (c.toNat - 48)) r := by
  unfold val; rw [List.foldl_cons]
theorem val_nil (acc : Nat) : val acc [] = acc := by unfold val; rw [List.foldl_nil]
theorem val_le (l : List UInt8) : ∀ acc : Nat, acc ≤ val acc l := by
  induction l with
  | nil => intro acc; rw [val_nil]; exact Nat.le_refl _
  | cons c r ih =>
    intro acc
    have := ih (acc * 10 + (c.toNat - 48))
    rw [val_cons]
    generalize val (acc * 10 + (c.toNat - 48)) r = q at *
    generalize c.toNat - 48 = d at *
    omega
theorem val_append (a b : List UInt8) : ∀ acc : Nat, val acc (a ++ b) = val (val acc a) b := by
  induction a with
  | nil => intro acc; rw [List.nil_append, val_nil]
  | cons c r ih => intro acc; rw [List.cons_append, val_cons, val_cons, ih]

/-- ParseUint on digits alone -/
theorem pu_digits : ∀ (l : List UInt8) (acc : Nat), (∀ c ∈ l, isDig c = true) → acc ≤ 18446744073709551615 →
    parseUintM 18446744073709551615 acc l = if val acc l ≤ 18446744073709551615 then .ok (val acc l) else .range
  | [], acc, _, ha => by simp [parseUintM, val_nil, ha]
  | c :: r, acc, h, ha => by
    have hc := (isDig_iff c).1 (h c (by simp))
    have hr : ∀ x ∈ r, isDig x = true := fun x hx => h x (by simp [hx])
    have hv := val_le r (acc * 10 + (c.toNat - 48))
    rw [val_cons]
    simp only [parseUintM]
    rw [if_pos hc]
    by_cases h1 : 1844674407370955162 ≤ acc
    · rw [if_pos h1, if_neg (by omega)]
    · rw [if_neg h1]
      by_cases h2 : 18446744073709551615 < acc * 10 + (c.toNat - 48)
      · rw [if_pos h2, if_neg (by omega)]
      · rw [if_neg h2]
        exact pu_digits r _ hr (by omega)
/-- .. with another byte among them: never a number -/
theorem pu_other : ∀ (l : List UInt8) (acc : Nat) (u : Nat), ¬ (∀ c ∈ l, isDig c = true) → parseUintM 18446744073709551615 acc l ≠ .ok u
  | [], acc, u, h => absurd (fun c hc => by cases hc) h
  | c :: r, acc, u, h => by
    simp only [parseUintM]
    by_cases hc : 48 ≤ c.toNat ∧ c.toNat ≤ 57
    · rw [if_pos hc]
      split
      · intro e; cases e
      · split
        · intro e; cases e
        · refine pu_other r _ u (fun hr => h fun x hx => ?_)
          rcases List.mem_cons.1 hx with rfl | hx
          · exact (isDig_iff x).2 hc
          · exact hr x hx
    · rw [if_neg hc]
      intro e; cases e

/-- what ParseInt(s, 10, 64) hands out beside its error -/
def num (l : List UInt8) : Int := match parseIntB 64 l with | .ok v => v | .syntax => 0 | .range => intSat 64 l
def good (l : List UInt8) : Bool := match parseIntB 64 l with | .ok _ => true | _ => false
/-- a plain row of digits -/
def plainB (l : List UInt8) : Bool := !l.isEmpty && l.all isDig

/-! ### the rendering -/
def dig (u : Nat) : List UInt8 := if h : u < 10 then [(48 + u).toUInt8] else dig (u / 10) ++ [(48 + u % 10).toUInt8]
termination_by u
decreasing_by omega

theorem byte_toNat (k : Nat) (h : k < 10) : ((48 + k).toUInt8).toNat = 48 + k := by
  rw [Nat.toUInt8, UInt8.toNat_ofNat', Nat.mod_eq_of_lt (by omega)]
theorem dig_digits (u : Nat) : ∀ c ∈ dig u, isDig c = true := by
  induction u using Nat.strongRecOn with
  | _ u ih =>
    intro c hc
    rw [dig] at hc
    split at hc
    · rename_i h
      simp only [List.mem_singleton] at hc
      subst hc
      rw [isDig_iff, byte_toNat u h]; omega
    · rename_i h
      rcases List.mem_append.1 hc with hc | hc
      · exact ih (u / 10) (by omega) c hc
      · simp only [List.mem_singleton] at hc
        subst hc
        rw [isDig_iff, byte_toNat _ (by omega)]; omega
theorem dig_val (u : Nat) : val 0 (dig u) = u := by
  induction u using Nat.strongRecOn with
  | _ u ih =>
    rw [dig]
    split
    · rename_i h
      rw [val_cons, val_nil, byte_toNat u h]; omega
    · rename_i h
      rw [val_append, ih (u / 10) (by omega)]
      rw [val_cons, val_nil, byte_toNat _ (by omega)]; omega
theorem dig_ne (u : Nat) : dig u ≠ [] := by
  rw [dig]; split <;> simp
theorem zeros_val (z : Nat) : val 0 (List.replicate z 48) = 0 := by
  induction z with
  | zero => rw [List.replicate_zero, val_nil]
  | succ z ih => rw [List.replicate_succ, val_cons]; exact ih

/-- what renderDecimal writes -/
def render (n : Int) (z : Nat) : List UInt8 := (if n < 0 then [45] else []) ++ (List.replicate z 48 ++ dig n.natAbs)

theorem body_digits (z u : Nat) : ∀ c ∈ List.replicate z 48 ++ dig u, isDig c = true := by
  intro c hc
  rcases List.mem_append.1 hc with hc | hc
  · rw [List.eq_of_mem_replicate hc]; decide
  · exact dig_digits u c hc
theorem body_val (z u : Nat) : val 0 (List.replicate z 48 ++ dig u) = u := by rw [val_append, zeros_val, dig_val]
theorem body_ne (z u : Nat) : List.replicate z 48 ++ dig u ≠ [] := by
  intro h
  exact dig_ne u (List.append_eq_nil_iff.1 h).2

theorem pu_body (z u : Nat) (hu : u ≤ 9223372036854775808) : parseUintB 64 (List.replicate z 48 ++ dig u) = .ok u := by
  unfold parseUintB
  rw [if_neg (body_ne z u)]
  have := pu_digits _ 0 (body_digits z u) (by omega)
  rw [body_val, if_pos (by omega)] at this
  exact this

theorem render_neg (n : Int) (z : Nat) (h0 : n < 0) (h1 : -9223372036854775808 ≤ n) : parseIntB 64 (render n z) = .ok n ∧ plainB (render n z) = false := by
  have e : render n z = 45 :: (List.replicate z 48 ++ dig n.natAbs) := by unfold render; rw [if_pos h0]; rfl
  rw [e]
  refine ⟨?_, by simp [plainB, isDig]⟩
  have hc : (45 : UInt8).toNat = 45 := rfl
  simp only [parseIntB, hc]
  rw [if_pos (by simp), pu_body z _ (by omega)]
  simp only [not_true_eq_false, false_and, if_false, true_and]
  rw [if_neg (by omega)]
  simp
  omega
theorem render_nonneg (n : Int) (z : Nat) (h0 : 0 ≤ n) (h1 : n ≤ 9223372036854775807) : parseIntB 64 (render n z) = .ok n ∧ plainB (render n z) = true := by
  have e : render n z = List.replicate z 48 ++ dig n.natAbs := by unfold render; rw [if_neg (by omega)]; rfl
  rw [e]
  have hd := body_digits z n.natAbs
  have hp := pu_body z n.natAbs (by omega)
  have hne := body_ne z n.natAbs
  generalize List.replicate z 48 ++ dig n.natAbs = l at *
  refine ⟨?_, ?_⟩
  · cases l with
    | nil => exact absurd rfl hne
    | cons c r =>
      have hc := (isDig_iff c).1 (hd c (by simp))
      simp only [parseIntB]
      rw [if_neg (by omega), hp]
      simp only
      rw [if_neg (by omega), if_neg (by omega), if_neg (by omega)]
      congr 1
      omega
  · unfold plainB
    rw [List.all_eq_true.2 hd]
    cases l with
    | nil => exact absurd rfl hne
    | cons c r => rfl
end Go.Proofs.Qxb6605769aDoor
