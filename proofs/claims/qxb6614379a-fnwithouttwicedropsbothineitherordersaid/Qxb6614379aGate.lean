import Derived.OrdersHeld
import Derived.StillTail
import Derived.WalkKit
import Derived.Test.Qxb6614379aRows
namespace Go.Proofs.Qxb6614379a
open Go
set_option linter.unusedVariables false
set_option linter.unusedSimpArgs false

section
variable {P : Program} {ops : Array Oper} {Q : Exit → Act → World → Prop} {md : Region.Mode} {S : World → Prop} {m : Nat}

/-- whatever order is picked; behind every operation of a number below m the condition S holds -/
def wpAnyR (P : Program) (md : Region.Mode) (ops : Array Oper) (Q : Exit → Act → World → Prop) (S : World → Prop) (m : Nat) : Nat → Array Bool → Act → World → Prop
  | 0, listed, a, w => Region.ready md ops listed = [] ∧ Q .normal a w
  | fuel + 1, listed, a, w =>
    (Region.ready md ops listed = [] → Q .normal a w) ∧
    ∀ i ∈ Region.ready md ops listed, wpOp P ops Q i (fun a' w' => (i < m → S w') ∧ wpAnyR P md ops Q S m fuel (listed.setIfInBounds i true) a' w') a w

theorem wpAny_of_R : ∀ (fuel : Nat) (listed : Array Bool) (a : Act) (w : World), wpAnyR P md ops Q S m fuel listed a w → wpAny P md ops Q fuel listed a w
  | 0, _, _, _, h => h
  | fuel + 1, _, _, _, h => ⟨h.1, fun i hi => wpOp_mono (fun a' w' h' => wpAny_of_R fuel _ a' w' h'.2) (h.2 i hi)⟩

theorem wpAnyR_first {i : Nat} {oi : Oper} {v : Value} (hi : ops[i]? = some oi) (him : i < m) (hgate : ∀ j oj, m ≤ j → ops[j]? = some oj → ∃ e ∈ oj.after, Region.binds md e = true ∧ e.on = i)
    (hsel : ∀ (j : Nat) (o : Oper) cs b, ops[j]? = some o → o.op ≠ .select cs b)
    (hQ : ∀ c a w, Q (.panic c) (a.put oi.dst v) w → Q (.panic c) a w) :
    ∀ (fuel : Nat) (listed : Array Bool) (a : Act) (w : World),
      (∀ j oj, ops[j]? = some oj → j ≠ i → listed.getD j true = false → (∀ e ∈ oj.after, Region.binds md e = true → e.on ≠ i) → oi.apart ops oj = true) →
      i ∈ Region.ready md ops listed → YieldsIf P ops S oi v a → S w →
      wpAnyR P md ops Q S m fuel (listed.setIfInBounds i true) (a.put oi.dst v) w → wpAnyR P md ops Q S m (fuel + 1) listed a w := by
  intro fuel
  induction fuel with
  | zero =>
    intro listed a w _ hr hy hS H
    refine ⟨fun h => (by rw [h] at hr; cases hr), fun j hj => ?_⟩
    by_cases hji : j = i
    · subst hji; exact hy.wpOp hi hS ⟨fun _ => hS, H⟩
    · have := ready_mono hj hji
      rw [H.1] at this
      cases this
  | succ fuel ih =>
    intro listed a w hfree hr hy hS H
    refine ⟨fun h => (by rw [h] at hr; cases hr), fun j hj => ?_⟩
    by_cases hji : j = i
    · subst hji; exact hy.wpOp hi hS ⟨fun _ => hS, H⟩
    · have h1 := H.2 j (ready_mono hj hji)
      obtain ⟨hjun, oj, hoj, hall⟩ := mem_ready.1 hj
      have hnot : ∀ e ∈ oj.after, Region.binds md e = true → e.on ≠ i := fun e he hb heq => by
        have h1 := hall e he hb
        have h0 := (mem_ready.1 hr).1
        rw [heq] at h1
        rcases Nat.lt_or_ge i listed.size with h' | h'
        · simp [h'] at h0 h1; rw [h0] at h1; cases h1
        · simp [Array.getElem?_eq_none h'] at h1
      have hjm : j < m := by
        rcases Nat.lt_or_ge j m with h | h
        · exact h
        · obtain ⟨e, he, hb, hon⟩ := hgate j oj h hoj
          exact absurd hon (hnot e he hb)
      have h2 := wpOp_putIf hoj (hfree j oj hoj hji hjun hnot) (fun cs b => hsel i oi cs b hi) (fun cs b => hsel j oj cs b hoj) hQ hy h1
      have hfree' : ∀ k ok, ops[k]? = some ok → k ≠ i → (listed.setIfInBounds j true).getD k true = false →
          (∀ e ∈ ok.after, Region.binds md e = true → e.on ≠ i) → oi.apart ops ok = true := fun k ok hk hki hun hno => by
        refine hfree k ok hk hki ?_ hno
        by_cases hjk : j = k
        · subst hjk; exact hjun
        · rw [getD_set_ne true hjk] at hun; exact hun
      refine wpOp_mono (fun a' w' h3 => ⟨h3.2.1, ih (listed.setIfInBounds j true) a' w' hfree' (ready_mono hr (Ne.symm hji)) h3.1 (h3.2.1 hjm) ?_⟩) h2
      rw [Array.setIfInBounds_comm _ _ hji]
      exact h3.2.2

/-- the heads: each yields its value in every world that meets S -/
def wpHeld (P : Program) (ops : Array Oper) (S : World → Prop) (R : Act → Prop) : List Oper → Act → Prop
  | [], a => R a
  | o :: rest, a => ∃ v, YieldsIf P ops S o v a ∧ wpHeld P ops S R rest (a.put o.dst v)

def marks : Nat → Nat → Array Bool → Array Bool
  | 0, _, listed => listed
  | f + 1, k, listed => marks f (k + 1) (listed.setIfInBounds k true)
def headB (md : Region.Mode) (ops : Array Oper) : Nat → Nat → Array Bool → Bool
  | 0, _, _ => true
  | f + 1, k, listed => (Region.ready md ops listed).contains k && Region.free md ops listed k && headB md ops f (k + 1) (listed.setIfInBounds k true)

theorem wpAnyR_heads {n g : Nat} (hsel : Region.noSelect ops = true) (hnm : n ≤ m) (hgate : ∀ i, i < n → ∀ j oj, m ≤ j → ops[j]? = some oj → ∃ e ∈ oj.after, Region.binds md e = true ∧ e.on = i)
    (hQ : ∀ c a d v w, Q (.panic c) (Act.put a d v) w → Q (.panic c) a w) :
    ∀ (l : List Oper) (k : Nat) (listed : Array Bool) (a : Act) (w : World), (∀ j, j < l.length → l[j]? = ops[k + j]?) → k + l.length = n → headB md ops l.length k listed = true → S w →
    wpHeld P ops S (fun a' => wpAnyR P md ops Q S m g (marks l.length k listed) a' w) l a → wpAnyR P md ops Q S m (l.length + g) listed a w
  | [], k, listed, a, w, _, _, _, _, h => by
    rw [List.length_nil, Nat.zero_add]
    exact h
  | o :: l, k, listed, a, w, hl, hk, hB, hS, h => by
    have h0 : ops[k]? = some o := by simpa using (hl 0 (by simp)).symm
    simp only [List.length_cons, headB, Bool.and_eq_true] at hB
    obtain ⟨⟨hr, hf⟩, hB'⟩ := hB
    obtain ⟨v, hy, hrest⟩ := h
    have hkn : k < n := by simp only [List.length_cons] at hk; omega
    rw [List.length_cons, show l.length + 1 + g = (l.length + g) + 1 by omega]
    exact wpAnyR_first h0 (by omega) (hgate k hkn) (Region.noSelect_spec hsel) (fun c a w => hQ c a o.dst v w) _ listed a w (Region.free_spec h0 hf) (by simpa using hr) hy hS
      (wpAnyR_heads hsel hnm hgate hQ l (k + 1) _ _ w (fun j hj => by have := hl (j + 1) (by simp; omega); simpa [Nat.add_assoc, Nat.add_comm 1 j] using this) (by simp only [List.length_cons] at hk; omega) hB' hS hrest)

/-- the tail, in its one order: behind each operation of a number below m the condition S -/
def wpGate (P : Program) (ops : Array Oper) (Q : Exit → Act → World → Prop) (S : World → Prop) (m : Nat) : Nat → List Oper → Act → World → Prop
  | _, [], a, w => Q .normal a w
  | k, o :: rest, a, w => if Region.wanted o (yielded ops a.tmps) then o.wp P a w (fun a' w' => (k < m → S w') ∧ wpGate P ops Q S m (k + 1) rest a' w') Q else ((k < m → S w) ∧ wpGate P ops Q S m (k + 1) rest (a.put o.dst undef) w)

theorem wpAnyR_seq : ∀ (l : List Oper) (k : Nat) (listed : Array Bool) (a : Act) (w : World), (∀ j, l[j]? = ops[k + j]?) →
    Region.seqB md ops l.length k listed = true → wpGate P ops Q S m k l a w → wpAnyR P md ops Q S m l.length listed a w
  | [], _, _, _, _, _, hB, h => ⟨by simpa [Region.seqB] using hB, h⟩
  | o :: l, k, listed, a, w, hl, hB, h => by
    have h0 : ops[k]? = some o := by simpa using (hl 0).symm
    simp only [List.length_cons, Region.seqB, Bool.and_eq_true, decide_eq_true_eq] at hB
    refine ⟨fun h1 => (by rw [hB.1] at h1; cases h1), fun i hi => ?_⟩
    rw [hB.1] at hi
    have hik : i = k := by simpa using hi
    subst hik
    have hw : wpOp P ops Q i (fun a' w' => (i < m → S w') ∧ wpGate P ops Q S m (i + 1) l a' w') a w := by
      unfold wpOp
      simp only [h0]
      unfold wpGate at h
      split
      · rename_i hw; rw [if_pos hw] at h; exact .inl h
      · rename_i hw; rw [if_neg hw] at h; exact h
    exact wpOp_mono (fun a' w' h' => ⟨h'.1, wpAnyR_seq l (i + 1) _ a' w' (fun j => by have := hl (j + 1); simpa [Nat.add_assoc, Nat.add_comm 1 j] using this) hB.2 h'.2⟩) hw

/-- the Bool over a region -/
def gateB (ops : Array Oper) (n m : Nat) : Bool :=
  Region.noSelect ops && decide (n ≤ m) && decide (n ≤ ops.size) && ((List.range ops.size).all fun j => decide (j < m) || (List.range n).all fun i => Region.waitsFor .any ops j i) &&
    headB .any ops n 0 (Array.replicate ops.size false) && Region.seqB .any ops (ops.size - n) n (marks n 0 (Array.replicate ops.size false))

theorem wp_region_gate {id : Nat} {a : Act} {w : World} {l : List Oper} (n m : Nat) (S : World → Prop) (hm : P.follows .mixedOrders = true) (hB : gateB l.toArray n m = true)
    (hQ : ∀ c a d v w, Q (.panic c) (Act.put a d v) w → Q (.panic c) a w) (hS : S w.drew)
    (h : wpHeld P l.toArray S (fun a' => wpGate P l.toArray Q S m n (l.drop n) a' w.drew) (l.take n) a) : (Code.region id l.toArray true).wp P Q a w := by
  simp only [gateB, Bool.and_eq_true, decide_eq_true_eq] at hB
  obtain ⟨⟨⟨⟨⟨hsel, hnm⟩, hns⟩, hgt⟩, hhead⟩, hseq⟩ := hB
  have hns' : n ≤ l.length := by simpa using hns
  have htl : (l.take n).length = n := by simp; omega
  have hdl : (l.drop n).length = l.toArray.size - n := by simp
  have hgate : ∀ i, i < n → ∀ j oj, m ≤ j → l.toArray[j]? = some oj → ∃ e ∈ oj.after, Region.binds .any e = true ∧ e.on = i := by
    intro i hi j oj hj hoj
    have hlt : j < l.toArray.size := (Array.getElem?_eq_some_iff.1 hoj).1
    have h1 := List.all_eq_true.1 hgt j (List.mem_range.2 hlt)
    simp only [Bool.or_eq_true, decide_eq_true_eq] at h1
    rcases h1 with h1 | h1
    · omega
    · obtain ⟨oj', hoj', e, he, hb, hon⟩ := Region.waitsFor_spec (List.all_eq_true.1 h1 i (List.mem_range.2 hi))
      have : oj' = oj := Option.some.inj (hoj'.symm.trans hoj)
      subst this
      exact ⟨e, he, hb, hon⟩
  refine wp_region_any hm (wpAny_of_R (S := S) (m := m) _ _ _ _ ?_)
  have H := wpAnyR_heads (P := P) (Q := Q) (S := S) (g := l.toArray.size - n) hsel hnm hgate hQ (l.take n) 0 (Array.replicate l.toArray.size false) a w.drew
    (fun j hj => by
      have hj' : j < n := by rw [htl] at hj; exact hj
      simp [hj']) (by rw [htl]; omega) (by rw [htl]; exact hhead) hS
  rw [htl, show n + (l.toArray.size - n) = l.toArray.size by omega] at H
  refine H ?_
  -- what follows the heads
  have go : ∀ (l' : List Oper) (a : Act), wpHeld P l.toArray S (fun a' => wpGate P l.toArray Q S m n (l.drop n) a' w.drew) l' a → wpHeld P l.toArray S (fun a' => wpAnyR P .any l.toArray Q S m (l.toArray.size - n) (marks n 0 (Array.replicate l.toArray.size false)) a' w.drew) l' a := by
    intro l'
    induction l' with
    | nil =>
      intro a h
      have := wpAnyR_seq (P := P) (Q := Q) (S := S) (m := m) (md := .any) (ops := l.toArray) (l.drop n) n (marks n 0 (Array.replicate l.toArray.size false)) a w.drew (fun j => by simp [List.getElem?_drop]) (by rw [hdl]; exact hseq) h
      rwa [hdl] at this
    | cons o l' ih => exact fun a ⟨v, hy, hr⟩ => ⟨v, hy, ih _ hr⟩
  exact go _ _ h

/-- one head: 'what it is in every world that meets S' first, then the rest -/
theorem wpHeld_step {R : Act → Prop} {o : Oper} {rest : List Oper} {a : Act} (v : Value) (hg : o.guard = none) (hy : ∀ w, S w → (execOp a.eval o).run P w = .ok (.value v) w)
    (h : wpHeld P ops S R rest (a.put o.dst v)) : wpHeld P ops S R (o :: rest) a :=
  ⟨v, .inl ⟨by simp [Region.wanted, hg], hy⟩, h⟩
theorem wpGate_step {k : Nat} {o : Oper} {rest : List Oper} {a : Act} {w : World} (hg : o.guard = none)
    (h : ∀ K : Act → World → Prop, (∀ a' w', (k < m → S w') → wpGate P ops Q S m (k + 1) rest a' w' → K a' w') → o.wp P a w K Q) : wpGate P ops Q S m k (o :: rest) a w := by
  unfold wpGate
  rw [if_pos (by simp [Region.wanted, hg])]
  exact h _ (fun a' w' h1 h2 => ⟨h1, h2⟩)
theorem wpGate_nil {k : Nat} {a : Act} {w : World} (h : Q .normal a w) : wpGate P ops Q S m k [] a w := h
end

end Go.Proofs.Qxb6614379a
