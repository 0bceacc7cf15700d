import Derived.Test.Qxb6614379aFits
namespace Go.Proofs.Qxb6614379a
open Go.RowKit
set_option linter.unusedVariables false
set_option linter.unusedSimpArgs false

abbrev St := ByteArray × Bool
def pre (xs : List St) (i : Nat) : ByteArray := (xs.getD i (ByteArray.empty, false)).1
def sec (xs : List St) (i : Nat) : Bool := (xs.getD i (ByteArray.empty, false)).2

/-- the steps, of the first k, that push q into the resolver s -/
def sel (xs : List St) (s : Bool) (q : ByteArray) (k : Nat) : List Nat := (List.range k).filter fun i => decide (pre xs i = q) && (sec xs i == s)

theorem sel_succ (xs : List St) (s : Bool) (q : ByteArray) (k : Nat) : sel xs s q (k + 1) = if pre xs k = q ∧ sec xs k = s then sel xs s q k ++ [k] else sel xs s q k := by
  unfold sel
  rw [List.range_succ, List.filter_append]
  by_cases h : pre xs k = q ∧ sec xs k = s
  · simp [h]
  · rw [if_neg h]
    have : (decide (pre xs k = q) && (sec xs k == s)) = false := by
      simp only [Bool.and_eq_false_iff, decide_eq_false_iff_not, beq_eq_false_iff_ne]
      by_cases h1 : pre xs k = q
      · exact .inr (fun h2 => h ⟨h1, h2⟩)
      · exact .inl h1
    simp [this]
theorem sel_hit {xs : List St} {s : Bool} {q : ByteArray} {k : Nat} (h1 : pre xs k = q) (h2 : sec xs k = s) : sel xs s q (k + 1) = sel xs s q k ++ [k] := by rw [sel_succ, if_pos ⟨h1, h2⟩]
theorem sel_miss {xs : List St} {s : Bool} {q : ByteArray} {k : Nat} (h : ¬ (pre xs k = q ∧ sec xs k = s)) : sel xs s q (k + 1) = sel xs s q k := by rw [sel_succ, if_neg h]
theorem sel_le (xs : List St) (s : Bool) (q : ByteArray) (k : Nat) : (sel xs s q k).length ≤ k := by
  unfold sel; have := List.length_filter_le (fun i => decide (pre xs i = q) && (sec xs i == s)) (List.range k); simpa using this
theorem sel_prefix (xs : List St) (s : Bool) (q : ByteArray) (k d : Nat) : ∃ l, sel xs s q (k + d) = sel xs s q k ++ l := by
  induction d with
  | zero => exact ⟨[], by simp⟩
  | succ d ih =>
    obtain ⟨l, hl⟩ := ih
    rw [show k + (d + 1) = (k + d) + 1 from rfl, sel_succ, hl]
    split
    · exact ⟨l ++ [k + d], by simp⟩
    · exact ⟨l, rfl⟩
/-- the k-th step stands at its rank -/
theorem sel_rank {xs : List St} {s : Bool} {q : ByteArray} {k n : Nat} (hk : k < n) (h1 : pre xs k = q) (h2 : sec xs k = s) : (sel xs s q n)[(sel xs s q k).length]? = some k := by
  obtain ⟨l, hl⟩ := sel_prefix xs s q (k + 1) (n - (k + 1))
  rw [show k + 1 + (n - (k + 1)) = n from by omega, sel_hit h1 h2] at hl
  rw [hl]
  simp

def rb (B : Nat) (s : Bool) : Nat := if s then B + 1 else B
theorem rb_lt (B : Nat) (s : Bool) : rb B s < B + 2 := by cases s <;> simp [rb]
theorem rb_ge (B : Nat) (s : Bool) : B ≤ rb B s := by cases s <;> simp [rb]
theorem rb_inj {B : Nat} {s s' : Bool} (h : rb B s = rb B s') : s = s' := by cases s <;> cases s' <;> simp [rb] at h <;> rfl

/-- after k steps: the two resolvers' maps, the rows of their stacks, each in a block of its own, and the slice of what was made -/
structure Grp (xs : List St) (B k : Nat) (P : Nat → Option Addr) (V : Bool → ByteArray → Value) (w wr : World) : Prop where
  maps : ∀ s, MapIs wr (rb B s) (.slice none 0 0) (V s)
  rows : ∀ s q, wr.ownsRow (B + 3) 30 1 (V s q) (sel xs s q k).length ((sel xs s q k).map fun i => .pointer (P i))
  apart : ∀ s q s' q' g, (V s q).ownBlock = some g → (V s' q').ownBlock = some g → s = s' ∧ q = q'
  made : ∃ cs : List Value, Has wr (B + 2) cs 30 ∧ cs.length = xs.length ∧ ∀ i, i < k → cs[i]? = some (.pointer (P i))
  bel : Below B w wr
  size : B + 3 ≤ wr.heap.size

def updP (P : Nat → Option Addr) (k : Nat) (p : Option Addr) : Nat → Option Addr := fun i => if i = k then p else P i
def updV (V : Bool → ByteArray → Value) (s : Bool) (q : ByteArray) (v : Value) : Bool → ByteArray → Value := fun s' q' => if s' = s then (if q' = q then v else V s' q') else V s' q'

theorem map_updP (P : Nat → Option Addr) (k : Nat) (p : Option Addr) (l : List Nat) (h : ∀ i ∈ l, i < k) : (l.map fun i => Value.pointer (updP P k p i)) = l.map fun i => Value.pointer (P i) := by
  refine List.map_congr_left fun i hi => ?_
  have := h i hi
  simp [updP, show ¬ i = k from by omega]
theorem sel_lt {xs : List St} {s : Bool} {q : ByteArray} {k i : Nat} (h : i ∈ sel xs s q k) : i < k := by
  unfold sel at h; simp at h; exact h.1

theorem Grp.step {xs : List St} {B k : Nat} {P : Nat → Option Addr} {V : Bool → ByteArray → Value} {w wr w2 w3 : World} {p : Option Addr} {v' : Value} (h : Grp xs B k P V w wr) (hk : k < xs.length)
    (hb2 : Kept (fun b => b = B + 2) wr w2) (hmade : ∃ cs : List Value, Has w2 (B + 2) cs 30 ∧ cs.length = xs.length ∧ ∀ i, i < k + 1 → cs[i]? = some (.pointer (updP P k p i)))
    (hm : MapIs w3 (rb B (sec xs k)) (.slice none 0 0) (fun q => if q = pre xs k then v' else V (sec xs k) q))
    (hrow : w3.ownsRow (B + 3) 30 1 v' ((sel xs (sec xs k) (pre xs k) k).length + 1) (((sel xs (sec xs k) (pre xs k) k).map fun i => .pointer (P i)) ++ [.pointer p]))
    (hkept : Kept (fun b => b = rb B (sec xs k) ∨ some b = (V (sec xs k) (pre xs k)).ownBlock) w2 w3)
    (hloc : v'.ownBlock = (V (sec xs k) (pre xs k)).ownBlock ∨ ∃ g, v'.ownBlock = some g ∧ w2.heap.size ≤ g) :
    Grp xs B (k + 1) (updP P k p) (updV V (sec xs k) (pre xs k) v') w w3 := by
  have hs2 := hb2.size
  have hs3 := hkept.size
  have hsz := h.size
  -- a block that is none of those that turned
  have keep : ∀ b, b < wr.heap.size → b ≠ B + 2 → b ≠ rb B (sec xs k) → (some b ≠ (V (sec xs k) (pre xs k)).ownBlock) → w3.heap[b]? = wr.heap[b]? := fun b h1 h2 h3 h4 => by
    rw [hkept.block b (Nat.lt_of_lt_of_le h1 hs2) (fun h => h.elim h3 h4), hb2.block b h1 h2]
  have ownB : ∀ s q g, (V s q).ownBlock = some g → B + 3 ≤ g ∧ g < wr.heap.size := fun s q g hg => ownsRow_block (h.rows s q) hg
  have lowB : ∀ b, b < B + 3 → some b ≠ (V (sec xs k) (pre xs k)).ownBlock := fun b hb e => by have := (ownB _ _ b e.symm).1; omega
  refine ⟨fun s => ?_, fun s q => ?_, fun s q s' q' g h1 h2 => ?_, ?_, ?_, ?_⟩
  · by_cases hs : s = sec xs k
    · subst hs
      have : updV V (sec xs k) (pre xs k) v' (sec xs k) = fun q => if q = pre xs k then v' else V (sec xs k) q := by funext q; simp [updV]
      rw [this]; exact hm
    · have : updV V (sec xs k) (pre xs k) v' s = V s := by funext q; simp [updV, hs]
      rw [this]
      have hrl := rb_lt B s
      exact (h.maps s).kept (keep _ (by omega) (by omega) (fun e => hs (rb_inj e)) (lowB _ (by omega)))
  · by_cases hsq : pre xs k = q ∧ sec xs k = s
    · obtain ⟨rfl, rfl⟩ := hsq
      have hv : updV V (sec xs k) (pre xs k) v' (sec xs k) (pre xs k) = v' := by simp [updV]
      rw [hv, sel_hit rfl rfl, List.map_append, map_updP P k p _ (fun i hi => sel_lt hi)]
      simpa [updP] using hrow
    · have hv : updV V (sec xs k) (pre xs k) v' s q = V s q := by
        unfold updV
        by_cases h1 : s = sec xs k
        · by_cases h2 : q = pre xs k
          · exact absurd ⟨h2.symm, h1.symm⟩ hsq
          · simp [h1, h2]
        · simp [h1]
      rw [hv, sel_miss hsq, map_updP P k p _ (fun i hi => sel_lt hi)]
      refine ownsRow_kept (h.rows s q) (fun g hg => ?_)
      have := ownB s q g hg
      have hrl := rb_lt B (sec xs k)
      refine keep g this.2 (by omega) (by omega) (fun e => ?_)
      obtain ⟨e1, e2⟩ := h.apart s q _ _ g hg e.symm
      exact hsq ⟨e2.symm, e1.symm⟩
  · -- apart
    have fresh : ∀ s q g, ¬ (s = sec xs k ∧ q = pre xs k) → (V s q).ownBlock = some g → v'.ownBlock = some g → False := fun s q g hne e1 e2 => by
      rcases hloc with hl | ⟨g', hl, hge⟩
      · rw [hl] at e2
        exact hne (h.apart s q _ _ g e1 e2)
      · rw [hl] at e2
        have := (ownB s q g e1).2
        have : g' = g := Option.some.inj e2
        omega
    have hu : ∀ s q, updV V (sec xs k) (pre xs k) v' s q = if s = sec xs k ∧ q = pre xs k then v' else V s q := fun s q => by
      unfold updV
      by_cases h1 : s = sec xs k <;> by_cases h2 : q = pre xs k <;> simp [h1, h2]
    rw [hu] at h1 h2
    by_cases c1 : s = sec xs k ∧ q = pre xs k
    · by_cases c2 : s' = sec xs k ∧ q' = pre xs k
      · exact ⟨c1.1.trans c2.1.symm, c1.2.trans c2.2.symm⟩
      · rw [if_pos c1] at h1; rw [if_neg c2] at h2
        exact (fresh s' q' g c2 h2 h1).elim
    · rw [if_neg c1] at h1
      by_cases c2 : s' = sec xs k ∧ q' = pre xs k
      · rw [if_pos c2] at h2
        exact (fresh s q g c1 h1 h2).elim
      · rw [if_neg c2] at h2
        exact h.apart s q s' q' g h1 h2
  · obtain ⟨cs, hc, hl, hi⟩ := hmade
    have hrl := rb_lt B (sec xs k)
    exact ⟨cs, (hkept.block (B + 2) (by omega) (fun h => h.elim (by omega) (lowB _ (by omega)))).trans hc, hl, hi⟩
  · refine h.bel.trans ⟨hkept.os.trans hb2.os, hkept.tape.trans hb2.tape, hkept.output.trans hb2.output, Nat.le_trans hs2 hs3, fun b hb => ?_⟩
    have hrl := rb_ge B (sec xs k)
    exact keep b (by omega) (by omega) (by omega) (lowB _ (by omega))
  · omega

end Go.Proofs.Qxb6614379a
