import Derived.Test.Qxb6614379aMem
import Derived.MapKept
import Derived.LaidEqlPtr
namespace Go.Proofs.Qxb6614379a
open Go.RowKit
set_option linter.unusedVariables false
set_option linter.unusedSimpArgs false

theorem toList_inj {a b : ByteArray} (h : a.toList = b.toList) : a = b := by
  rw [ByteArray.toList_eq, ByteArray.toList_eq] at h
  obtain ⟨⟨x⟩⟩ := a
  obtain ⟨⟨y⟩⟩ := b
  simp at h
  subst h
  rfl
theorem beqB (a b : ByteArray) : (a == b) = decide (a = b) := by
  rw [beq_toListBytes]
  by_cases h : a = b
  · subst h; simp
  · have : ¬ a.toList = b.toList := fun e => h (toList_inj e)
    simp [h, this]
theorem beqL (a b : ByteArray) : (a.toList == b.toList) = decide (a = b) := by rw [← beq_toListBytes, beqB]

/-- what is found at a key -/
def findV (es : List MapEntry) (k : ByteArray) : Option Value := (es.find? fun e => match e.key with | .string s => decide (k = s) | _ => false).map (·.val)
def strKeys (es : List MapEntry) : Prop := ∀ e ∈ es, ∃ s, e.key = .string s

/-- block r is a map keyed by strings that holds V k at key k (the zero value z where there is no entry) -/
def MapIs (w : World) (r : Nat) (z : Value) (V : ByteArray → Value) : Prop :=
  ∃ es clock, w.heap[r]? = some (.map es clock) ∧ strKeys es.toList ∧ ∀ k, (findV es.toList k).getD z = V k

theorem findV_cons (e : MapEntry) (es : List MapEntry) (s k : ByteArray) (he : e.key = .string s) : findV (e :: es) k = if k = s then some e.val else findV es k := by
  by_cases hk : k = s
  · simp [findV, he, hk]
  · simp [findV, he, hk]

theorem findNow_str (es : List MapEntry) (k : ByteArray) (hs : strKeys es) : ∀ i, ∃ r, Instr.findNow .string (.string k) es i = some r ∧ r.map (·.2) = findV es k ∧
    (∀ j v, r = some (j, v) → i ≤ j ∧ ∃ e, es[j - i]? = some e ∧ e.key = .string k ∧ ∀ v' q, findV (es.modify (j - i) fun e => { e with key := .string k, val := v' }) q = if q = k then some v' else findV es q) ∧ (r = none → findV es k = none) := by
  induction es with
  | nil => intro i; exact ⟨none, rfl, rfl, (fun j v h => by cases h), fun _ => rfl⟩
  | cons e es ih =>
    intro i
    obtain ⟨s, he⟩ := hs e (by simp)
    have hs' : strKeys es := fun e he => hs e (List.mem_cons_of_mem _ he)
    by_cases hk : k = s
    · subst hk
      refine ⟨some (i, e.val), by simp [Instr.findNow, he, Instr.sameNow, beqB], by rw [findV_cons e es k k he]; simp, fun j v h => ?_, fun h => by cases h⟩
      simp at h
      refine ⟨by omega, e, by simp [← h.1], he, fun v' q => ?_⟩
      rw [show j - i = 0 from by omega]
      rw [findV_cons e es k q he]
      show findV ({ e with key := .string k, val := v' } :: es) q = _
      rw [findV_cons { e with key := .string k, val := v' } es k q rfl]
      split <;> simp
    · have hb : (k == s) = false := by rw [beqB]; simp [hk]
      obtain ⟨r, h1, h2, h3, h4⟩ := ih hs' (i + 1)
      have hf : findV (e :: es) k = findV es k := by rw [findV_cons e es s k he]; simp [hk]
      refine ⟨r, by simp [Instr.findNow, he, Instr.sameNow, hb, h1], by rw [hf]; exact h2, fun j v h => ?_, fun h => by rw [hf]; exact h4 h⟩
      obtain ⟨g1, e', g2, g3, g4⟩ := h3 j v h
      rw [show j - i = (j - (i + 1)) + 1 from by omega]
      refine ⟨by omega, e', by simpa using g2, g3, fun v' q => ?_⟩
      show findV (e :: es.modify (j - (i + 1)) _) q = _
      rw [findV_cons e _ s q he, findV_cons e _ s q he, g4 v' q]
      by_cases hq : q = s
      · subst hq
        have : ¬ q = k := fun h => hk h.symm
        simp [this]
      · simp [hq]

theorem strKeys_push {es : Array MapEntry} (h : strKeys es.toList) (e : MapEntry) (s : ByteArray) (he : e.key = .string s) : strKeys (es.push e).toList := by
  intro x hx
  simp at hx
  rcases hx with hx | rfl
  · exact h x (by simpa using hx)
  · exact ⟨s, he⟩
theorem strKeys_modify {es : Array MapEntry} (h : strKeys es.toList) (j : Nat) (s : ByteArray) (v : Value) : strKeys (es.modify j fun e => { e with key := .string s, val := v }).toList := by
  intro x hx
  rw [List.mem_iff_getElem?] at hx
  obtain ⟨n, hn⟩ := hx
  rw [Array.getElem?_toList, Array.getElem?_modify] at hn
  split at hn
  · rw [Option.map_eq_some_iff] at hn
    obtain ⟨y, _, rfl⟩ := hn
    exact ⟨s, rfl⟩
  · exact h x (by rw [List.mem_iff_getElem?]; exact ⟨n, by simpa using hn⟩)
theorem findV_append (es : List MapEntry) (hs : strKeys es) (s k : ByteArray) (hn : findV es s = none) (v : Value) (b : Nat) : findV (es ++ [{ key := .string s, val := v, born := b }]) k = if k = s then some v else findV es k := by
  induction es with
  | nil => rw [List.nil_append, findV_cons _ _ s k rfl]
  | cons e es ih =>
    obtain ⟨t, he⟩ := hs e (by simp)
    rw [findV_cons e es t s he] at hn
    by_cases hst : s = t
    · simp [hst] at hn
    · simp [hst] at hn
      rw [List.cons_append, findV_cons e _ t k he, findV_cons e _ t k he, ih (fun e he => hs e (List.mem_cons_of_mem _ he)) hn]
      by_cases hk : k = t
      · subst hk
        have : ¬ k = s := fun h => hst h.symm
        simp [this]
      · simp [hk]

section
variable {P : Program} {w : World} {r : Nat} {z : Value} {V : ByteArray → Value} {t k e : TypeId}

theorem run_check_str (hk : P.underlying k = some .string) (em : Bool) (n : Nat) (s : ByteArray) (w : World) : (Instr.checkKey em (n + 1) k (.string s)).run P w = .ok () w := by
  simp [Instr.checkKey, run_underlying hk]

theorem MapIs.look (h : MapIs w r z V) (ht : P.underlying t = some (.map k e)) (hk : P.underlying k = some .string) (hz : ∀ w, (zeroValue e).run P w = .ok z w) (s : ByteArray) :
    (Instr.lookup t (.map (some r)) (.string s) false).run P w = .ok (V s) w := by
  obtain ⟨es, clock, hb, hs, hV⟩ := h
  obtain ⟨x, h1, h2, h3, h4⟩ := findNow_str es.toList s hs 0
  have hc := run_check_str (P := P) hk es.isEmpty 9999 s w
  have hg := MapKept.run_getObj_map (P := P) (w := w) hb
  have hv := hV s
  cases x with
  | none =>
    rw [h4 rfl] at hv
    simp at hv
    simp [Instr.lookup, run_underlying ht, hg, hc, Instr.findKey, run_underlying hk, h1, hz, hv]
  | some y =>
    obtain ⟨j, v⟩ := y
    simp at h2
    rw [← h2] at hv
    simp at hv
    simp [Instr.lookup, run_underlying ht, hg, hc, Instr.findKey, run_underlying hk, h1, hv]

theorem MapIs.put (h : MapIs w r z V) (ht : P.underlying t = some (.map k e)) (hk : P.underlying k = some .string) (s : ByteArray) (v : Value) :
    ∃ w', (Instr.mapUpdate t (.map (some r)) (.string s) v).run P w = .ok () w' ∧ MapIs w' r z (fun q => if q = s then v else V q) ∧ w.grownBy w' (some r) ∧ w'.heap.size = w.heap.size := by
  obtain ⟨es, clock, hb, hs, hV⟩ := h
  obtain ⟨x, h1, h2, h3, h4⟩ := findNow_str es.toList s hs 0
  have hc := run_check_str (P := P) hk false 9999 s w
  have hg := MapKept.run_getObj_map (P := P) (w := w) hb
  have hr : r < w.heap.size := by
    rcases Nat.lt_or_ge r w.heap.size with h' | h'
    · exact h'
    · rw [Array.getElem?_eq_none h'] at hb; cases hb
  have grown : ∀ o, w.grownBy { w with heap := w.heap.setIfInBounds r o } (some r) := fun o =>
    ⟨rfl, rfl, rfl, by simp, fun q hq hne => by
      show (w.heap.setIfInBounds r o)[q]? = _
      rw [Array.getElem?_setIfInBounds_ne (fun h => hne (by rw [h]))]⟩
  cases x with
  | none =>
    refine ⟨{ w with heap := w.heap.setIfInBounds r (.map (es.push { key := .string s, val := v, born := clock }) (clock + 1)) }, ?_, ⟨es.push { key := .string s, val := v, born := clock }, clock + 1, by simp [hr], strKeys_push hs _ s rfl, fun q => ?_⟩, grown _, by simp⟩
    · simp [Instr.mapUpdate, run_underlying ht, hg, hc, Instr.findKey, run_underlying hk, h1, MapKept.run_setObj_map _ hb]
    · rw [Array.toList_push, findV_append _ hs s q (h4 rfl)]
      by_cases hq : q = s
      · simp [hq]
      · simp [hq, hV q]
  | some y =>
    obtain ⟨j, u⟩ := y
    obtain ⟨_, e', g2, g3, g4⟩ := h3 j u rfl
    simp only [Nat.sub_zero] at g2 g4
    refine ⟨{ w with heap := w.heap.setIfInBounds r (.map (es.modify j fun e => { e with key := .string s, val := v }) clock) }, ?_, ⟨es.modify j fun e => { e with key := .string s, val := v }, clock, by simp [hr], strKeys_modify hs j s v, fun q => ?_⟩, grown _, by simp⟩
    · have hes : es[j]? = some e' := by simpa using g2
      have hsb : Instr.sameBits 10000 (.string s) (.string s) = true := by simp [Instr.sameBits, beqB]
      simp [Instr.mapUpdate, run_underlying ht, hg, hc, Instr.findKey, run_underlying hk, h1, hes, g3, Instr.keyThatStays, hsb, MapKept.run_setObj_map _ hb]
    · rw [Array.toList_modify, g4 v q]
      by_cases hq : q = s
      · simp [hq]
      · simp [hq, hV q]

theorem MapIs.kept {w' : World} (h : MapIs w r z V) (hb : w'.heap[r]? = w.heap[r]?) : MapIs w' r z V := by
  obtain ⟨es, clock, h1, h2, h3⟩ := h
  exact ⟨es, clock, hb.trans h1, h2, h3⟩
theorem MapIs.lt (h : MapIs w r z V) : r < w.heap.size := by
  obtain ⟨es, clock, hb, _, _⟩ := h
  rcases Nat.lt_or_ge r w.heap.size with h' | h'
  · exact h'
  · rw [Array.getElem?_eq_none h'] at hb; cases hb
theorem MapIs.made (w : World) (z : Value) : MapIs (w.alloc (.map #[] 0)) w.heap.size z (fun _ => z) :=
  ⟨#[], 0, by show (w.heap.push _)[w.heap.size]? = _; simp, fun e he => by simp at he, fun k => by simp [findV]⟩
end

end Go.Proofs.Qxb6614379a
