import Derived.Test.Qxb6614379aGrp
import Derived.BigQuiet
import Derived.Deep.RegionWith
namespace Go.Proofs.Qxb6614379a
open Go.RowKit
set_option linter.unusedVariables false
set_option linter.unusedSimpArgs false

abbrev Pu := ByteArray × ByteArray
def px (xs : List Pu) (i : Nat) : ByteArray := (xs.getD i (ByteArray.empty, ByteArray.empty)).1
def ur (xs : List Pu) (i : Nat) : ByteArray := (xs.getD i (ByteArray.empty, ByteArray.empty)).2
/-- the pushes, of the first k, of the prefix q -/
def sl (xs : List Pu) (q : ByteArray) (k : Nat) : List Nat := sel (xs.map fun x => (x.1, false)) false q k

theorem pre_map (xs : List Pu) (i : Nat) : pre (xs.map fun x => (x.1, false)) i = px xs i := by
  unfold pre px
  simp only [List.getD_eq_getElem?_getD, List.getElem?_map]
  cases xs[i]? <;> rfl
theorem sec_map (xs : List Pu) (i : Nat) : sec (xs.map fun x => (x.1, false)) i = false := by
  unfold sec
  simp only [List.getD_eq_getElem?_getD, List.getElem?_map]
  cases xs[i]? <;> rfl
theorem sl_hit {xs : List Pu} {q : ByteArray} {k : Nat} (h : px xs k = q) : sl xs q (k + 1) = sl xs q k ++ [k] := sel_hit (by rw [pre_map]; exact h) (sec_map xs k)
theorem sl_miss {xs : List Pu} {q : ByteArray} {k : Nat} (h : ¬ px xs k = q) : sl xs q (k + 1) = sl xs q k := sel_miss (fun h' => h (by rw [← pre_map]; exact h'.1))
theorem sl_le (xs : List Pu) (q : ByteArray) (k : Nat) : (sl xs q k).length ≤ k := sel_le _ _ _ _
theorem sl_lt {xs : List Pu} {q : ByteArray} {k i : Nat} (h : i ∈ sl xs q k) : i < k := sel_lt h
theorem sl_rank {xs : List Pu} {q : ByteArray} {k n : Nat} (hk : k < n) (h : px xs k = q) : (sl xs q n)[(sl xs q k).length]? = some k := sel_rank hk (by rw [pre_map]; exact h) (sec_map xs k)
/-- was the prefix pushed? -/
def pa (xs : List Pu) (q : ByteArray) (k : Nat) : Bool := !(sl xs q k).isEmpty
theorem pa_hit {xs : List Pu} {q : ByteArray} {k : Nat} (h : px xs k = q) : pa xs q (k + 1) = true := by unfold pa; rw [sl_hit h]; simp
theorem pa_miss {xs : List Pu} {q : ByteArray} {k : Nat} (h : ¬ px xs k = q) : pa xs q (k + 1) = pa xs q k := by unfold pa; rw [sl_miss h]

/-- a slice of pushes that came in -/
def PushesAt (w : World) (a : Option Addr) (xs : List Pu) : Prop :=
  xs.length = 0 ∨ ∃ b off, a = some ⟨b, off, none⟩ ∧ b < w.heap.size ∧ ∀ i, i < xs.length →
    w.cell? ⟨b, off + i * 2, none⟩ = some (.string (px xs i)) ∧ w.cell? ⟨b, off + i * 2 + 1, none⟩ = some (.string (ur xs i))
theorem PushesAt.later {w w' : World} {a : Option Addr} {xs : List Pu} (h : PushesAt w a xs) (hb : Below w.heap.size w w') : PushesAt w' a xs := by
  rcases h with h | ⟨b, off, rfl, hl, hc⟩
  · exact .inl h
  · refine .inr ⟨b, off, rfl, Nat.lt_of_lt_of_le hl hb.size, fun i hi => ?_⟩
    rw [hb.cell (p := ⟨b, _, none⟩) hl, hb.cell (p := ⟨b, _, none⟩) hl]
    exact hc i hi

structure Grp1 (xs : List Pu) (B k : Nat) (N : Nat → Nat) (V : ByteArray → Value) (w wr : World) : Prop where
  map : MapIs wr B (.slice none 0 0) V
  rows : ∀ q, wr.ownsRow (B + 1) 30 1 (V q) (sl xs q k).length ((sl xs q k).map fun i => .pointer (some ⟨N i, 0, none⟩))
  apart : ∀ q q' g, (V q).ownBlock = some g → (V q').ownBlock = some g → q = q'
  ns : ∀ i, i < k → Has wr (N i) [.string (ur xs i)] 68 ∧ B < N i
  bel : Below B w wr
  size : B + 1 ≤ wr.heap.size

def updN (N : Nat → Nat) (k p : Nat) : Nat → Nat := fun i => if i = k then p else N i
theorem map_updN (N : Nat → Nat) (k p : Nat) (l : List Nat) (h : ∀ i ∈ l, i < k) : (l.map fun i => Value.pointer (some ⟨updN N k p i, 0, none⟩)) = l.map fun i => Value.pointer (some ⟨N i, 0, none⟩) := by
  refine List.map_congr_left fun i hi => ?_
  have := h i hi
  simp [updN, show ¬ i = k from by omega]

theorem Has.not_row {w : World} {b : Nat} {cs : List Value} (h : Has w b cs 68) {base n : Nat} {v : Value} {xs : List Value} (hr : w.ownsRow base 30 1 v n xs) : some b ≠ v.ownBlock := by
  intro e
  rcases hr.2 with ⟨rfl, _⟩ | ⟨g, cap, cur, rfl, _, hh, _⟩
  · cases e
  · simp [Value.ownBlock] at e
    subst e
    unfold Has at h
    rw [h] at hh
    simp at hh

theorem Grp1.step {xs : List Pu} {B k : Nat} {N : Nat → Nat} {V : ByteArray → Value} {w wr w2 w3 : World} {p : Nat} {v' : Value} (h : Grp1 xs B k N V w wr)
    (hb2 : Kept (fun _ => False) wr w2) (hns : Has w2 p [.string (ur xs k)] 68) (hp : wr.heap.size ≤ p)
    (hm : MapIs w3 B (.slice none 0 0) (fun q => if q = px xs k then v' else V q))
    (hrow : w3.ownsRow (B + 1) 30 1 v' ((sl xs (px xs k) k).length + 1) (((sl xs (px xs k) k).map fun i => .pointer (some ⟨N i, 0, none⟩)) ++ [.pointer (some ⟨p, 0, none⟩)]))
    (hkept : Kept (fun b => b = B ∨ some b = (V (px xs k)).ownBlock) w2 w3)
    (hloc : v'.ownBlock = (V (px xs k)).ownBlock ∨ ∃ g, v'.ownBlock = some g ∧ w2.heap.size ≤ g) :
    Grp1 xs B (k + 1) (updN N k p) (fun q => if q = px xs k then v' else V q) w w3 := by
  have hs2 := hb2.size
  have hs3 := hkept.size
  have hsz := h.size
  have keep : ∀ b, b < wr.heap.size → b ≠ B → (some b ≠ (V (px xs k)).ownBlock) → w3.heap[b]? = wr.heap[b]? := fun b h1 h3 h4 => by
    rw [hkept.block b (Nat.lt_of_lt_of_le h1 hs2) (fun h => h.elim h3 h4), hb2.block b h1 (fun h => h)]
  have ownB : ∀ q g, (V q).ownBlock = some g → B + 1 ≤ g ∧ g < wr.heap.size := fun q g hg => ownsRow_block (h.rows q) hg
  refine ⟨hm, fun q => ?_, fun q q' g h1 h2 => ?_, fun i hi => ?_, ?_, by omega⟩
  · by_cases hq : px xs k = q
    · subst hq
      rw [if_pos rfl, sl_hit rfl, List.map_append, map_updN N k p _ (fun i hi => sl_lt hi)]
      simpa [updN] using hrow
    · rw [if_neg (fun e => hq e.symm), sl_miss hq, map_updN N k p _ (fun i hi => sl_lt hi)]
      refine ownsRow_kept (h.rows q) (fun g hg => ?_)
      have := ownB q g hg
      exact keep g this.2 (by omega) (fun e => hq (h.apart _ _ g e.symm hg))
  · have fresh : ∀ q g, ¬ q = px xs k → (V q).ownBlock = some g → v'.ownBlock = some g → False := fun q g hne e1 e2 => by
      rcases hloc with hl | ⟨g', hl, hge⟩
      · rw [hl] at e2
        exact hne (h.apart q _ g e1 e2)
      · rw [hl] at e2
        have := (ownB q g e1).2
        have : g' = g := Option.some.inj e2
        omega
    by_cases c1 : q = px xs k
    · by_cases c2 : q' = px xs k
      · exact c1.trans c2.symm
      · simp only [if_pos c1] at h1; simp only [if_neg c2] at h2
        exact (fresh q' g c2 h2 h1).elim
    · simp only [if_neg c1] at h1
      by_cases c2 : q' = px xs k
      · simp only [if_pos c2] at h2
        exact (fresh q g c1 h1 h2).elim
      · simp only [if_neg c2] at h2
        exact h.apart q q' g h1 h2
  · by_cases e : i = k
    · subst e
      simp only [updN, if_true]
      have hpl := hns.lt
      refine ⟨(hkept.block p hpl (fun h' => h'.elim (by omega) (fun e => ?_))).trans hns, by omega⟩
      have := (ownB _ p e.symm).2
      omega
    · obtain ⟨g1, g2⟩ := h.ns i (by omega)
      simp only [updN, if_neg e]
      refine ⟨(keep (N i) g1.lt (by omega) (g1.not_row (h.rows (px xs k)))).trans g1, g2⟩
  · refine h.bel.trans ⟨hkept.os.trans hb2.os, hkept.tape.trans hb2.tape, hkept.output.trans hb2.output, Nat.le_trans hs2 hs3, fun b hb => ?_⟩
    exact keep b (by omega) (by omega) (fun e => by have := (ownB _ b e.symm).1; omega)

theorem Grp1.drewN {xs : List Pu} {B k : Nat} {N : Nat → Nat} {V : ByteArray → Value} {w wr : World} (G : Grp1 xs B k N V w wr) (n : Nat) : Grp1 xs B k N V w (wr.drewN n) :=
  ⟨G.map.kept rfl, fun q => ownsRow_kept (G.rows q) (fun _ _ => rfl), G.apart, G.ns, below_drewN G.bel n, G.size⟩

theorem Grp1.start (xs : List Pu) (w : World) : Grp1 xs w.heap.size 0 (fun _ => 0) (fun _ => .slice none 0 0) w (w.alloc (.map #[] 0)) :=
  ⟨MapIs.made w _, fun q => ⟨by simp [sl, sel], .inl ⟨rfl, by simp [sl, sel]⟩⟩, (fun q q' g h => by cases h), fun i hi => by omega, (Below.refl _ _).alloc (Nat.le_refl _) _, by simp⟩

theorem Grp1.push {xs : List Pu} {B k : Nat} {N : Nat → Nat} {V : ByteArray → Value} {w wr : World} (G : Grp1 xs B k N V w wr) (hk : k < xs.length) (hn : xs.length ≤ 1024) :
    Calls Try.prog 12 #[.map (some B), .string (px xs k), .pointer (some ⟨wr.heap.size, 0, none⟩)] ((wr.alloc (.cells #[.string (ur xs k)] 68)).drew)
      fun e w3 => e = .returned (.tuple #[]) ∧ ∃ N' V', Grp1 xs B (k + 1) N' V' w w3 := by
  have hsz := G.size
  have hb2 : Kept (fun _ => False) wr ((wr.alloc (.cells #[.string (ur xs k)] 68)).drew) := ⟨rfl, rfl, rfl, by simp, fun b hb _ => Below.heap_alloc _ _ _ hb⟩
  have hsel := sl_le xs (px xs k) k
  refine (push_any B V (px xs k) (some ⟨wr.heap.size, 0, none⟩) (B + 1) _ _ _ (G.map.kept (hb2.block _ (by omega) (fun h => h))) (by omega)
    (ownsRow_kept (G.rows _) (fun g hg => hb2.block g (ownsRow_block (G.rows _) hg).2 (fun h => h))) (by omega) (Nat.le_trans hsz hb2.size)).mono ?_
  rintro e w3 ⟨he, v', hm, hrow, hkept, hloc⟩
  exact ⟨he, _, _, G.step hb2 (Has.new (w := wr) [.string (ur xs k)] 68 rfl).drew (Nat.le_refl _) hm hrow hkept hloc⟩

end Go.Proofs.Qxb6614379a
