import Derived.Test.Qxb6614379aMap
import Derived.Maps.AppendAt
namespace Go.Proofs.Qxb6614379a
open Go.RowKit
set_option linter.unusedVariables false
set_option linter.unusedSimpArgs false

def nilS : Value := .slice none 0 0

theorem info30 : (Try.prog.info? 30).map (fun i => (i.zero, i.size, i.bytes)) = some (some (.pointer none), 1, 8) := by kernel_rfl
theorem zero37 (w : World) : (zeroValue 37).run Try.prog w = .ok (.slice none 0 0) w := by kernel_rfl

theorem ownsRow_kept {w w' : World} {base : Nat} {e : TypeId} {size : Nat} {v : Value} {n : Nat} {xs : List Value} (h : w.ownsRow base e size v n xs)
    (hk : ∀ g, v.ownBlock = some g → w'.heap[g]? = w.heap[g]?) : w'.ownsRow base e size v n xs := by
  obtain ⟨h1, h2⟩ := h
  refine ⟨h1, ?_⟩
  rcases h2 with h2 | ⟨g, cap, cur, hv, hg, hh, r⟩
  · exact .inl h2
  · exact .inr ⟨g, cap, cur, hv, hg, by rw [hk g (by rw [hv]; rfl)]; exact hh, r⟩
theorem ownsRow_block {w : World} {base : Nat} {e : TypeId} {size : Nat} {v : Value} {n : Nat} {xs : List Value} (h : w.ownsRow base e size v n xs) {g : Nat} (hg : v.ownBlock = some g) : base ≤ g ∧ g < w.heap.size := by
  rcases h.2 with ⟨rfl, _⟩ | ⟨g', cap, cur, rfl, hb, hh, _⟩
  · cases hg
  · simp [Value.ownBlock] at hg
    subst hg
    refine ⟨hb, ?_⟩
    rcases Nat.lt_or_ge g' w.heap.size with h' | h'
    · exact h'
    · rw [Array.getElem?_eq_none h'] at hh; cases hh

/-- w' is w but for new blocks and what lies in the blocks of S -/
structure Kept (S : Nat → Prop) (w w' : World) : Prop where
  os : w'.os = w.os
  tape : w'.tape = w.tape
  output : w'.output = w.output
  size : w.heap.size ≤ w'.heap.size
  block : ∀ k, k < w.heap.size → ¬ S k → w'.heap[k]? = w.heap[k]?

set_option maxHeartbeats 400000 in
theorem push38 (r : Nat) (V : ByteArray → Value) (q : ByteArray) (p : Option Addr) (base n : Nat) (xs : List Value) (w : World)
    (hm : MapIs w r (.slice none 0 0) V) (hr : r < base) (hown : w.ownsRow base 30 1 (V q) n xs) (hn : n ≤ 1000000) (hbase : base ≤ w.heap.size) :
    Calls Try.prog 38 #[.map (some r), .string q, .pointer p] w fun e w' => e = .returned (.tuple #[]) ∧ ∃ v', MapIs w' r (.slice none 0 0) (fun k => if k = q then v' else V k) ∧ w'.ownsRow base 30 1 v' (n + 1) (xs ++ [.pointer p]) ∧
      Kept (fun k => k = r ∨ some k = (V q).ownBlock) w w' ∧ (v'.ownBlock = (V q).ownBlock ∨ ∃ g, v'.ownBlock = some g ∧ w.heap.size ≤ g) := by
  have hlook := hm.look (P := Try.prog) Try.underlying25 Try.underlying9 zero37 q
  have Hm : Hid (MapIs w r (.slice none 0 0) V) := hm
  generalize hv : V q = v at *
  have Hv : Hid (V q = v) := hv
  clear hv hm
  obtain ⟨i0, hi, hz0, hz1, hz2⟩ := info_parts info30
  go_enter Try.func38, Try.ntmps38
  iterate 23 go_step
  refine wpList_append_own_at _ rfl _ _ 37 rfl base 30 i0 (.pointer none) 1 8 Try.underlying37 hi hz0 hz1 hz2 rfl (by decide) v n xs rfl (hown.alloc _) ⟨w.heap.size, 0, none⟩ 1 1 [.pointer p] rfl rfl (cell_one_new _ _ _) (by simp [Value.oneCell']) (by unfold maxLen; omega) (by omega) (by simp; omega) ?_
  intro v' w1 hown' hgrow hnil hloc
  have hrv : some r ≠ v.ownBlock := fun e => by
    have := (ownsRow_block hown e.symm).1; omega
  have hrl := Hm.out.lt
  have hall : w.grownBy w1 v.ownBlock := (World.grownBy_alloc w _ _).trans hgrow
  have hm1 := Hm.out.kept (hall.block r hrl hrv)
  obtain ⟨w2, hput, hm2, hg2, hs2⟩ := hm1.put (P := Try.prog) Try.underlying25 Try.underlying9 q v'
  go_wp2_with fail
  go_end0
  have hkb : ∀ g, v'.ownBlock = some g → r ≠ g := fun g hg e => by
    have := (ownsRow_block hown' hg).1; omega
  refine ⟨rfl, v', hm2, ownsRow_kept hown' (fun g hg => hg2.block g (ownsRow_block hown' hg).2 (fun e => hkb g hg (Option.some.inj e).symm)), ⟨hg2.os.trans hall.os, hg2.tape.trans hall.tape, hg2.output.trans hall.output, Nat.le_trans hall.size hg2.size, fun k hk hn => ?_⟩, ?_⟩
  · have h1 : ¬ k = r := fun e => hn (.inl e)
    have h2 : ¬ some k = v.ownBlock := fun e => hn (.inr e)
    rw [hg2.block k (Nat.lt_of_lt_of_le hk hall.size) (fun e => h1 (Option.some.inj e))]
    exact hall.block k hk h2
  · rcases hloc with h | h
    · exact .inl h
    · exact .inr ⟨_, h, by simp⟩

set_option maxHeartbeats 400000 in
theorem push_any (r : Nat) (V : ByteArray → Value) (q : ByteArray) (p : Option Addr) (base n : Nat) (xs : List Value) (w : World)
    (hm : MapIs w r (.slice none 0 0) V) (hr : r < base) (hown : w.ownsRow base 30 1 (V q) n xs) (hn : n ≤ 1000000) (hbase : base ≤ w.heap.size) :
    Calls Try.prog 12 #[.map (some r), .string q, .pointer p] w fun e w' => e = .returned (.tuple #[]) ∧ ∃ v', MapIs w' r (.slice none 0 0) (fun k => if k = q then v' else V k) ∧ w'.ownsRow base 30 1 v' (n + 1) (xs ++ [.pointer p]) ∧
      Kept (fun k => k = r ∨ some k = (V q).ownBlock) w w' ∧ (v'.ownBlock = (V q).ownBlock ∨ ∃ g, v'.ownBlock = some g ∧ w.heap.size ≤ g) := by
  have hc := push38 r V q p base n xs w hm hr hown hn hbase
  clear hm hr hown hn hbase
  go_enter Try.func12, Try.ntmps12
  go_wp2_with (go_at_call 38; refine hc.mono ?_; rintro e w' ⟨rfl, hx⟩)
  go_end0
  exact ⟨rfl, hx⟩

theorem ns_any (s : ByteArray) (w : World) :
    Calls Try.prog 13 #[.string s] w fun e w' => e = .returned (.pointer (some ⟨w.heap.size, 0, none⟩)) ∧ w' = w.alloc (.cells #[.string s] 68) := by
  go_enter Try.func13, Try.ntmps13
  go_wp2_with fail
  go_ret
  exact ⟨rfl, rfl⟩

theorem newRes_any (w : World) :
    Calls Try.prog 11 #[] w fun e w' => e = .returned (.map (some w.heap.size)) ∧ w' = w.alloc (.map #[] 0) := by
  have hmm := @run_makeMap Try.prog
  go_enter Try.func11, Try.ntmps11
  go_wp2_with fail
  go_ret
  exact ⟨rfl, rfl⟩

theorem uri_any (b : Nat) (s : ByteArray) (w : World) (hc : w.cell? ⟨b, 0, none⟩ = some (.string s)) :
    Calls Try.prog 15 #[.pointer (some ⟨b, 0, none⟩)] w fun e w' => e = .returned (.string s) ∧ w' = w := by
  go_enter Try.func15, Try.ntmps15
  go_wp2
  go_ret
  exact ⟨rfl, rfl⟩

theorem depth_any (r : Nat) (V : ByteArray → Value) (q : ByteArray) (base n : Nat) (xs : List Value) (w : World)
    (hm : MapIs w r (.slice none 0 0) V) (hown : w.ownsRow base 30 1 (V q) n xs) :
    Calls Try.prog 14 #[.map (some r), .string q] w fun e w' => e = .returned (.int .i64 n) ∧ w' = w := by
  have hlook := hm.look (P := Try.prog) Try.underlying25 Try.underlying9 zero37 q
  clear hm
  rcases hown.2 with ⟨hv, hn⟩ | ⟨g, cap, cur, hv, _⟩
  · subst hn
    rw [hv] at hlook
    clear hown hv
    go_enter Try.func14, Try.ntmps14
    go_wp2_with fail
    go_ret
    exact ⟨rfl, rfl⟩
  · rw [hv] at hlook
    clear hown hv
    go_enter Try.func14, Try.ntmps14
    go_wp2_with fail
    go_ret
    exact ⟨rfl, rfl⟩

theorem ownsRow_cell {w : World} {base : Nat} {e : TypeId} {v : Value} {n : Nat} {xs : List Value} (h : w.ownsRow base e 1 v n xs) {g cap i : Nat} (hv : v = .slice (some ⟨g, 0, none⟩) n cap) {x : Value} (hx : xs[i]? = some x) : w.cell? ⟨g, i, none⟩ = some x := by
  have := h.cells (g := g) (by rw [hv]; rfl) i x hx
  simpa [WideShapes.add_plain] using this

theorem binding_any (r : Nat) (V : ByteArray → Value) (q : ByteArray) (base n : Nat) (xs : List Value) (i : Nat) (p : Option Addr) (w : World)
    (hm : MapIs w r (.slice none 0 0) V) (hown : w.ownsRow base 30 1 (V q) n xs) (hi : xs[i]? = some (.pointer p)) :
    Calls Try.prog 16 #[.map (some r), .string q, .int .i64 i] w fun e w' => e = .returned (.pointer p) ∧ w' = w := by
  have hlook := hm.look (P := Try.prog) Try.underlying25 Try.underlying9 zero37 q
  clear hm
  have hxl := hown.1
  have hil : i < xs.length := by
    rcases Nat.lt_or_ge i xs.length with h | h
    · exact h
    · rw [List.getElem?_eq_none h] at hi; cases hi
  rcases hown.2 with ⟨hv, hn⟩ | ⟨g, cap, cur, hv, _⟩
  · subst hn; omega
  · have hc := ownsRow_cell hown hv hi
    have hin : i < n := by omega
    rw [hv] at hlook
    clear hown hv hxl hil hi
    go_enter Try.func16, Try.ntmps16
    go_wp2_with fail
    go_ret
    exact ⟨rfl, rfl⟩

end Go.Proofs.Qxb6614379a
