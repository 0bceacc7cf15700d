import Derived.Test.Qxb6605732aLenB
namespace Go.Proofs.Qxb6605732a
open Go.RowKit
open Go.Sort (grow)
open Go.Lib
set_option linter.unusedVariables false
set_option linter.unusedSimpArgs false

theorem info5 : (Try.prog.info? 5).map (fun i => (i.zero, i.size, i.bytes)) = some (some (.int .u8 0), 1, 1) := by kernel_rfl
theorem mk5 (n : Nat) (hn : n ≤ 1048576) (w : World) : ∃ cs : List Value, cs.length = n ∧ (Instr.makeSlice 22 (.int .i64 (n : Int)) (.int .i64 (n : Int))).run Try.prog w = .ok (.slice (some ⟨w.heap.size, 0, none⟩) n n) (w.alloc (.cells cs.toArray 5)) := by
  obtain ⟨i0, hi, hz0, hz1, hz2⟩ := info_parts info5
  have := run_make (P := Try.prog) w 22 5 i0 _ Try.underlying22 hi hz0 .i64 .i64 n n (by omega) (by omega) (by rw [hz2]; omega) (by omega)
  refine ⟨(madeCells (Value.int .u8 0).cells (n * 1)).toList, by simp [size_madeCells], ?_⟩
  rw [hz1] at this
  simpa using this

/-- a slice of bytes that came in -/
def ArgAt (w : World) (a : Option Addr) (n : Nat) (l : List UInt8) : Prop :=
  l.length = n ∧ (a = none → n = 0) ∧ (n = 0 ∨ ∃ g o, a = some ⟨g, o, none⟩ ∧ g < w.heap.size ∧ ∀ i, i < n → w.cell? ⟨g, o + i, none⟩ = some (.int .u8 (l.getD i 0).toNat))

def Filled (cs : List Value) (l : List UInt8) (k : Nat) : Prop := cs.length = l.length ∧ ∀ i, i < k → cs[i]? = some (.int .u8 (l.getD i 0).toNat)
theorem Filled.next {cs : List Value} {l : List UInt8} {k : Nat} (h : Filled cs l k) (hk : k < l.length) : Filled (cs.set k (.int .u8 (l.getD k 0).toNat)) l (k + 1) := by
  obtain ⟨h1, h2⟩ := h
  refine ⟨by simpa using h1, fun i hi => ?_⟩
  by_cases he : i = k
  · subst he; rw [List.getElem?_set_self (by omega)]
  · rw [List.getElem?_set_ne (by omega)]; exact h2 i (by omega)
theorem Has.view {R : Nat} {w : World} {g : Nat} {cs : List Value} {l : List UInt8} (h : Has w g cs 5) (hg : g < R) (hf : Filled cs l l.length) : View R w (some ⟨g, 0, none⟩) l.length l.length l :=
  ⟨rfl, Nat.le_refl _, .inr ⟨g, 0, rfl, hg, fun i hi => by rw [Nat.zero_add]; exact h.cell i (hf.2 i hi)⟩⟩

set_option maxRecDepth 100000 in
set_option maxHeartbeats 1000000 in
theorem clone_nil (cap : Nat) (w : World) :
    Calls Try.prog 6 #[.slice none 0 cap] w fun e w' => e = .returned (.slice none 0 0) ∧ w' = w := by
  have hq := fun (w : World) => Lib.run_eql_slice_nil (P := Try.prog) w 22 5 none 0 cap 0 0 Try.underlying22
  go_enter Try.func6, Try.ntmps6
  go_wp2
  go_ret
  exact ⟨rfl, rfl⟩

set_option maxRecDepth 100000 in
set_option maxHeartbeats 1000000 in
theorem clone_some (x : Addr) (cap : Nat) (l : List UInt8) (w : World) (hm : l.length ≤ 1048576) (h : ArgAt w (some x) l.length l) :
    Calls Try.prog 6 #[.slice (some x) l.length cap] w fun e w' => e = .returned (.slice (some ⟨w.heap.size, 0, none⟩) l.length l.length) ∧ View (w.heap.size + 1) w' (some ⟨w.heap.size, 0, none⟩) l.length l.length l ∧ w.heap.size < w'.heap.size ∧ Below w.heap.size w w' := by
  have hq := fun (w : World) => Lib.run_eql_slice_nil (P := Try.prog) w 22 5 (some x) l.length cap 0 0 Try.underlying22
  obtain ⟨cs, hcs, hmk⟩ := mk5 l.length hm w
  have Hrow : Hid (ArgAt w (some x) l.length l) := h
  have Hcs : Hid (cs.length = l.length) := hcs
  clear h hcs
  go_enter Try.func6, Try.ntmps6
  go_wp2_with fail
  go_loopw [4] (fun i wr => ∃ (k : Nat) (cs : List Value), k ≤ l.length ∧ i = .int .i64 k ∧ Has wr w.heap.size cs 5 ∧ Filled cs l k ∧ Below w.heap.size w wr) (fun i _ => l.length - (intOf i).toNat)
  case atStart => exact ⟨0, cs, Nat.zero_le _, rfl, Has.new cs 5 rfl, ⟨Hcs.out, fun i hi => by omega⟩, (Below.refl _ _).alloc (Nat.le_refl _) _⟩
  case round =>
    clear hmk Hcs cs
    obtain ⟨k, cs, hk, rfl, Hc, hfill, hbel⟩ := hrel
    by_cases hlt : k < l.length
    · rcases Hrow.out.2.2 with h | ⟨g, o, hx, hbl, hcc⟩
      · omega
      simp only [Option.some.injEq] at hx
      subst hx
      have c0 := hcc k hlt
      rw [← hbel.cell (p := ⟨g, _, none⟩) hbl] at c0
      have Hn := hfill.next hlt
      have hl := hfill.1
      have e0 := Hc.cell k (List.getElem?_eq_getElem (by omega))
      have e4 := Hc.frozen k
      clear hcc
      generalize l.getD k 0 = x at *
      go_wp2
      go_roundw
      case rel => exact ⟨k + 1, _, hlt, by go_num, Hc.set k _, Hn, hbel.setCell (Nat.le_refl _) _⟩
      case measure => simp [intOf]; omega
    · go_wp2
      go_ret
      obtain rfl : k = l.length := by omega
      exact ⟨rfl, Hc.view (by omega) hfill, Hc.lt, hbel⟩

/-! ### bytesEqualPB1 -/
set_option maxRecDepth 100000 in
set_option maxHeartbeats 1000000 in
theorem eq_any (R S : Nat) (a b : Option Addr) (n m c d : Nat) (l : List UInt8) (w : World) (h1 : View R w a n c l) (h2 : View S w b m d l) (hm : l.length < 9000000000000) :
    Calls Try.prog 10 #[.slice a n c, .slice b m d] w fun e w' => e = .returned (.bool true) ∧ ∃ t, w' = w.drewN t := by
  obtain rfl := h1.1
  obtain rfl := h2.1
  have H1 : Hid (View R w a l.length c l) := h1
  have H2 : Hid (View S w b l.length d l) := h2
  clear h1 h2
  go_enter Try.func10, Try.ntmps10
  go_wp2_with fail
  go_loopw [5] (fun i wr => ∃ (k t : Nat), k ≤ l.length ∧ i = .int .i64 k ∧ wr = w.drewN t) (fun i _ => l.length - (intOf i).toNat)
  case atStart => exact ⟨0, 0, Nat.zero_le _, rfl, rfl⟩
  case round =>
    obtain ⟨k, t, hk, rfl, rfl⟩ := hrel
    by_cases hlt : k < l.length
    · obtain ⟨g, o, rfl, _, hc⟩ := H1.out.some (by omega)
      obtain ⟨g', o', rfl, _, hc'⟩ := H2.out.some (by omega)
      have c0 : w.cell? ⟨g, o + k, none⟩ = some (.int .u8 (l.getD k 0).toNat) := hc k hlt
      have c1 : w.cell? ⟨g', o' + k, none⟩ = some (.int .u8 (l.getD k 0).toNat) := hc' k hlt
      have i0 : (0 : Int) ≤ (k : Int) := by omega
      have i2 : (k : Int) < (l.length : Int) := by omega
      clear hc hc'
      generalize l.getD k 0 = x at *
      go_wp2_with fail
      go_quiet (fail)
      go_wp2
      go_roundw
      case rel => exact ⟨k + 1, _, hlt, by go_num, rfl⟩
      case measure => simp [intOf]; omega
    · go_wp2
      go_ret
      exact ⟨rfl, _, rfl⟩
end Go.Proofs.Qxb6605732a
