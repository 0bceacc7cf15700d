import Derived.Test.Qxb6614248aCapOn
namespace Go.Proofs.Qxb6614248a
open Go.RowKit
set_option linter.unusedVariables false
set_option linter.unusedSimpArgs false

set_option maxHeartbeats 400000 in
theorem zz_any (s1 s2 : ByteArray) (a : Option Addr) (n cap : Nat) (d : Int) (w : World) (h1 : s1.size ≤ maxLen) (h2 : s2.size ≤ maxLen) (h3 : n ≤ maxLen) :
    Calls Try.prog 8 #[.string s1, .string s2, .slice a n cap, .int .i64 d] w fun e w' => e = .returned (.bool (decide (s1.size + s2.size + n ≤ 1048576))) ∧ w' = w := by
  unfold maxLen at h1 h2 h3
  by_cases hf : s1.size + s2.size + n ≤ 1048576
  · rw [decide_eq_true hf]
    go_enter Try.func8, Try.ntmps8
    go_wp2
    go_ret
    exact ⟨rfl, rfl⟩
  · rw [decide_eq_false hf]
    go_enter Try.func8, Try.ntmps8
    go_wp2
    all_goals (go_ret; exact ⟨rfl, rfl⟩)

/-- a slice of rows that came in -/
def RowsAt (w : World) (a : Option Addr) (xs : List (Int × Int)) : Prop :=
  xs.length = 0 ∨ ∃ b off, a = some ⟨b, off, none⟩ ∧ b < w.heap.size ∧ ∀ i, i < xs.length →
    w.cell? ⟨b, off + i * 2, none⟩ = some (.int .i64 (xs.getD i (0, 0)).1) ∧ w.cell? ⟨b, off + i * 2 + 1, none⟩ = some (.int .i64 (xs.getD i (0, 0)).2)

/-- the first k entries are laid -/
def Filled (cs : List Value) (xs : List (Int × Int)) (k : Nat) : Prop :=
  cs.length = xs.length * 4 ∧ ∀ i, i < k → cs[i * 4]? = some (.int .u64 ((xs.getD i (0, 0)).1 % 1000000000)) ∧ cs[i * 4 + 1]? = some (.int .i64 ((xs.getD i (0, 0)).1 / 1000000000)) ∧
    cs[i * 4 + 2]? = some (.pointer none) ∧ cs[i * 4 + 3]? = some (.int .i64 (xs.getD i (0, 0)).2)

theorem Filled.next {cs : List Value} {xs : List (Int × Int)} {k : Nat} (h : Filled cs xs k) (hk : k < xs.length) :
    Filled ((((cs.set (k * 4) (.int .u64 ((xs.getD k (0, 0)).1 % 1000000000))).set (k * 4 + 1) (.int .i64 ((xs.getD k (0, 0)).1 / 1000000000))).set (k * 4 + 2) (.pointer none)).set (k * 4 + 3) (.int .i64 (xs.getD k (0, 0)).2)) xs (k + 1) := by
  obtain ⟨hl, hc⟩ := h
  refine ⟨by simpa using hl, fun i hi => ?_⟩
  by_cases e : i = k
  · subst e
    have h0 : i * 4 < cs.length := by omega
    have h1 : i * 4 + 1 < cs.length := by omega
    have h2 : i * 4 + 2 < cs.length := by omega
    have h3 : i * 4 + 3 < cs.length := by omega
    simp [List.getElem?_set, h0, h1, h2, h3]
  · have := hc i (by omega)
    have n0 : ∀ p q, p < 4 → q < 4 → ¬ (k * 4 + p = i * 4 + q) := by intro p q; omega
    have m00 := n0 0 0; have m01 := n0 0 1; have m02 := n0 0 2; have m03 := n0 0 3
    have m10 := n0 1 0; have m11 := n0 1 1; have m12 := n0 1 2; have m13 := n0 1 3
    have m20 := n0 2 0; have m21 := n0 2 1; have m22 := n0 2 2; have m23 := n0 2 3
    have m30 := n0 3 0; have m31 := n0 3 1; have m32 := n0 3 2; have m33 := n0 3 3
    simp only [Nat.add_zero] at m00 m01 m02 m03 m10 m20 m30
    simp only [List.getElem?_set]
    simp [m00, m01, m02, m03, m10, m11, m12, m13, m20, m21, m22, m23, m30, m31, m32, m33, e] at *
    simpa using this

theorem Has.caps {w : World} {b : Nat} {cs : List Value} {xs : List (Int × Int)} (h : Has w b cs 43) (hf : Filled cs xs xs.length) : Caps w (some ⟨b, 0, none⟩) xs :=
  .inr ⟨b, rfl, h.lt, fun i hi => ⟨h.cell _ (hf.2 i hi).1, h.cell _ (hf.2 i hi).2.1, h.cell _ (hf.2 i hi).2.2.1, h.cell _ (hf.2 i hi).2.2.2⟩⟩

theorem info43 : (Try.prog.info? 43).map (fun i => (i.zero, i.size, i.bytes)) = some (some (.agg #[.int .u64 0, .int .i64 0, .pointer none, .int .i64 0]), 4, 32) := by kernel_rfl

theorem mk43 (n : Nat) (hn : n ≤ 1048576) (w : World) : ∃ cs : List Value, cs.length = n * 4 ∧ (Instr.makeSlice 30 (.int .i64 (n : Int)) (.int .i64 (n : Int))).run Try.prog w = .ok (.slice (some ⟨w.heap.size, 0, none⟩) n n) (w.alloc (.cells cs.toArray 43)) := by
  obtain ⟨i0, hi, hz0, hz1, hz2⟩ := info_parts info43
  have := run_make (P := Try.prog) w 30 43 i0 _ Try.underlying30 hi hz0 .i64 .i64 n n (by omega) (by omega) (by rw [hz2]; omega) (by omega)
  refine ⟨(madeCells (Value.agg #[.int .u64 0, .int .i64 0, .pointer none, .int .i64 0]).cells (n * 4)).toList, by simp [size_madeCells], ?_⟩
  rw [hz1] at this
  simpa using this

theorem caps_nil (w : World) (n cap : Nat) :
    Calls Try.prog 9 #[.slice none n cap] w fun e w' => e = .returned (.slice none 0 0) ∧ w' = w := by
  have hq := fun (w : World) => Lib.run_eql_slice_nil (P := Try.prog) w 27 47 none n cap 0 0 Try.underlying27
  go_enter Try.func9, Try.ntmps9
  go_wp2
  go_ret
  exact ⟨rfl, rfl⟩

set_option maxHeartbeats 1000000 in
theorem caps_some (x : Addr) (cap : Nat) (xs : List (Int × Int)) (w : World) (hm : xs.length ≤ 1048576) (hrow : RowsAt w (some x) xs) (hr : ∀ i, -9223372036854775808 ≤ (xs.getD i (0, 0)).1 ∧ (xs.getD i (0, 0)).1 < 9223372036854775808) :
    Calls Try.prog 9 #[.slice (some x) xs.length cap] w fun e w' => e = .returned (.slice (some ⟨w.heap.size, 0, none⟩) xs.length xs.length) ∧ Caps w' (some ⟨w.heap.size, 0, none⟩) xs ∧ Below w.heap.size w w' := by
  have hq := fun (w : World) => Lib.run_eql_slice_nil (P := Try.prog) w 27 47 (some x) xs.length cap 0 0 Try.underlying27
  obtain ⟨cs, hcs, hmk⟩ := mk43 xs.length hm w
  have Hrow : Hid (RowsAt w (some x) xs) := hrow
  have Hr : Hid (∀ i, -9223372036854775808 ≤ (xs.getD i (0, 0)).1 ∧ (xs.getD i (0, 0)).1 < 9223372036854775808) := hr
  have Hcs : Hid (cs.length = xs.length * 4) := hcs
  clear hrow hr hcs
  go_enter Try.func9, Try.ntmps9
  go_wp2_with fail
  go_loopw [4] (fun i wr => ∃ (k : Nat) (cs : List Value), k ≤ xs.length ∧ i = .int .i64 k ∧ Has wr w.heap.size cs 43 ∧ Filled cs xs k ∧ Below w.heap.size w wr) (fun i _ => xs.length - (intOf i).toNat)
  case atStart => exact ⟨0, cs, Nat.zero_le _, rfl, Has.new cs 43 rfl, ⟨Hcs.out, fun i hi => by omega⟩, (Below.refl _ _).alloc (Nat.le_refl _) _⟩
  case round =>
    clear hmk Hcs cs
    obtain ⟨k, cs, hk, rfl, Hc, hfill, hbel⟩ := hrel
    by_cases hlt : k < xs.length
    · rcases Hrow.out with h | ⟨b, off, hx, hbl, hcc⟩
      · omega
      simp only [Option.some.injEq] at hx
      subst hx
      obtain ⟨c0, c1⟩ := hcc k hlt
      rw [← hbel.cell (p := ⟨b, _, none⟩) hbl] at c0 c1
      obtain ⟨r0, r1⟩ := Hr.out k
      have Hn := hfill.next hlt
      have hl := hfill.1
      clear hcc
      generalize xs.getD k (0, 0) = x at *
      go_wp2_with fail
      go_region_with (go_at_call 10; refine (date_any _ _ r0 r1).mono ?_; rintro e w1 ⟨rfl, hb1⟩; have He := (Hc.drew).later hb1; have e0 := He.cell (k * 4) (List.getElem?_eq_getElem (by omega)); have e1 := He.cell (k * 4 + 1) (List.getElem?_eq_getElem (by omega)); have e2 := He.cell (k * 4 + 2) (List.getElem?_eq_getElem (by omega)); have e3 := He.cell (k * 4 + 3) (List.getElem?_eq_getElem (by omega)); have e4 := He.frozen; have c2 := cell_later hb1 (show wr.drew.cell? ⟨b, off + k * 2 + 1, none⟩ = some _ from c1); simp only [dateV])
      all_goals
        go_wp2
        go_roundw
        case rel => exact ⟨k + 1, _, hlt, by go_num, (((He.set (k * 4) _).set (k * 4 + 1) _).set (k * 4 + 2) _).set (k * 4 + 3) _, Hn, ((((hbel.drew.trans (hb1.mono (by have := hbel.size; simp; omega))).setCell (Nat.le_refl _) _).setCell (Nat.le_refl _) _).setCell (Nat.le_refl _) _).setCell (Nat.le_refl _) _⟩
        case measure => simp [intOf]; omega
    · go_wp2
      go_ret
      obtain rfl : k = xs.length := by omega
      exact ⟨rfl, Hc.caps hfill, hbel⟩

end Go.Proofs.Qxb6614248a
