import Derived.Test.Qxb6614248aRows
import Derived.WalkKit
import Derived.WalkSpells
import Derived.WalkLawsBesides
namespace Go.Proofs.Qxb6614248a
open Go.RowKit
set_option linter.unusedVariables false

theorem bcell {W w1 : World} (hb : Below W.heap.size W w1) : (∀ b o, b < W.heap.size → w1.cell? ⟨b, o, none⟩ = W.cell? ⟨b, o, none⟩) ∧ (∀ b o, b < W.heap.size → w1.frozen? ⟨b, o, none⟩ = W.frozen? ⟨b, o, none⟩) :=
  ⟨fun b o h => hb.cell (p := ⟨b, o, none⟩) h, fun b o h => hb.frozen (p := ⟨b, o, none⟩) h⟩

theorem and_top {u : Int} (h0 : 0 ≤ u) (h1 : u < 1000000000) : bits .and .u64 u 9223372036854775808 = 0 := by
  rw [u64_and u _ h0 (by omega) (by decide) (by decide)]
  have : u.toNat &&& (9223372036854775808 : Int).toNat = 0 := by
    show u.toNat &&& 2 ^ 63 = 0
    rw [nat_bit]
    have : u.toNat / 2 ^ 63 = 0 := Nat.div_eq_of_lt (by omega)
    rw [this]
  rw [this]; rfl

theorem and_low {u : Int} (h0 : 0 ≤ u) (h1 : u < 1000000000) : bits .and .u64 u 1073741823 = u := by
  rw [u64_and u _ h0 (by omega) (by decide) (by decide)]
  have : u.toNat &&& (1073741823 : Int).toNat = u.toNat := by
    show u.toNat &&& (2 ^ 30 - 1) = u.toNat
    rw [Nat.and_two_pow_sub_one_eq_mod, Nat.mod_eq_of_lt (by omega)]
  rw [this]; omega

theorem or_zero {u : Int} (h0 : 0 ≤ u) (h1 : u < 1000000000) : bits .or .u64 0 u = u := by
  rw [u64_or 0 u (by decide) (by decide) h0 (by omega)]
  simp; omega

theorem andNot_zero : bits .andNot .u64 0 1073741823 = 0 := by
  rw [u64_andNot 0 _ (by decide) (by decide) (by decide) (by decide)]; simp

set_option maxHeartbeats 400000 in
theorem nsec_any (b off : Nat) (u : Int) (w : World) (hc : w.cell? ⟨b, off, none⟩ = some (.int .u64 u)) (h0 : 0 ≤ u) (h1 : u < 1000000000) :
    Calls Try.prog 19 #[.pointer (some ⟨b, off, none⟩)] w fun e w' => e = .returned (.int .i32 u) ∧ w' = w := by
  have hb := and_low h0 h1
  go_enter Try.func19, Try.ntmps19
  go_wp2
  go_ret
  exact ⟨rfl, rfl⟩

set_option maxHeartbeats 400000 in
theorem sec_any (b off : Nat) (u s : Int) (w : World) (hc : w.cell? ⟨b, off, none⟩ = some (.int .u64 u)) (hc1 : w.cell? ⟨b, off + 1, none⟩ = some (.int .i64 s)) (h0 : 0 ≤ u) (h1 : u < 1000000000) :
    Calls Try.prog 18 #[.pointer (some ⟨b, off, none⟩)] w fun e w' => e = .returned (.int .i64 s) ∧ w' = w := by
  have hb := and_top h0 h1
  go_enter Try.func18, Try.ntmps18
  go_wp2
  go_ret
  exact ⟨rfl, rfl⟩

set_option maxHeartbeats 400000 in
theorem addSec_any (b : Nat) (u s : Int) (w : World) (hc : w.cell? ⟨b, 0, none⟩ = some (.int .u64 u)) (hc1 : w.cell? ⟨b, 1, none⟩ = some (.int .i64 0)) (hf : w.frozen? ⟨b, 1, none⟩ = false) (h0 : 0 ≤ u) (h1 : u < 1000000000)
    (s0 : -10000000000 < s) (s1 : s < 10000000000) :
    Calls Try.prog 20 #[.pointer (some ⟨b, 0, none⟩), .int .i64 s] w fun e w' => e = .returned (.tuple #[]) ∧ w' = w.setCell ⟨b, 1, none⟩ (.int .i64 s) := by
  have hb := and_top h0 h1
  go_enter Try.func20, Try.ntmps20
  go_wp2
  go_end0
  exact ⟨rfl, rfl⟩

theorem cells40 : Try.prog.cellsOf 40 = 3 := by kernel_rfl

set_option maxHeartbeats 400000 in
theorem add_pos (d : Int) (w : World) (h0 : 0 ≤ d) (h1 : d < 9223372036854775808) :
    Calls Try.prog 14 #[.agg #[.int .u64 0, .int .i64 0, .pointer none], .int .i64 d] w fun e w' => e = .returned (.agg #[.int .u64 (d % 1000000000), .int .i64 (d / 1000000000), .pointer none]) ∧ Below w.heap.size w w' := by
  have hn := or_zero (u := d % 1000000000) (by omega) (by omega)
  have ha := andNot_zero
  have hb := and_top (u := d % 1000000000) (by omega) (by omega)
  go_enter Try.func14, Try.ntmps14
  go_wp2_with (first
    | (go_at_call 19; refine (nsec_any _ _ 0 _ (by simp) (by omega) (by omega)).mono ?_; rintro e w' ⟨rfl, rfl⟩)
    | (go_at_call 20; refine (addSec_any _ (d % 1000000000) _ _ (by simp) (by simp) (by simp) (by omega) (by omega) (by omega) (by omega)).mono ?_; rintro e w' ⟨rfl, rfl⟩))
  exact bodyPost_ret (v := .agg #[.int .u64 (d % 1000000000), .int .i64 (d / 1000000000), .pointer none]) (by simp [results, Try.results14, go_sem]) rfl ⟨rfl, ((Below.refl _ _).alloc (Nat.le_refl _) _).alloc (by simp) _⟩

set_option maxHeartbeats 400000 in
theorem add_neg1 (d q r : Int) (w : World) (hq : d.tdiv 1000000000 = q) (hr : d.tmod 1000000000 = r) (h0 : d < 0) (h1 : -9223372036854775808 ≤ d) (r0 : -1000000000 < r) (r1 : r < 0) (q0 : -9223372037 ≤ q) (q1 : q ≤ 0) :
    Calls Try.prog 14 #[.agg #[.int .u64 0, .int .i64 0, .pointer none], .int .i64 d] w fun e w' => e = .returned (.agg #[.int .u64 (r + 1000000000), .int .i64 (q - 1), .pointer none]) ∧ Below w.heap.size w w' := by
  have hn := or_zero (u := r + 1000000000) (by omega) (by omega)
  have ha := andNot_zero
  have hb := and_top (u := r + 1000000000) (by omega) (by omega)
  go_enter Try.func14, Try.ntmps14
  go_wp2_with (first
    | (go_at_call 19; refine (nsec_any _ _ 0 _ (by simp) (by omega) (by omega)).mono ?_; rintro e w' ⟨rfl, rfl⟩)
    | (go_at_call 20; refine (addSec_any _ (r + 1000000000) _ _ (by simp) (by simp) (by simp) (by omega) (by omega) (by omega) (by omega)).mono ?_; rintro e w' ⟨rfl, rfl⟩))
  exact bodyPost_ret (v := .agg #[.int .u64 (r + 1000000000), .int .i64 (q - 1), .pointer none]) (by simp [results, Try.results14, go_sem]) rfl ⟨rfl, ((Below.refl _ _).alloc (Nat.le_refl _) _).alloc (by simp) _⟩

set_option maxHeartbeats 400000 in
theorem add_neg0 (d q : Int) (w : World) (hq : d.tdiv 1000000000 = q) (hr : d.tmod 1000000000 = 0) (h0 : d < 0) (h1 : -9223372036854775808 ≤ d) (q0 : -9223372037 ≤ q) (q1 : q ≤ 0) :
    Calls Try.prog 14 #[.agg #[.int .u64 0, .int .i64 0, .pointer none], .int .i64 d] w fun e w' => e = .returned (.agg #[.int .u64 0, .int .i64 q, .pointer none]) ∧ Below w.heap.size w w' := by
  have hn := or_zero (u := 0) (by omega) (by omega)
  have ha := andNot_zero
  have hb := and_top (u := 0) (by omega) (by omega)
  go_enter Try.func14, Try.ntmps14
  go_wp2_with (first
    | (go_at_call 19; refine (nsec_any _ _ 0 _ (by simp) (by omega) (by omega)).mono ?_; rintro e w' ⟨rfl, rfl⟩)
    | (go_at_call 20; refine (addSec_any _ 0 _ _ (by simp) (by simp) (by simp) (by omega) (by omega) (by omega) (by omega)).mono ?_; rintro e w' ⟨rfl, rfl⟩))
  exact bodyPost_ret (v := .agg #[.int .u64 0, .int .i64 q, .pointer none]) (by simp [results, Try.results14, go_sem]) rfl ⟨rfl, ((Below.refl _ _).alloc (Nat.le_refl _) _).alloc (by simp) _⟩

theorem tdm (d : Int) (h0 : d < 0) : d.tmod 1000000000 = -((-d) % 1000000000) ∧ d.tdiv 1000000000 = -((-d) / 1000000000) := by
  obtain ⟨m, rfl⟩ : ∃ m, d = -m := ⟨-d, by omega⟩
  rw [Int.neg_tmod, Int.neg_tdiv, Int.tmod_eq_emod_of_nonneg (by omega), Int.tdiv_eq_ediv_of_nonneg (by omega)]
  simp

def dateV (d : Int) : Value := .agg #[.int .u64 (d % 1000000000), .int .i64 (d / 1000000000), .pointer none]

theorem add_any (d : Int) (w : World) (h0 : -9223372036854775808 ≤ d) (h1 : d < 9223372036854775808) :
    Calls Try.prog 14 #[.agg #[.int .u64 0, .int .i64 0, .pointer none], .int .i64 d] w fun e w' => e = .returned (dateV d) ∧ Below w.heap.size w w' := by
  by_cases hp : 0 ≤ d
  · exact add_pos d w hp h1
  · obtain ⟨e1, e2⟩ := tdm d (by omega)
    by_cases hz : (-d) % 1000000000 = 0
    · have := add_neg0 d _ w e2 (by rw [e1, hz]; rfl) (by omega) h0 (by omega) (by omega)
      have a1 : d % 1000000000 = 0 := by omega
      have a2 : d / 1000000000 = -(-d / 1000000000) := by omega
      unfold dateV; rw [a1, a2]; exact this
    · have := add_neg1 d _ _ w e2 e1 (by omega) h0 (by omega) (by omega) (by omega) (by omega)
      have a1 : d % 1000000000 = -(-d % 1000000000) + 1000000000 := by omega
      have a2 : d / 1000000000 = -(-d / 1000000000) - 1 := by omega
      unfold dateV; rw [a1, a2]; exact this

set_option maxHeartbeats 400000 in
theorem date_any (d : Int) (w : World) (h0 : -9223372036854775808 ≤ d) (h1 : d < 9223372036854775808) :
    Calls Try.prog 10 #[.int .i64 d] w fun e w' => e = .returned (dateV d) ∧ Below w.heap.size w w' := by
  go_enter Try.func10, Try.ntmps10
  go_wp2_with fail
  refine (add_any d _ h0 h1).mono ?_
  rintro e w1 ⟨rfl, hb⟩
  obtain ⟨hc, hf⟩ := bcell hb
  have hz : w.heap.size + 1 < w1.heap.size := by have := hb.size; simp at this; omega
  have c0 : w1.cell? ⟨w.heap.size, 0, none⟩ = some (.int .u64 0) := by rw [hc _ _ (by simp; omega)]; simp
  have c1 : w1.cell? ⟨w.heap.size, 1, none⟩ = some (.int .i64 0) := by rw [hc _ _ (by simp; omega)]; simp
  have c2 : w1.cell? ⟨w.heap.size, 2, none⟩ = some (.pointer none) := by rw [hc _ _ (by simp; omega)]; simp
  have f0 : ∀ o, w1.frozen? ⟨w.heap.size, o, none⟩ = false := fun o => by rw [hf _ _ (by simp; omega)]; simp
  clear hc hf
  unfold dateV
  go_wp2
  exact bodyPost_ret (v := .agg #[.int .u64 (d % 1000000000), .int .i64 (d / 1000000000), .pointer none]) (by simp [results, Try.results10, go_sem, c0, c1, c2]) rfl ⟨rfl, ((((((Below.refl _ _).alloc (Nat.le_refl _) _).alloc (by simp) _).trans (hb.mono (by simp; omega))).setCell (by simp) _).setCell (by simp) _).setCell (by simp) _⟩

end Go.Proofs.Qxb6614248a
