import Derived.Test.Qxb6605732aApp
namespace Go.Proofs.Qxb6605732a
open Go.RowKit
open Go.Sort (grow)
open Go.Lib
set_option linter.unusedVariables false
set_option linter.unusedSimpArgs false

/-! ### bytesEqualStringPB1 -/
set_option maxRecDepth 100000 in
set_option maxHeartbeats 1000000 in
theorem eqs_any (R : Nat) (a : Option Addr) (n c : Nat) (s : ByteArray) (w : World) (h1 : View R w a n c s.data.toList) (hm : s.size < 9000000000000) :
    Calls Try.prog 15 #[.slice a n c, .string s] w fun e w' => e = .returned (.bool true) ∧ ∃ t, w' = w.drewN t := by
  obtain rfl : n = s.size := by rw [← h1.1, Array.length_toList]; rfl
  have H1 : Hid (View R w a s.size c s.data.toList) := h1
  clear h1
  go_enter Try.func15, Try.ntmps15
  go_wp2_with fail
  go_loopw [5] (fun i wr => ∃ (k t : Nat), k ≤ s.size ∧ i = .int .i64 k ∧ wr = w.drewN t) (fun i _ => s.size - (intOf i).toNat)
  case atStart => exact ⟨0, 0, Nat.zero_le _, rfl, rfl⟩
  case round =>
    obtain ⟨k, t, hk, rfl, rfl⟩ := hrel
    by_cases hlt : k < s.size
    · obtain ⟨g, o, rfl, _, hc⟩ := H1.out.some (by omega)
      have eg : s.data.toList.getD k 0 = s[k]'hlt := by
        have : k < s.data.toList.length := by rw [Array.length_toList]; exact hlt
        simp [List.getD, List.getElem?_eq_getElem this]
        rfl
      have c0 : w.cell? ⟨g, o + k, none⟩ = some (.int .u8 (s[k]'hlt).toNat) := by rw [hc k hlt, eg]
      clear eg
      have i0 : (0 : Int) ≤ (k : Int) := by omega
      have i2 : (k : Int) < (s.size : Int) := by omega
      clear hc
      go_wp2_with fail
      go_quiet (fail)
      go_wp2
      go_roundw
      case rel => exact ⟨k + 1, _, hlt, by go_num, rfl⟩
      case measure => simp [intOf]; omega
    · go_wp2
      go_ret
      exact ⟨rfl, _, rfl⟩

/-! ### the plain law -/
theorem lenInt_enc (n : Nat) (r : List UInt8) (ok : Bool) (hn : n < 16777216) : lenInt (encInt n ++ r) ok = (n, r, ok) := by
  unfold encInt
  by_cases h1 : n < 251
  · rw [if_pos h1]
    have e : n.toUInt8.toNat = n := by rw [Nat.toUInt8, UInt8.toNat_ofNat', Nat.mod_eq_of_lt (by omega)]
    have ne : ∀ b : UInt8, 251 ≤ b.toNat → n.toUInt8 ≠ b := fun b hb he => by rw [he] at e; omega
    have hw : width n.toUInt8 = 0 := by
      unfold width
      rw [if_neg (ne 252 (by decide)), if_neg (ne 253 (by decide)), if_neg (ne 254 (by decide))]
    show lenInt (n.toUInt8 :: r) ok = _
    unfold lenInt
    simp only [ne 251 (by decide), ne 255 (by decide), or_self, if_false, hw, Nat.not_lt_zero, if_true, List.drop_zero, e]
  rw [if_neg h1]
  by_cases h2 : n < 65536
  · rw [if_pos h2]
    have hl := Lib.leBytes_length 2 n
    have he := Lib.leNat_leBytes 2 n (by omega)
    generalize Lib.leBytes 2 n = q at *
    match q, hl, he with
    | [x, y], _, he =>
      show lenInt (252 :: x :: y :: r) ok = _
      have : ¬ (252 = (251 : UInt8) ∨ 252 = (255 : UInt8)) := by decide
      unfold lenInt
      simp only [this, if_false, show width 252 = 2 from rfl]
      rw [if_neg (by simp), if_neg (by omega)]
      show (leNat [x, y], r, ok) = _
      rw [he]
  · rw [if_neg h2]
    have hl := Lib.leBytes_length 3 n
    have he := Lib.leNat_leBytes 3 n (by omega)
    generalize Lib.leBytes 3 n = q at *
    match q, hl, he with
    | [x, y, z], _, he =>
      show lenInt (253 :: x :: y :: z :: r) ok = _
      have : ¬ (253 = (251 : UInt8) ∨ 253 = (255 : UInt8)) := by decide
      unfold lenInt
      simp only [this, if_false, show width 253 = 3 from rfl]
      rw [if_neg (by simp), if_neg (by omega)]
      show (leNat [x, y, z], r, ok) = _
      rw [he]
theorem lenBytes_enc (s : ByteArray) (r : List UInt8) (ok : Bool) (hn : s.size < 16777216) : lenBytes (encStr s ++ r) ok = (s.data.toList, r, ok) := by
  unfold lenBytes encStr
  rw [List.append_assoc, lenInt_enc _ _ _ hn]
  have hl : s.data.toList.length = s.size := by rw [Array.length_toList]; rfl
  simp only
  rw [if_neg (by rw [List.length_append]; omega), ← hl, List.take_left, List.drop_left]
end Go.Proofs.Qxb6605732a
