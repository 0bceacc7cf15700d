import Derived.Test.Qxb6605732aMod2
namespace Go.Proofs.Qxb6605732a
open Go.RowKit
open Go.Sort (grow)
open Go.Lib
set_option linter.unusedVariables false
set_option linter.unusedSimpArgs false

theorem mod_any (R : Nat) (a : Option Addr) (n c : Nat) (l : List UInt8) (ok : Bool) (w : World) (h : View R w a n c l) (hm : l.length < 9000000000000) :
    Calls Try.prog 7 #[.slice a n c, .bool ok] w fun e w' => Out R w' (lenBytes l ok) e ∧ ∃ t, w' = w.drewN t := by
  cases l with
  | nil => exact mod_nil R a n c ok w h
  | cons b t =>
    simp only [List.length_cons] at hm
    by_cases h1 : b = 251
    · subst h1
      have : lenBytes (251 :: t) ok = ([], t, false) := by simp [lenBytes, lenInt]
      rw [this]
      exact mod_251 R a n c ok w t h (by omega)
    by_cases h2 : b = 255
    · subst h2
      have : lenBytes (255 :: t) ok = ([], t, false) := by simp [lenBytes, lenInt]
      rw [this]
      exact mod_255 R a n c ok w t h (by omega)
    have hi : lenInt (b :: t) ok = if t.length < width b then (0, [], false) else (if width b = 0 then b.toNat else leNat (t.take (width b)), t.drop (width b), ok) := by
      unfold lenInt
      simp only [h1, h2, or_self, if_false]
    by_cases h3 : b = 252
    · subst h3
      have hw : width 252 = 2 := rfl
      rw [hw] at hi
      by_cases hs : t.length < 2
      · rw [if_pos hs] at hi
        have : lenBytes (252 :: t) ok = ([], [], false) := by simp [lenBytes, hi]
        rw [this]
        exact mod_252_short R a n c ok w t h hs
      · rw [if_neg hs, if_neg (by omega)] at hi
        by_cases hx : t.length - 2 < leNat (t.take 2)
        · have : lenBytes (252 :: t) ok = ([], [], false) := by unfold lenBytes; rw [hi]; simp only [List.length_drop]; rw [if_pos hx]
          rw [this]
          exact mod_252_no R a n c ok w t h (by omega) (by omega) hx
        · have : lenBytes (252 :: t) ok = ((t.drop 2).take (leNat (t.take 2)), (t.drop 2).drop (leNat (t.take 2)), ok) := by unfold lenBytes; rw [hi]; simp only [List.length_drop]; rw [if_neg hx]
          rw [this]
          exact mod_252_ok R a n c ok w t h (by omega) (by omega) (by omega)
    by_cases h4 : b = 253
    · subst h4
      have hw : width 253 = 3 := rfl
      rw [hw] at hi
      by_cases hs : t.length < 3
      · rw [if_pos hs] at hi
        have : lenBytes (253 :: t) ok = ([], [], false) := by simp [lenBytes, hi]
        rw [this]
        exact mod_253_short R a n c ok w t h hs
      · rw [if_neg hs, if_neg (by omega)] at hi
        by_cases hx : t.length - 3 < leNat (t.take 3)
        · have : lenBytes (253 :: t) ok = ([], [], false) := by unfold lenBytes; rw [hi]; simp only [List.length_drop]; rw [if_pos hx]
          rw [this]
          exact mod_253_no R a n c ok w t h (by omega) (by omega) hx
        · have : lenBytes (253 :: t) ok = ((t.drop 3).take (leNat (t.take 3)), (t.drop 3).drop (leNat (t.take 3)), ok) := by unfold lenBytes; rw [hi]; simp only [List.length_drop]; rw [if_neg hx]
          rw [this]
          exact mod_253_ok R a n c ok w t h (by omega) (by omega) (by omega)
    by_cases h5 : b = 254
    · subst h5
      have hw : width 254 = 8 := rfl
      rw [hw] at hi
      by_cases hs : t.length < 8
      · rw [if_pos hs] at hi
        have : lenBytes (254 :: t) ok = ([], [], false) := by simp [lenBytes, hi]
        rw [this]
        exact mod_254_short R a n c ok w t h hs
      · rw [if_neg hs, if_neg (by omega)] at hi
        by_cases hx : t.length - 8 < leNat (t.take 8)
        · have : lenBytes (254 :: t) ok = ([], [], false) := by unfold lenBytes; rw [hi]; simp only [List.length_drop]; rw [if_pos hx]
          rw [this]
          exact mod_254_no R a n c ok w t h (by omega) (by omega) hx
        · have : lenBytes (254 :: t) ok = ((t.drop 8).take (leNat (t.take 8)), (t.drop 8).drop (leNat (t.take 8)), ok) := by unfold lenBytes; rw [hi]; simp only [List.length_drop]; rw [if_neg hx]
          rw [this]
          exact mod_254_ok R a n c ok w t h (by omega) (by omega) (by omega)
    have hw : width b = 0 := by unfold width; rw [if_neg h3, if_neg h4, if_neg h5]
    have hs : b.toNat < 251 := by
      have := b.toNat_lt
      have e1 : b.toNat ≠ 251 := fun e => h1 (UInt8.toNat_inj.1 e)
      have e2 : b.toNat ≠ 252 := fun e => h3 (UInt8.toNat_inj.1 e)
      have e3 : b.toNat ≠ 253 := fun e => h4 (UInt8.toNat_inj.1 e)
      have e4 : b.toNat ≠ 254 := fun e => h5 (UInt8.toNat_inj.1 e)
      have e5 : b.toNat ≠ 255 := fun e => h2 (UInt8.toNat_inj.1 e)
      omega
    rw [hw, if_neg (by omega), if_pos rfl, List.drop_zero] at hi
    by_cases hx : t.length < b.toNat
    · have : lenBytes (b :: t) ok = ([], [], false) := by unfold lenBytes; rw [hi]; simp only; rw [if_pos hx]
      rw [this]
      exact mod_small_no R a n c ok w b t h (by omega) hs hx
    · have : lenBytes (b :: t) ok = (t.take b.toNat, t.drop b.toNat, ok) := by unfold lenBytes; rw [hi]; simp only; rw [if_neg hx]
      rw [this]
      exact mod_small_ok R a n c ok w b t h (by omega) hs (by omega)

theorem clone_any (a : Option Addr) (cap : Nat) (l : List UInt8) (w : World) (hm : l.length ≤ 1048576) (h : ArgAt w a l.length l) :
    Calls Try.prog 6 #[.slice a l.length cap] w fun e w' => ∃ a' c', e = .returned (.slice a' l.length c') ∧ View w'.heap.size w' a' l.length c' l ∧ Below w.heap.size w w' := by
  cases a with
  | none =>
    have h0 := h.2.1 rfl
    obtain rfl : l = [] := List.length_eq_zero_iff.1 h0
    exact (clone_nil cap w).mono fun e w' ⟨he, hw⟩ => ⟨_, _, he, View.nil _ _, by subst hw; exact Below.refl _ _⟩
  | some x => exact (clone_some x cap l w hm h).mono fun e w' ⟨he, hv, hs, hb⟩ => ⟨_, _, he, hv.up hs, hb⟩

set_option maxRecDepth 100000 in
theorem new8 (a : Option Addr) (n c : Nat) (ok : Bool) (w : World) :
    Calls Try.prog 8 #[.slice a n c, .bool ok] w fun e w' => e = .returned (.pointer (some ⟨w.heap.size, 0, none⟩)) ∧ w' = w.alloc (.cells #[.slice a n c, .bool ok] 38) := by
  go_enter Try.func8, Try.ntmps8
  go_wp2
  go_ret
  exact ⟨rfl, rfl⟩
theorem new_any (a : Option Addr) (n c : Nat) (l : List UInt8) (ok : Bool) (w : World) (h : View w.heap.size w a n c l) :
    Calls Try.prog 8 #[.slice a n c, .bool ok] w fun e w' => e = .returned (.pointer (some ⟨w.heap.size, 0, none⟩)) ∧ Rdr w.heap.size w' l ok ∧ Below w.heap.size w w' :=
  (new8 a n c ok w).mono fun e w' ⟨he, hw⟩ => ⟨he, by
    subst hw
    exact ⟨a, n, c, Has.new _ _ rfl, h.below (below_alloc _ _)⟩, by subst hw; exact below_alloc _ _⟩
set_option maxRecDepth 100000 in
theorem rd9 (R : Nat) (l : List UInt8) (ok : Bool) (w : World) (h : Rdr R w l ok) (hm : l.length < 9000000000000) :
    Calls Try.prog 9 #[.pointer (some ⟨R, 0, none⟩)] w fun e w' => ∃ a n c, e = .returned (.slice a n c) ∧ View R w' a n c (lenBytes l ok).1 ∧ Rdr R w' (lenBytes l ok).2.1 (lenBytes l ok).2.2 ∧ Below R w w' := by
  have hb := bytes_any R l ok w h hm
  clear h
  go_enter Try.func9, Try.ntmps9
  go_wp2_with fail
  refine hb.mono ?_
  rintro e w1 ⟨a, n, c, rfl, h1, h2, h3⟩
  have H1 : Hid _ := h1
  have H2 : Hid _ := h2
  clear hb h1 h2
  go_wp2
  go_ret
  exact ⟨_, _, _, rfl, H1.out, H2.out, h3⟩
set_option maxRecDepth 100000 in
theorem b11 (R : Nat) (a : Option Addr) (n c : Nat) (ok : Bool) (w : World) (h : Has w R [.slice a n c, .bool ok] 38) :
    Calls Try.prog 11 #[.pointer (some ⟨R, 0, none⟩)] w fun e w' => e = .returned (.slice a n c) ∧ w' = w := by
  have c0 := h.cell 0 rfl
  clear h
  go_enter Try.func11, Try.ntmps11
  go_wp2
  go_ret
  exact ⟨rfl, rfl⟩
set_option maxRecDepth 100000 in
theorem ok12 (R : Nat) (a : Option Addr) (n c : Nat) (ok : Bool) (w : World) (h : Has w R [.slice a n c, .bool ok] 38) :
    Calls Try.prog 12 #[.pointer (some ⟨R, 0, none⟩)] w fun e w' => e = .returned (.bool ok) ∧ w' = w := by
  have c0 := h.cell 1 rfl
  clear h
  go_enter Try.func12, Try.ntmps12
  go_wp2
  go_ret
  exact ⟨rfl, rfl⟩
end Go.Proofs.Qxb6605732a
