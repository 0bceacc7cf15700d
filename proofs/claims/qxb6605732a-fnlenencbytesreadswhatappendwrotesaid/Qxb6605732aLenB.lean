import Derived.Test.Qxb6605732aLenI
namespace Go.Proofs.Qxb6605732a
open Go.RowKit
open Go.Sort (grow)
open Go.Lib
set_option linter.unusedVariables false
set_option linter.unusedSimpArgs false

/-- how many bytes of length follow a first byte -/
def width (b : UInt8) : Nat := if b = 252 then 2 else if b = 253 then 3 else if b = 254 then 8 else 0
/-- the length-encoded integer at the front of a list: its value, the rest, the flag -/
def lenInt (l : List UInt8) (ok : Bool) : Nat × List UInt8 × Bool :=
  match l with
  | [] => (0, [], false)
  | b :: t => if b = 251 ∨ b = 255 then (0, t, false) else if t.length < width b then (0, [], false) else (if width b = 0 then b.toNat else leNat (t.take (width b)), t.drop (width b), ok)
/-- the length-encoded string at the front of a list: the string, the rest, the flag -/
def lenBytes (l : List UInt8) (ok : Bool) : List UInt8 × List UInt8 × Bool :=
  if (lenInt l ok).2.1.length < (lenInt l ok).1 then ([], [], false) else ((lenInt l ok).2.1.take (lenInt l ok).1, (lenInt l ok).2.1.drop (lenInt l ok).1, (lenInt l ok).2.2)

theorem leNat_lt : ∀ l : List UInt8, leNat l < 256 ^ l.length
  | [] => by simp [leNat]
  | b :: t => by
    have := leNat_lt t
    have := b.toNat_lt
    simp only [leNat, List.length_cons, Nat.pow_succ]
    omega
theorem width_le (b : UInt8) : width b ≤ 8 := by unfold width; split <;> (try omega); split <;> (try omega); split <;> omega
theorem lenInt_lt (l : List UInt8) (ok : Bool) : (lenInt l ok).1 < 18446744073709551616 := by
  unfold lenInt
  split
  · simp
  · rename_i b t
    split
    · simp
    split
    · simp
    · have h0 := b.toNat_lt
      have h1 := leNat_lt (t.take (width b))
      have h2 := width_le b
      have h3 : (t.take (width b)).length ≤ 8 := by rw [List.length_take]; omega
      have h4 : 256 ^ (t.take (width b)).length ≤ 256 ^ 8 := Nat.pow_le_pow_right (by omega) h3
      simp only
      split <;> omega
theorem lenInt_len (l : List UInt8) (ok : Bool) : (lenInt l ok).2.1.length ≤ l.length := by
  unfold lenInt
  split
  · simp
  · split
    · simp
    split
    · simp
    · simp; omega

theorem int_any (R : Nat) (l : List UInt8) (ok : Bool) (w : World) (h : Rdr R w l ok) (hm : l.length < 9000000000000) :
    Calls Try.prog 18 #[.pointer (some ⟨R, 0, none⟩)] w fun e w' => e = .returned (.int .u64 (lenInt l ok).1) ∧ Rdr R w' (lenInt l ok).2.1 (lenInt l ok).2.2 ∧ Below R w w' := by
  cases l with
  | nil => exact int_nil R ok w h
  | cons b t =>
    simp only [List.length_cons] at hm
    unfold lenInt
    by_cases h1 : b = 251
    · subst h1
      simp only [true_or, if_true]
      exact int_251 R t ok w h (by omega)
    by_cases h2 : b = 255
    · subst h2
      simp only [or_true, if_true]
      exact int_255 R t ok w h (by omega)
    simp only [h1, h2, or_self, if_false]
    by_cases h3 : b = 252
    · subst h3
      show Calls Try.prog 18 _ w fun e w' => e = .returned (.int .u64 (if t.length < 2 then (0, [], false) else (leNat (t.take 2), t.drop 2, ok)).1) ∧ Rdr R w' (if t.length < 2 then (0, [], false) else (leNat (t.take 2), t.drop 2, ok)).2.1 (if t.length < 2 then (0, [], false) else (leNat (t.take 2), t.drop 2, ok)).2.2 ∧ Below R w w'
      by_cases hs : t.length < 2
      · simp only [hs, if_true]
        exact int_252_no R t ok w h hs
      · simp only [hs, if_false]
        match t, hs, h, hm with
        | x0 :: x1 :: r, _, h, hm => exact int_252_ok R x0 x1 r ok w h (by simp at hm; omega)
        | [], hs, _, _ => simp at hs
        | [_], hs, _, _ => simp at hs
    by_cases h4 : b = 253
    · subst h4
      show Calls Try.prog 18 _ w fun e w' => e = .returned (.int .u64 (if t.length < 3 then (0, [], false) else (leNat (t.take 3), t.drop 3, ok)).1) ∧ Rdr R w' (if t.length < 3 then (0, [], false) else (leNat (t.take 3), t.drop 3, ok)).2.1 (if t.length < 3 then (0, [], false) else (leNat (t.take 3), t.drop 3, ok)).2.2 ∧ Below R w w'
      by_cases hs : t.length < 3
      · simp only [hs, if_true]
        exact int_253_no R t ok w h hs
      · simp only [hs, if_false]
        match t, hs, h, hm with
        | x0 :: x1 :: x2 :: r, _, h, hm => exact int_253_ok R x0 x1 x2 r ok w h (by simp at hm; omega)
        | [], hs, _, _ => simp at hs
        | [_], hs, _, _ => simp at hs
        | [_, _], hs, _, _ => simp at hs
    by_cases h5 : b = 254
    · subst h5
      show Calls Try.prog 18 _ w fun e w' => e = .returned (.int .u64 (if t.length < 8 then (0, [], false) else (leNat (t.take 8), t.drop 8, ok)).1) ∧ Rdr R w' (if t.length < 8 then (0, [], false) else (leNat (t.take 8), t.drop 8, ok)).2.1 (if t.length < 8 then (0, [], false) else (leNat (t.take 8), t.drop 8, ok)).2.2 ∧ Below R w w'
      by_cases hs : t.length < 8
      · simp only [hs, if_true]
        exact int_254_no R t ok w h hs
      · simp only [hs, if_false]
        obtain ⟨x0, x1, x2, x3, x4, x5, x6, x7, r, rfl⟩ : ∃ x0 x1 x2 x3 x4 x5 x6 x7 r, t = x0 :: x1 :: x2 :: x3 :: x4 :: x5 :: x6 :: x7 :: r := by
          rcases t with _ | ⟨x0, t⟩; · simp at hs
          rcases t with _ | ⟨x1, t⟩; · simp at hs
          rcases t with _ | ⟨x2, t⟩; · simp at hs
          rcases t with _ | ⟨x3, t⟩; · simp at hs
          rcases t with _ | ⟨x4, t⟩; · simp at hs
          rcases t with _ | ⟨x5, t⟩; · simp at hs
          rcases t with _ | ⟨x6, t⟩; · simp at hs
          rcases t with _ | ⟨x7, t⟩; · simp at hs
          exact ⟨x0, x1, x2, x3, x4, x5, x6, x7, t, rfl⟩
        exact int_254_ok R x0 x1 x2 x3 x4 x5 x6 x7 r ok w h (by simp at hm; omega)
    have hw : width b = 0 := by unfold width; rw [if_neg h3, if_neg h4, if_neg h5]
    have hs : b.toNat < 251 := by
      have := b.toNat_lt
      have e1 : b.toNat ≠ 251 := fun e => h1 (UInt8.toNat_inj.1 e)
      have e2 : b.toNat ≠ 252 := fun e => h3 (UInt8.toNat_inj.1 e)
      have e3 : b.toNat ≠ 253 := fun e => h4 (UInt8.toNat_inj.1 e)
      have e4 : b.toNat ≠ 254 := fun e => h5 (UInt8.toNat_inj.1 e)
      have e5 : b.toNat ≠ 255 := fun e => h2 (UInt8.toNat_inj.1 e)
      omega
    simp only [hw, Nat.not_lt_zero, if_false, if_true, List.drop_zero]
    exact int_small R b t ok w h (by omega) hs

set_option maxRecDepth 100000 in
set_option maxHeartbeats 1000000 in
theorem bytes_any (R : Nat) (l : List UInt8) (ok : Bool) (w : World) (h : Rdr R w l ok) (hm : l.length < 9000000000000) :
    Calls Try.prog 16 #[.pointer (some ⟨R, 0, none⟩)] w fun e w' => ∃ a n c, e = .returned (.slice a n c) ∧ View R w' a n c (lenBytes l ok).1 ∧ Rdr R w' (lenBytes l ok).2.1 (lenBytes l ok).2.2 ∧ Below R w w' := by
  have hi := int_any R l ok w h hm
  have hlt := lenInt_lt l ok
  have hle := lenInt_len l ok
  unfold lenBytes
  generalize lenInt l ok = q at *
  obtain ⟨v, r, k⟩ := q
  simp only at hi hlt hle ⊢
  clear h
  by_cases hc : r.length < v
  · simp only [hc, if_true]
    go_enter Try.func16, Try.ntmps16
    go_wp2_with fail
    refine hi.mono ?_
    rintro e w1 ⟨rfl, hr, hbl⟩
    have hb : ∀ m : Nat, r.length < m → m ≤ r.length + 1 → _ := fun m h1 h2 => bytes_no R r k m w1 hr h1 (by omega)
    obtain ⟨a, n, c, h1, h2⟩ := hr
    obtain rfl := h2.1
    have c0 := h1.cell 0 rfl
    have Hb : Hid _ := hb
    clear hi h1 h2 hb
    go_wp2_with fail
    case inr hv =>
      refine (Hb.out v hc (by omega)).mono ?_
      rintro e w2 ⟨rfl, hr, hbl2⟩
      have Hr : Hid (Rdr R w2 [] false) := hr
      clear hr Hb
      go_wp2
      go_ret
      exact ⟨_, _, _, rfl, View.nil _ _, Hr.out, hbl.trans hbl2⟩
    case inl hv =>
      have hb := Hb.out (r.length + 1) (by omega) (by omega)
      rw [show ((r.length + 1 : Nat) : Int) = (r.length : Int) + 1 from by omega] at hb
      refine hb.mono ?_
      rintro e w2 ⟨rfl, hr, hbl2⟩
      have Hr : Hid (Rdr R w2 [] false) := hr
      clear hr hb Hb
      go_wp2
      go_ret
      exact ⟨_, _, _, rfl, View.nil _ _, Hr.out, hbl.trans hbl2⟩
  · simp only [hc, if_false]
    go_enter Try.func16, Try.ntmps16
    go_wp2_with fail
    refine hi.mono ?_
    rintro e w1 ⟨rfl, hr, hbl⟩
    have hb := bytes_ok R r k v w1 hr (by omega) (by omega)
    obtain ⟨a, n, c, h1, h2⟩ := hr
    obtain rfl := h2.1
    have c0 := h1.cell 0 rfl
    have hvl : (v : Int) ≤ (r.length : Int) + 1 := by omega
    clear hi h1 h2
    go_wp2_with fail
    refine hb.mono ?_
    rintro e w2 ⟨a2, c2, rfl, hv, hr, hbl2⟩
    have Hr : Hid (Rdr R w2 (r.drop v) k) := hr
    have Hv : Hid (View R w2 a2 v c2 (r.take v)) := hv
    clear hr hv hb
    go_wp2
    go_ret
    exact ⟨_, _, _, rfl, Hv.out, Hr.out, hbl.trans hbl2⟩
end Go.Proofs.Qxb6605732a
