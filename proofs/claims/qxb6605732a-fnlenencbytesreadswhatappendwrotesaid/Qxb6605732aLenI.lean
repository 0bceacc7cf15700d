import Derived.Test.Qxb6605732aInt
namespace Go.Proofs.Qxb6605732a
open Go.RowKit
open Go.Sort (grow)
open Go.Lib
set_option linter.unusedVariables false
set_option linter.unusedSimpArgs false

set_option maxRecDepth 100000 in
set_option maxHeartbeats 1000000 in
theorem int_nil (R : Nat) (ok : Bool) (w : World) (h : Rdr R w [] ok) :
    Calls Try.prog 18 #[.pointer (some ⟨R, 0, none⟩)] w fun e w' => e = .returned (.int .u64 0) ∧ Rdr R w' [] false ∧ Below R w w' := by
  have hb := uint8_no R ok w h
  clear h
  go_enter Try.func18, Try.ntmps18
  go_wp2_with fail
  refine hb.mono ?_
  rintro e w1 ⟨rfl, hr, hbl⟩
  have Hr : Hid (Rdr R w1 [] false) := hr
  clear hb hr
  go_wp2
  go_ret
  exact ⟨rfl, Hr.out, hbl⟩

set_option maxRecDepth 100000 in
set_option maxHeartbeats 1000000 in
theorem int_small (R : Nat) (b : UInt8) (t : List UInt8) (ok : Bool) (w : World) (h : Rdr R w (b :: t) ok) (hm : t.length < 9000000000000000) (hs : b.toNat < 251) :
    Calls Try.prog 18 #[.pointer (some ⟨R, 0, none⟩)] w fun e w' => e = .returned (.int .u64 b.toNat) ∧ Rdr R w' t ok ∧ Below R w w' := by
  have hb := uint8_ok R b t ok w h hm
  clear h
  have n1 : ((b.toNat : Int) == 252) = false := by rw [beq_eq_false_iff_ne]; omega
  have n2 : ((b.toNat : Int) == 253) = false := by rw [beq_eq_false_iff_ne]; omega
  have n3 : ((b.toNat : Int) == 254) = false := by rw [beq_eq_false_iff_ne]; omega
  have n4 : ((b.toNat : Int) == 251) = false := by rw [beq_eq_false_iff_ne]; omega
  have n5 : ((b.toNat : Int) == 255) = false := by rw [beq_eq_false_iff_ne]; omega
  generalize b.toNat = x at *
  go_enter Try.func18, Try.ntmps18
  go_wp2_with fail
  refine hb.mono ?_
  rintro e w1 ⟨rfl, hr, hbl⟩
  have Hr : Hid (Rdr R w1 t ok) := hr
  clear hb hr
  go_wp2
  go_ret
  exact ⟨rfl, Hr.out, hbl⟩

set_option maxRecDepth 100000 in
set_option maxHeartbeats 1000000 in
theorem int_251 (R : Nat) (t : List UInt8) (ok : Bool) (w : World) (h : Rdr R w (251 :: t) ok) (hm : t.length < 9000000000000000) :
    Calls Try.prog 18 #[.pointer (some ⟨R, 0, none⟩)] w fun e w' => e = .returned (.int .u64 0) ∧ Rdr R w' t false ∧ Below R w w' := by
  have hb : Calls Try.prog 21 #[.pointer (some ⟨R, 0, none⟩)] w fun e w' => e = .returned (.int .u8 251) ∧ Rdr R w' t ok ∧ Below R w w' := uint8_ok R 251 t ok w h hm
  clear h
  go_enter Try.func18, Try.ntmps18
  go_wp2_with fail
  refine hb.mono ?_
  rintro e w1 ⟨rfl, ⟨a, n, c, hr, hv⟩, hbl⟩
  have c0 := hr.cell 1 rfl
  have fz := hr.frozen 1
  have B : Hid (Below R w1 (w1.setCell ⟨R, 1, none⟩ (.bool false))) := by
    show Below R w1 _; exact (Below.refl R w1).setCell (p := ⟨R, 1, none⟩) (Nat.le_refl R) _
  have Hr : Hid (Rdr R (w1.setCell ⟨R, 1, none⟩ (.bool false)) t false) := ⟨a, n, c, hr.set 1 _, hv.below B.out⟩
  clear hb hr hv
  go_wp2
  go_ret
  exact ⟨rfl, Hr.out, hbl.trans B.out⟩

set_option maxRecDepth 100000 in
set_option maxHeartbeats 1000000 in
theorem int_255 (R : Nat) (t : List UInt8) (ok : Bool) (w : World) (h : Rdr R w (255 :: t) ok) (hm : t.length < 9000000000000000) :
    Calls Try.prog 18 #[.pointer (some ⟨R, 0, none⟩)] w fun e w' => e = .returned (.int .u64 0) ∧ Rdr R w' t false ∧ Below R w w' := by
  have hb : Calls Try.prog 21 #[.pointer (some ⟨R, 0, none⟩)] w fun e w' => e = .returned (.int .u8 255) ∧ Rdr R w' t ok ∧ Below R w w' := uint8_ok R 255 t ok w h hm
  clear h
  go_enter Try.func18, Try.ntmps18
  go_wp2_with fail
  refine hb.mono ?_
  rintro e w1 ⟨rfl, ⟨a, n, c, hr, hv⟩, hbl⟩
  have c0 := hr.cell 1 rfl
  have fz := hr.frozen 1
  have B : Hid (Below R w1 (w1.setCell ⟨R, 1, none⟩ (.bool false))) := by
    show Below R w1 _; exact (Below.refl R w1).setCell (p := ⟨R, 1, none⟩) (Nat.le_refl R) _
  have Hr : Hid (Rdr R (w1.setCell ⟨R, 1, none⟩ (.bool false)) t false) := ⟨a, n, c, hr.set 1 _, hv.below B.out⟩
  clear hb hr hv
  go_wp2
  go_ret
  exact ⟨rfl, Hr.out, hbl.trans B.out⟩

set_option maxRecDepth 100000 in
set_option maxHeartbeats 1000000 in
theorem int_252_no (R : Nat) (t : List UInt8) (ok : Bool) (w : World) (h : Rdr R w (252 :: t) ok) (hm : t.length < 2) :
    Calls Try.prog 18 #[.pointer (some ⟨R, 0, none⟩)] w fun e w' => e = .returned (.int .u64 0) ∧ Rdr R w' [] false ∧ Below R w w' := by
  have hb : Calls Try.prog 21 #[.pointer (some ⟨R, 0, none⟩)] w fun e w' => e = .returned (.int .u8 252) ∧ Rdr R w' t ok ∧ Below R w w' := uint8_ok R 252 t ok w h (by omega)
  clear h
  go_enter Try.func18, Try.ntmps18
  go_wp2_with fail
  refine hb.mono ?_
  rintro e w1 ⟨rfl, hr, hbl⟩
  have hb2 := bytes_no R t ok 2 w1 hr (by omega) (by omega)
  clear hb hr
  go_wp2_with fail
  refine hb2.mono ?_
  rintro e w2 ⟨rfl, hr, hbl2⟩
  have Hr : Hid (Rdr R w2 [] false) := hr
  clear hb2 hr
  go_wp2
  go_ret
  exact ⟨rfl, Hr.out, hbl.trans hbl2⟩

set_option maxRecDepth 100000 in
set_option maxHeartbeats 1000000 in
theorem int_252_ok (R : Nat) (x0 x1 : UInt8) (t : List UInt8) (ok : Bool) (w : World) (h : Rdr R w (252 :: x0 :: x1 :: t) ok) (hm : t.length < 9000000000000) :
    Calls Try.prog 18 #[.pointer (some ⟨R, 0, none⟩)] w fun e w' => e = .returned (.int .u64 (leNat [x0, x1])) ∧ Rdr R w' t ok ∧ Below R w w' := by
  have hb : Calls Try.prog 21 #[.pointer (some ⟨R, 0, none⟩)] w fun e w' => e = .returned (.int .u8 252) ∧ Rdr R w' (x0 :: x1 :: t) ok ∧ Below R w w' := uint8_ok R 252 _ ok w h (by simp; omega)
  clear h
  go_enter Try.func18, Try.ntmps18
  go_wp2_with fail
  refine hb.mono ?_
  rintro e w1 ⟨rfl, hr, hbl⟩
  have hb2 := bytes_ok R (x0 :: x1 :: t) ok 2 w1 hr (by simp) (by simp; omega)
  clear hb hr
  go_wp2_with fail
  refine hb2.mono ?_
  rintro e w2 ⟨a1, c1', rfl, hv, hr, hbl2⟩
  obtain ⟨g, o, rfl, hg, hc⟩ := hv.some (by omega)
  have c0 : w2.cell? ⟨g, o, none⟩ = some (.int .u8 x0.toNat) := hc 0 (by omega)
  have c1 : w2.cell? ⟨g, o + 1, none⟩ = some (.int .u8 x1.toNat) := hc 1 (by omega)
  have Hr : Hid (Rdr R w2 t ok) := hr
  clear hc hv hb2 hr
  have hu := u16 g o 2 c1' x0 x1 w2 (by omega) c0 c1
  clear c0 c1
  have hlt : leNat [x0, x1] < 65536 := by
    have h0 := x0.toNat_lt
    have h1 := x1.toNat_lt
    simp only [leNat]
    omega
  go_wp2_with fail
  refine hu.mono ?_
  rintro e w3 ⟨rfl, hbl3⟩
  clear hu
  go_wp2
  go_ret
  exact ⟨rfl, Hr.out.later hbl3, (hbl.trans hbl2).trans (hbl3.mono (Nat.le_of_lt Hr.out.lt))⟩

set_option maxRecDepth 100000 in
set_option maxHeartbeats 1000000 in
theorem int_253_no (R : Nat) (t : List UInt8) (ok : Bool) (w : World) (h : Rdr R w (253 :: t) ok) (hm : t.length < 3) :
    Calls Try.prog 18 #[.pointer (some ⟨R, 0, none⟩)] w fun e w' => e = .returned (.int .u64 0) ∧ Rdr R w' [] false ∧ Below R w w' := by
  have hb : Calls Try.prog 21 #[.pointer (some ⟨R, 0, none⟩)] w fun e w' => e = .returned (.int .u8 253) ∧ Rdr R w' t ok ∧ Below R w w' := uint8_ok R 253 t ok w h (by omega)
  clear h
  go_enter Try.func18, Try.ntmps18
  go_wp2_with fail
  refine hb.mono ?_
  rintro e w1 ⟨rfl, hr, hbl⟩
  have hb2 := bytes_no R t ok 3 w1 hr (by omega) (by omega)
  clear hb hr
  go_wp2_with fail
  refine hb2.mono ?_
  rintro e w2 ⟨rfl, hr, hbl2⟩
  have Hr : Hid (Rdr R w2 [] false) := hr
  clear hb2 hr
  go_wp2
  go_ret
  exact ⟨rfl, Hr.out, hbl.trans hbl2⟩

set_option maxRecDepth 100000 in
set_option maxHeartbeats 1000000 in
theorem int_253_ok (R : Nat) (x0 x1 x2 : UInt8) (t : List UInt8) (ok : Bool) (w : World) (h : Rdr R w (253 :: x0 :: x1 :: x2 :: t) ok) (hm : t.length < 9000000000000) :
    Calls Try.prog 18 #[.pointer (some ⟨R, 0, none⟩)] w fun e w' => e = .returned (.int .u64 (leNat [x0, x1, x2])) ∧ Rdr R w' t ok ∧ Below R w w' := by
  have hb : Calls Try.prog 21 #[.pointer (some ⟨R, 0, none⟩)] w fun e w' => e = .returned (.int .u8 253) ∧ Rdr R w' (x0 :: x1 :: x2 :: t) ok ∧ Below R w w' := uint8_ok R 253 _ ok w h (by simp; omega)
  clear h
  go_enter Try.func18, Try.ntmps18
  go_wp2_with fail
  refine hb.mono ?_
  rintro e w1 ⟨rfl, hr, hbl⟩
  have hb2 := bytes_ok R (x0 :: x1 :: x2 :: t) ok 3 w1 hr (by simp) (by simp; omega)
  clear hb hr
  go_wp2_with fail
  refine hb2.mono ?_
  rintro e w2 ⟨a1, c1', rfl, hv, hr, hbl2⟩
  obtain ⟨g, o, rfl, hg, hc⟩ := hv.some (by omega)
  have c0 : w2.cell? ⟨g, o, none⟩ = some (.int .u8 x0.toNat) := hc 0 (by omega)
  have c1 : w2.cell? ⟨g, o + 1, none⟩ = some (.int .u8 x1.toNat) := hc 1 (by omega)
  have c2 : w2.cell? ⟨g, o + 2, none⟩ = some (.int .u8 x2.toNat) := hc 2 (by omega)
  have Hr : Hid (Rdr R w2 t ok) := hr
  clear hc hv hb2 hr
  have h0 : x0.toNat < 256 := x0.toNat_lt; have h1 : x1.toNat < 256 := x1.toNat_lt; have h2 : x2.toNat < 256 := x2.toNat_lt
  have hv : ((leNat [x0, x1, x2] : Nat) : Int) = (x0.toNat : Int) + (x1.toNat : Int) * 256 + (x2.toNat : Int) * 65536 := by
    simp only [leNat]
    push_cast
    omega
  go_wp2
  go_quiet (fail)
  go_wp2
  go_ret
  refine ⟨?_, Hr.out.later ⟨rfl, rfl, rfl, Nat.le_refl _, fun _ _ => rfl⟩, (hbl.trans hbl2).trans ⟨rfl, rfl, rfl, Nat.le_refl _, fun _ _ => rfl⟩⟩
  simp (disch := omega) only [u64_wrap_id, u64_or8, u64_or16]
  rw [hv]
  rfl

set_option maxRecDepth 100000 in
set_option maxHeartbeats 1000000 in
theorem int_254_no (R : Nat) (t : List UInt8) (ok : Bool) (w : World) (h : Rdr R w (254 :: t) ok) (hm : t.length < 8) :
    Calls Try.prog 18 #[.pointer (some ⟨R, 0, none⟩)] w fun e w' => e = .returned (.int .u64 0) ∧ Rdr R w' [] false ∧ Below R w w' := by
  have hb : Calls Try.prog 21 #[.pointer (some ⟨R, 0, none⟩)] w fun e w' => e = .returned (.int .u8 254) ∧ Rdr R w' t ok ∧ Below R w w' := uint8_ok R 254 t ok w h (by omega)
  clear h
  go_enter Try.func18, Try.ntmps18
  go_wp2_with fail
  refine hb.mono ?_
  rintro e w1 ⟨rfl, hr, hbl⟩
  have hb2 := bytes_no R t ok 8 w1 hr (by omega) (by omega)
  clear hb hr
  go_wp2_with fail
  refine hb2.mono ?_
  rintro e w2 ⟨rfl, hr, hbl2⟩
  have Hr : Hid (Rdr R w2 [] false) := hr
  clear hb2 hr
  go_wp2
  go_ret
  exact ⟨rfl, Hr.out, hbl.trans hbl2⟩

set_option maxRecDepth 100000 in
set_option maxHeartbeats 1000000 in
theorem int_254_ok (R : Nat) (x0 x1 x2 x3 x4 x5 x6 x7 : UInt8) (t : List UInt8) (ok : Bool) (w : World) (h : Rdr R w (254 :: x0 :: x1 :: x2 :: x3 :: x4 :: x5 :: x6 :: x7 :: t) ok) (hm : t.length < 9000000000000) :
    Calls Try.prog 18 #[.pointer (some ⟨R, 0, none⟩)] w fun e w' => e = .returned (.int .u64 (leNat [x0, x1, x2, x3, x4, x5, x6, x7])) ∧ Rdr R w' t ok ∧ Below R w w' := by
  have hb : Calls Try.prog 21 #[.pointer (some ⟨R, 0, none⟩)] w fun e w' => e = .returned (.int .u8 254) ∧ Rdr R w' (x0 :: x1 :: x2 :: x3 :: x4 :: x5 :: x6 :: x7 :: t) ok ∧ Below R w w' := uint8_ok R 254 _ ok w h (by simp; omega)
  clear h
  go_enter Try.func18, Try.ntmps18
  go_wp2_with fail
  refine hb.mono ?_
  rintro e w1 ⟨rfl, hr, hbl⟩
  have hb2 := bytes_ok R (x0 :: x1 :: x2 :: x3 :: x4 :: x5 :: x6 :: x7 :: t) ok 8 w1 hr (by simp) (by simp; omega)
  clear hb hr
  go_wp2_with fail
  refine hb2.mono ?_
  rintro e w2 ⟨a1, c1', rfl, hv, hr, hbl2⟩
  obtain ⟨g, o, rfl, hg, hc⟩ := hv.some (by omega)
  have c0 : w2.cell? ⟨g, o, none⟩ = some (.int .u8 x0.toNat) := hc 0 (by omega)
  have c1 : w2.cell? ⟨g, o + 1, none⟩ = some (.int .u8 x1.toNat) := hc 1 (by omega)
  have c2 : w2.cell? ⟨g, o + 2, none⟩ = some (.int .u8 x2.toNat) := hc 2 (by omega)
  have c3 : w2.cell? ⟨g, o + 3, none⟩ = some (.int .u8 x3.toNat) := hc 3 (by omega)
  have c4 : w2.cell? ⟨g, o + 4, none⟩ = some (.int .u8 x4.toNat) := hc 4 (by omega)
  have c5 : w2.cell? ⟨g, o + 5, none⟩ = some (.int .u8 x5.toNat) := hc 5 (by omega)
  have c6 : w2.cell? ⟨g, o + 6, none⟩ = some (.int .u8 x6.toNat) := hc 6 (by omega)
  have c7 : w2.cell? ⟨g, o + 7, none⟩ = some (.int .u8 x7.toNat) := hc 7 (by omega)
  have Hr : Hid (Rdr R w2 t ok) := hr
  clear hc hv hb2 hr
  have hu := u64 g o 8 c1' x0 x1 x2 x3 x4 x5 x6 x7 w2 (by omega) c0 c1 c2 c3 c4 c5 c6 c7
  clear c0 c1 c2 c3 c4 c5 c6 c7
  go_wp2_with fail
  refine hu.mono ?_
  rintro e w3 ⟨rfl, hbl3⟩
  clear hu
  go_wp2
  go_ret
  exact ⟨rfl, Hr.out.later hbl3, (hbl.trans hbl2).trans (hbl3.mono (Nat.le_of_lt Hr.out.lt))⟩
end Go.Proofs.Qxb6605732a
