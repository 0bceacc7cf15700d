import Derived.Test.Qxb6605732aMod
namespace Go.Proofs.Qxb6605732a
open Go.RowKit
open Go.Sort (grow)
open Go.Lib
set_option linter.unusedVariables false
set_option linter.unusedSimpArgs false

/-- one step of the model's count -/
theorem count_step (l : List UInt8) (k : Nat) (h1 : 0 < k) (hk : k ≤ l.length) : leNat (l.drop (k - 1)) = (l.getD (k - 1) 0).toNat + 256 * leNat (l.drop k) := by
  obtain ⟨j, rfl⟩ : ∃ j, k = j + 1 := ⟨k - 1, by omega⟩
  rw [Nat.add_sub_cancel, List.drop_eq_getElem_cons (by omega : j < l.length)]
  simp [leNat, List.getD, List.getElem?_eq_getElem (by omega : j < l.length)]
theorem or_join (N x : Nat) (hN : N < 72057594037927936) (hx : x < 256) : bits .or .u64 ((N : Int) * 256) (x : Int) = (x : Int) + (N : Int) * 256 := by
  have h := u64_or8 (x : Int) ((N : Int) * 256) (by omega) (by omega) (by omega) (by omega) (by omega)
  rw [← h]
  simp only [bits, BitVec.or_comm]

set_option maxRecDepth 100000 in
set_option maxHeartbeats 1000000 in
theorem mod_small_no (R : Nat) (a : Option Addr) (n c : Nat) (ok : Bool) (w : World) (b : UInt8) (t : List UInt8) (h : View R w a n c (b :: t)) (hm : t.length < 9000000000000) (hs : b.toNat < 251) (hx : t.length < b.toNat) :
    Calls Try.prog 7 #[.slice a n c, .bool ok] w fun e w' => Out R w' ([], [], false) e ∧ ∃ t, w' = w.drewN t := by
  obtain rfl := h.1
  obtain ⟨g, o, rfl, _, hc⟩ := h.some (by simp)
  have c0 : w.cell? ⟨g, o, none⟩ = some (.int .u8 b.toNat) := hc 0 (by simp)
  have t1 : ∀ wx, (Instr.slice 22 (.slice (some ⟨g, o, none⟩) (t.length + 1) c) (some (.int .i64 1)) none none).run Try.prog wx = .ok (.slice (cutA (some ⟨g, o, none⟩) c 1) t.length (c - 1)) wx := fun wx => cut_from (some ⟨g, o, none⟩) (t.length + 1) c 1 (by omega) wx
  have n0 : ((b.toNat : Int) == 252) = false := by rw [beq_eq_false_iff_ne]; omega
  have n1 : ((b.toNat : Int) == 253) = false := by rw [beq_eq_false_iff_ne]; omega
  have n2 : ((b.toNat : Int) == 254) = false := by rw [beq_eq_false_iff_ne]; omega
  have n3 : ((b.toNat : Int) == 251) = false := by rw [beq_eq_false_iff_ne]; omega
  have n4 : ((b.toNat : Int) == 255) = false := by rw [beq_eq_false_iff_ne]; omega
  clear hc h
  simp only [List.length_cons]
  generalize cutA (some ⟨g, o, none⟩) c 1 = a2 at *
  generalize b.toNat = x at *
  go_enter Try.func7, Try.ntmps7
  go_wp2
  go_ret3
  exact ⟨Out.none _ _, 0, rfl⟩

set_option maxRecDepth 100000 in
set_option maxHeartbeats 1000000 in
theorem mod_small_ok (R : Nat) (a : Option Addr) (n c : Nat) (ok : Bool) (w : World) (b : UInt8) (t : List UInt8) (h : View R w a n c (b :: t)) (hm : t.length < 9000000000000) (hs : b.toNat < 251) (hx : b.toNat ≤ t.length) :
    Calls Try.prog 7 #[.slice a n c, .bool ok] w fun e w' => Out R w' (t.take b.toNat, t.drop b.toNat, ok) e ∧ ∃ t, w' = w.drewN t := by
  obtain rfl := h.1
  obtain ⟨g, o, rfl, _, hc⟩ := h.some (by simp)
  have c0 : w.cell? ⟨g, o, none⟩ = some (.int .u8 b.toNat) := hc 0 (by simp)
  have t1 : ∀ wx, (Instr.slice 22 (.slice (some ⟨g, o, none⟩) (t.length + 1) c) (some (.int .i64 1)) none none).run Try.prog wx = .ok (.slice (cutA (some ⟨g, o, none⟩) c 1) t.length (c - 1)) wx := fun wx => cut_from (some ⟨g, o, none⟩) (t.length + 1) c 1 (by omega) wx
  have n0 : ((b.toNat : Int) == 252) = false := by rw [beq_eq_false_iff_ne]; omega
  have n1 : ((b.toNat : Int) == 253) = false := by rw [beq_eq_false_iff_ne]; omega
  have n2 : ((b.toNat : Int) == 254) = false := by rw [beq_eq_false_iff_ne]; omega
  have n3 : ((b.toNat : Int) == 251) = false := by rw [beq_eq_false_iff_ne]; omega
  have n4 : ((b.toNat : Int) == 255) = false := by rw [beq_eq_false_iff_ne]; omega
  have V : View R w (cutA (some ⟨g, o, none⟩) c 1) t.length (c - 1) t := h.drop (k := 1) (by simp)
  clear hc h
  simp only [List.length_cons]
  generalize cutA (some ⟨g, o, none⟩) c 1 = a2 at *
  generalize b.toNat = x at *
  have hcc := V.2.1
  have t2 := fun wx => cut_to a2 t.length (c - 1) x (by omega) wx
  have t3 := fun wx => cut_from a2 t.length (c - 1) x hx wx
  have V1 : Hid (View R w (cutA a2 (c - 1) 0) x (c - 1) (t.take x)) := V.take hx
  have V2 : Hid (View R w (cutA a2 (c - 1) x) (t.length - x) (c - 1 - x) (t.drop x)) := V.drop hx
  clear V
  generalize cutA a2 (c - 1) 0 = a3 at *
  generalize cutA a2 (c - 1) x = a4 at *
  go_enter Try.func7, Try.ntmps7
  go_wp2
  go_quiet (fail)
  go_wp2
  go_ret3
  exact ⟨⟨_, _, _, _, _, _, rfl, V1.out.drewN _, V2.out.drewN _⟩, _, rfl⟩

set_option maxRecDepth 100000 in
set_option maxHeartbeats 1000000 in
theorem mod_252_short (R : Nat) (a : Option Addr) (n c : Nat) (ok : Bool) (w : World) (t : List UInt8) (h : View R w a n c (252 :: t)) (hm : t.length < 2) :
    Calls Try.prog 7 #[.slice a n c, .bool ok] w fun e w' => Out R w' ([], [], false) e ∧ ∃ t, w' = w.drewN t := by
  obtain rfl := h.1
  obtain ⟨g, o, rfl, _, hc⟩ := h.some (by simp)
  have c0 : w.cell? ⟨g, o, none⟩ = some (.int .u8 252) := hc 0 (by simp)
  clear hc h
  simp only [List.length_cons]
  go_enter Try.func7, Try.ntmps7
  go_wp2
  go_ret3
  exact ⟨Out.none _ _, 0, rfl⟩

set_option maxRecDepth 100000 in
set_option maxHeartbeats 1000000 in
theorem mod_252_no (R : Nat) (a : Option Addr) (n c : Nat) (ok : Bool) (w : World) (t : List UInt8) (h : View R w a n c (252 :: t)) (hm : t.length < 9000000000000) (hw : 2 ≤ t.length) (hx : t.length - 2 < leNat (t.take 2)) :
    Calls Try.prog 7 #[.slice a n c, .bool ok] w fun e w' => Out R w' ([], [], false) e ∧ ∃ t, w' = w.drewN t := by
  obtain rfl := h.1
  obtain ⟨g, o, rfl, _, hc⟩ := h.some (by simp)
  have c0 : w.cell? ⟨g, o, none⟩ = some (.int .u8 252) := hc 0 (by simp)
  have Hc : Hid (∀ i, i < t.length + 1 → w.cell? ⟨g, o + i, none⟩ = some (.int .u8 ((252 :: t).getD i 0).toNat)) := hc
  have t1 : ∀ wx, (Instr.slice 22 (.slice (some ⟨g, o, none⟩) (t.length + 1) c) (some (.int .i64 3)) none none).run Try.prog wx = .ok (.slice (cutA (some ⟨g, o, none⟩) c 3) (t.length + 1 - 3) (c - 3)) wx := fun wx => cut_from (some ⟨g, o, none⟩) (t.length + 1) c 3 (by omega) wx
  clear hc h
  simp only [List.length_cons]
  rw [show t.length + 1 - 3 = t.length - 2 from by omega] at t1
  generalize cutA (some ⟨g, o, none⟩) c 3 = a2 at *
  have hlt64 : leNat (t.take 2) < 18446744073709551616 := by
    have := leNat_lt (t.take 2)
    have h3 : (t.take 2).length ≤ 8 := by rw [List.length_take]; omega
    have h4 : 256 ^ (t.take 2).length ≤ 256 ^ 8 := Nat.pow_le_pow_right (by omega) h3
    omega
  go_enter Try.func7, Try.ntmps7
  go_wp2
  go_loopw [9, 10] (fun n i wr => ∃ (k : Nat), k ≤ 2 ∧ i = .int .i64 k ∧ n = .int .u64 (leNat ((t.take 2).drop k)) ∧ wr = w) (fun _ i _ => (intOf i).toNat)
  case atStart => exact ⟨2, by omega, rfl, by rw [List.drop_eq_nil_of_le (by rw [List.length_take]; omega)]; rfl, rfl⟩
  case round =>
    obtain ⟨k, hk, rfl, rfl, rfl⟩ := hrel
    by_cases hlt : 1 ≤ k
    · have c1 : wr.cell? ⟨g, o + k, none⟩ = some (.int .u8 ((t.take 2).getD (k - 1) 0).toNat) := by
        have := Hc.out k (by omega)
        rw [this]
        obtain ⟨j, rfl⟩ : ∃ j, k = j + 1 := ⟨k - 1, by omega⟩
        have hj : j < 2 := by omega
        simp [List.getD, List.getElem?_take, hj]
      have e1 := count_step (t.take 2) k (by omega) (by rw [List.length_take]; omega)
      have e2 := leNat_lt ((t.take 2).drop k)
      have e3 : ((t.take 2).drop k).length ≤ 7 := by rw [List.length_drop, List.length_take]; omega
      have e4 : 256 ^ ((t.take 2).drop k).length ≤ 256 ^ 7 := Nat.pow_le_pow_right (by omega) e3
      have e5 := ((t.take 2).getD (k - 1) 0).toNat_lt
      have hN : leNat ((t.take 2).drop k) < 72057594037927936 := by omega
      have hj := or_join (leNat ((t.take 2).drop k)) ((t.take 2).getD (k - 1) 0).toNat hN (by omega)
      have E1 : Hid (bits .or .u64 ((leNat ((t.take 2).drop k) : Int) * 256) (((t.take 2).getD (k - 1) 0).toNat : Int) = ((leNat ((t.take 2).drop (k - 1)) : Nat) : Int)) := by
        show _ = _
        rw [hj, e1]; push_cast; omega
      clear e1 e2 e3 e4 hj
      generalize leNat ((t.take 2).drop k) = N at *
      generalize ((t.take 2).getD (k - 1) 0).toNat = x at *
      have i0 : (0 : Int) ≤ (k : Int) := by omega
      have i2 : (k : Int) < (t.length : Int) + 1 := by omega
      have i3 : (k : Int) - 1 = ((k - 1 : Nat) : Int) := by omega
      go_wp2
      go_roundw
      case rel => exact ⟨k - 1, by omega, by first | go_num | (rw [i3]), by rw [E1.out], by first | trivial | rfl⟩
      case measure => simp [intOf]; omega
    · obtain rfl : k = 0 := by omega
      simp only [List.drop_zero] at *
      generalize hgx : leNat (t.take 2) = x at *
      have hx2 : ((t.length - 2 : Nat) : Int) < (x : Int) := by omega
      go_wp2
      go_ret3
      exact ⟨Out.none _ _, 0, rfl⟩

set_option maxRecDepth 100000 in
set_option maxHeartbeats 1000000 in
theorem mod_252_ok (R : Nat) (a : Option Addr) (n c : Nat) (ok : Bool) (w : World) (t : List UInt8) (h : View R w a n c (252 :: t)) (hm : t.length < 9000000000000) (hw : 2 ≤ t.length) (hx : leNat (t.take 2) ≤ t.length - 2) :
    Calls Try.prog 7 #[.slice a n c, .bool ok] w fun e w' => Out R w' ((t.drop 2).take (leNat (t.take 2)), (t.drop 2).drop (leNat (t.take 2)), ok) e ∧ ∃ t, w' = w.drewN t := by
  obtain rfl := h.1
  obtain ⟨g, o, rfl, _, hc⟩ := h.some (by simp)
  have c0 : w.cell? ⟨g, o, none⟩ = some (.int .u8 252) := hc 0 (by simp)
  have Hc : Hid (∀ i, i < t.length + 1 → w.cell? ⟨g, o + i, none⟩ = some (.int .u8 ((252 :: t).getD i 0).toNat)) := hc
  have t1 : ∀ wx, (Instr.slice 22 (.slice (some ⟨g, o, none⟩) (t.length + 1) c) (some (.int .i64 3)) none none).run Try.prog wx = .ok (.slice (cutA (some ⟨g, o, none⟩) c 3) (t.length + 1 - 3) (c - 3)) wx := fun wx => cut_from (some ⟨g, o, none⟩) (t.length + 1) c 3 (by omega) wx
  have V : View R w (cutA (some ⟨g, o, none⟩) c 3) (t.length + 1 - 3) (c - 3) (t.drop 2) := h.drop (k := 3) (by simp; omega)
  clear hc h
  simp only [List.length_cons]
  rw [show t.length + 1 - 3 = t.length - 2 from by omega] at t1 V
  generalize cutA (some ⟨g, o, none⟩) c 3 = a2 at *
  have hcc := V.2.1
  have t2 := fun wx => cut_to a2 (t.length - 2) (c - 3) (leNat (t.take 2)) (by omega) wx
  have t3 := fun wx => cut_from a2 (t.length - 2) (c - 3) (leNat (t.take 2)) hx wx
  have V1 : Hid (View R w (cutA a2 (c - 3) 0) (leNat (t.take 2)) (c - 3) ((t.drop 2).take (leNat (t.take 2)))) := V.take hx
  have V2 : Hid (View R w (cutA a2 (c - 3) (leNat (t.take 2))) (t.length - 2 - leNat (t.take 2)) (c - 3 - leNat (t.take 2)) ((t.drop 2).drop (leNat (t.take 2)))) := V.drop hx
  clear V
  generalize cutA a2 (c - 3) 0 = a3 at *
  generalize cutA a2 (c - 3) (leNat (t.take 2)) = a4 at *
  go_enter Try.func7, Try.ntmps7
  go_wp2
  go_loopw [9, 10] (fun n i wr => ∃ (k : Nat), k ≤ 2 ∧ i = .int .i64 k ∧ n = .int .u64 (leNat ((t.take 2).drop k)) ∧ wr = w) (fun _ i _ => (intOf i).toNat)
  case atStart => exact ⟨2, by omega, rfl, by rw [List.drop_eq_nil_of_le (by rw [List.length_take]; omega)]; rfl, rfl⟩
  case round =>
    obtain ⟨k, hk, rfl, rfl, rfl⟩ := hrel
    by_cases hlt : 1 ≤ k
    · have c1 : wr.cell? ⟨g, o + k, none⟩ = some (.int .u8 ((t.take 2).getD (k - 1) 0).toNat) := by
        have := Hc.out k (by omega)
        rw [this]
        obtain ⟨j, rfl⟩ : ∃ j, k = j + 1 := ⟨k - 1, by omega⟩
        have hj : j < 2 := by omega
        simp [List.getD, List.getElem?_take, hj]
      have e1 := count_step (t.take 2) k (by omega) (by rw [List.length_take]; omega)
      have e2 := leNat_lt ((t.take 2).drop k)
      have e3 : ((t.take 2).drop k).length ≤ 7 := by rw [List.length_drop, List.length_take]; omega
      have e4 : 256 ^ ((t.take 2).drop k).length ≤ 256 ^ 7 := Nat.pow_le_pow_right (by omega) e3
      have e5 := ((t.take 2).getD (k - 1) 0).toNat_lt
      have hN : leNat ((t.take 2).drop k) < 72057594037927936 := by omega
      have hj := or_join (leNat ((t.take 2).drop k)) ((t.take 2).getD (k - 1) 0).toNat hN (by omega)
      have E1 : Hid (bits .or .u64 ((leNat ((t.take 2).drop k) : Int) * 256) (((t.take 2).getD (k - 1) 0).toNat : Int) = ((leNat ((t.take 2).drop (k - 1)) : Nat) : Int)) := by
        show _ = _
        rw [hj, e1]; push_cast; omega
      clear e1 e2 e3 e4 hj
      generalize leNat ((t.take 2).drop k) = N at *
      generalize ((t.take 2).getD (k - 1) 0).toNat = x at *
      have i0 : (0 : Int) ≤ (k : Int) := by omega
      have i2 : (k : Int) < (t.length : Int) + 1 := by omega
      have i3 : (k : Int) - 1 = ((k - 1 : Nat) : Int) := by omega
      go_wp2
      go_roundw
      case rel => exact ⟨k - 1, by omega, by first | go_num | (rw [i3]), by rw [E1.out], by first | trivial | rfl⟩
      case measure => simp [intOf]; omega
    · obtain rfl : k = 0 := by omega
      simp only [List.drop_zero] at *
      generalize hgx : leNat (t.take 2) = x at *
      have hx2 : ¬ ((t.length - 2 : Nat) : Int) < (x : Int) := by omega
      go_wp2
      go_quiet (fail)
      go_wp2
      go_ret3
      subst hgx
      exact ⟨⟨_, _, _, _, _, _, rfl, V1.out.drewN _, V2.out.drewN _⟩, _, rfl⟩

set_option maxRecDepth 100000 in
set_option maxHeartbeats 1000000 in
theorem mod_253_short (R : Nat) (a : Option Addr) (n c : Nat) (ok : Bool) (w : World) (t : List UInt8) (h : View R w a n c (253 :: t)) (hm : t.length < 3) :
    Calls Try.prog 7 #[.slice a n c, .bool ok] w fun e w' => Out R w' ([], [], false) e ∧ ∃ t, w' = w.drewN t := by
  obtain rfl := h.1
  obtain ⟨g, o, rfl, _, hc⟩ := h.some (by simp)
  have c0 : w.cell? ⟨g, o, none⟩ = some (.int .u8 253) := hc 0 (by simp)
  clear hc h
  simp only [List.length_cons]
  go_enter Try.func7, Try.ntmps7
  go_wp2
  go_ret3
  exact ⟨Out.none _ _, 0, rfl⟩

set_option maxRecDepth 100000 in
set_option maxHeartbeats 1000000 in
theorem mod_253_no (R : Nat) (a : Option Addr) (n c : Nat) (ok : Bool) (w : World) (t : List UInt8) (h : View R w a n c (253 :: t)) (hm : t.length < 9000000000000) (hw : 3 ≤ t.length) (hx : t.length - 3 < leNat (t.take 3)) :
    Calls Try.prog 7 #[.slice a n c, .bool ok] w fun e w' => Out R w' ([], [], false) e ∧ ∃ t, w' = w.drewN t := by
  obtain rfl := h.1
  obtain ⟨g, o, rfl, _, hc⟩ := h.some (by simp)
  have c0 : w.cell? ⟨g, o, none⟩ = some (.int .u8 253) := hc 0 (by simp)
  have Hc : Hid (∀ i, i < t.length + 1 → w.cell? ⟨g, o + i, none⟩ = some (.int .u8 ((253 :: t).getD i 0).toNat)) := hc
  have t1 : ∀ wx, (Instr.slice 22 (.slice (some ⟨g, o, none⟩) (t.length + 1) c) (some (.int .i64 4)) none none).run Try.prog wx = .ok (.slice (cutA (some ⟨g, o, none⟩) c 4) (t.length + 1 - 4) (c - 4)) wx := fun wx => cut_from (some ⟨g, o, none⟩) (t.length + 1) c 4 (by omega) wx
  clear hc h
  simp only [List.length_cons]
  rw [show t.length + 1 - 4 = t.length - 3 from by omega] at t1
  generalize cutA (some ⟨g, o, none⟩) c 4 = a2 at *
  have hlt64 : leNat (t.take 3) < 18446744073709551616 := by
    have := leNat_lt (t.take 3)
    have h3 : (t.take 3).length ≤ 8 := by rw [List.length_take]; omega
    have h4 : 256 ^ (t.take 3).length ≤ 256 ^ 8 := Nat.pow_le_pow_right (by omega) h3
    omega
  go_enter Try.func7, Try.ntmps7
  go_wp2
  go_loopw [9, 10] (fun n i wr => ∃ (k : Nat), k ≤ 3 ∧ i = .int .i64 k ∧ n = .int .u64 (leNat ((t.take 3).drop k)) ∧ wr = w) (fun _ i _ => (intOf i).toNat)
  case atStart => exact ⟨3, by omega, rfl, by rw [List.drop_eq_nil_of_le (by rw [List.length_take]; omega)]; rfl, rfl⟩
  case round =>
    obtain ⟨k, hk, rfl, rfl, rfl⟩ := hrel
    by_cases hlt : 1 ≤ k
    · have c1 : wr.cell? ⟨g, o + k, none⟩ = some (.int .u8 ((t.take 3).getD (k - 1) 0).toNat) := by
        have := Hc.out k (by omega)
        rw [this]
        obtain ⟨j, rfl⟩ : ∃ j, k = j + 1 := ⟨k - 1, by omega⟩
        have hj : j < 3 := by omega
        simp [List.getD, List.getElem?_take, hj]
      have e1 := count_step (t.take 3) k (by omega) (by rw [List.length_take]; omega)
      have e2 := leNat_lt ((t.take 3).drop k)
      have e3 : ((t.take 3).drop k).length ≤ 7 := by rw [List.length_drop, List.length_take]; omega
      have e4 : 256 ^ ((t.take 3).drop k).length ≤ 256 ^ 7 := Nat.pow_le_pow_right (by omega) e3
      have e5 := ((t.take 3).getD (k - 1) 0).toNat_lt
      have hN : leNat ((t.take 3).drop k) < 72057594037927936 := by omega
      have hj := or_join (leNat ((t.take 3).drop k)) ((t.take 3).getD (k - 1) 0).toNat hN (by omega)
      have E1 : Hid (bits .or .u64 ((leNat ((t.take 3).drop k) : Int) * 256) (((t.take 3).getD (k - 1) 0).toNat : Int) = ((leNat ((t.take 3).drop (k - 1)) : Nat) : Int)) := by
        show _ = _
        rw [hj, e1]; push_cast; omega
      clear e1 e2 e3 e4 hj
      generalize leNat ((t.take 3).drop k) = N at *
      generalize ((t.take 3).getD (k - 1) 0).toNat = x at *
      have i0 : (0 : Int) ≤ (k : Int) := by omega
      have i2 : (k : Int) < (t.length : Int) + 1 := by omega
      have i3 : (k : Int) - 1 = ((k - 1 : Nat) : Int) := by omega
      go_wp2
      go_roundw
      case rel => exact ⟨k - 1, by omega, by first | go_num | (rw [i3]), by rw [E1.out], by first | trivial | rfl⟩
      case measure => simp [intOf]; omega
    · obtain rfl : k = 0 := by omega
      simp only [List.drop_zero] at *
      generalize hgx : leNat (t.take 3) = x at *
      have hx2 : ((t.length - 3 : Nat) : Int) < (x : Int) := by omega
      go_wp2
      go_ret3
      exact ⟨Out.none _ _, 0, rfl⟩

set_option maxRecDepth 100000 in
set_option maxHeartbeats 1000000 in
theorem mod_253_ok (R : Nat) (a : Option Addr) (n c : Nat) (ok : Bool) (w : World) (t : List UInt8) (h : View R w a n c (253 :: t)) (hm : t.length < 9000000000000) (hw : 3 ≤ t.length) (hx : leNat (t.take 3) ≤ t.length - 3) :
    Calls Try.prog 7 #[.slice a n c, .bool ok] w fun e w' => Out R w' ((t.drop 3).take (leNat (t.take 3)), (t.drop 3).drop (leNat (t.take 3)), ok) e ∧ ∃ t, w' = w.drewN t := by
  obtain rfl := h.1
  obtain ⟨g, o, rfl, _, hc⟩ := h.some (by simp)
  have c0 : w.cell? ⟨g, o, none⟩ = some (.int .u8 253) := hc 0 (by simp)
  have Hc : Hid (∀ i, i < t.length + 1 → w.cell? ⟨g, o + i, none⟩ = some (.int .u8 ((253 :: t).getD i 0).toNat)) := hc
  have t1 : ∀ wx, (Instr.slice 22 (.slice (some ⟨g, o, none⟩) (t.length + 1) c) (some (.int .i64 4)) none none).run Try.prog wx = .ok (.slice (cutA (some ⟨g, o, none⟩) c 4) (t.length + 1 - 4) (c - 4)) wx := fun wx => cut_from (some ⟨g, o, none⟩) (t.length + 1) c 4 (by omega) wx
  have V : View R w (cutA (some ⟨g, o, none⟩) c 4) (t.length + 1 - 4) (c - 4) (t.drop 3) := h.drop (k := 4) (by simp; omega)
  clear hc h
  simp only [List.length_cons]
  rw [show t.length + 1 - 4 = t.length - 3 from by omega] at t1 V
  generalize cutA (some ⟨g, o, none⟩) c 4 = a2 at *
  have hcc := V.2.1
  have t2 := fun wx => cut_to a2 (t.length - 3) (c - 4) (leNat (t.take 3)) (by omega) wx
  have t3 := fun wx => cut_from a2 (t.length - 3) (c - 4) (leNat (t.take 3)) hx wx
  have V1 : Hid (View R w (cutA a2 (c - 4) 0) (leNat (t.take 3)) (c - 4) ((t.drop 3).take (leNat (t.take 3)))) := V.take hx
  have V2 : Hid (View R w (cutA a2 (c - 4) (leNat (t.take 3))) (t.length - 3 - leNat (t.take 3)) (c - 4 - leNat (t.take 3)) ((t.drop 3).drop (leNat (t.take 3)))) := V.drop hx
  clear V
  generalize cutA a2 (c - 4) 0 = a3 at *
  generalize cutA a2 (c - 4) (leNat (t.take 3)) = a4 at *
  go_enter Try.func7, Try.ntmps7
  go_wp2
  go_loopw [9, 10] (fun n i wr => ∃ (k : Nat), k ≤ 3 ∧ i = .int .i64 k ∧ n = .int .u64 (leNat ((t.take 3).drop k)) ∧ wr = w) (fun _ i _ => (intOf i).toNat)
  case atStart => exact ⟨3, by omega, rfl, by rw [List.drop_eq_nil_of_le (by rw [List.length_take]; omega)]; rfl, rfl⟩
  case round =>
    obtain ⟨k, hk, rfl, rfl, rfl⟩ := hrel
    by_cases hlt : 1 ≤ k
    · have c1 : wr.cell? ⟨g, o + k, none⟩ = some (.int .u8 ((t.take 3).getD (k - 1) 0).toNat) := by
        have := Hc.out k (by omega)
        rw [this]
        obtain ⟨j, rfl⟩ : ∃ j, k = j + 1 := ⟨k - 1, by omega⟩
        have hj : j < 3 := by omega
        simp [List.getD, List.getElem?_take, hj]
      have e1 := count_step (t.take 3) k (by omega) (by rw [List.length_take]; omega)
      have e2 := leNat_lt ((t.take 3).drop k)
      have e3 : ((t.take 3).drop k).length ≤ 7 := by rw [List.length_drop, List.length_take]; omega
      have e4 : 256 ^ ((t.take 3).drop k).length ≤ 256 ^ 7 := Nat.pow_le_pow_right (by omega) e3
      have e5 := ((t.take 3).getD (k - 1) 0).toNat_lt
      have hN : leNat ((t.take 3).drop k) < 72057594037927936 := by omega
      have hj := or_join (leNat ((t.take 3).drop k)) ((t.take 3).getD (k - 1) 0).toNat hN (by omega)
      have E1 : Hid (bits .or .u64 ((leNat ((t.take 3).drop k) : Int) * 256) (((t.take 3).getD (k - 1) 0).toNat : Int) = ((leNat ((t.take 3).drop (k - 1)) : Nat) : Int)) := by
        show _ = _
        rw [hj, e1]; push_cast; omega
      clear e1 e2 e3 e4 hj
      generalize leNat ((t.take 3).drop k) = N at *
      generalize ((t.take 3).getD (k - 1) 0).toNat = x at *
      have i0 : (0 : Int) ≤ (k : Int) := by omega
      have i2 : (k : Int) < (t.length : Int) + 1 := by omega
      have i3 : (k : Int) - 1 = ((k - 1 : Nat) : Int) := by omega
      go_wp2
      go_roundw
      case rel => exact ⟨k - 1, by omega, by first | go_num | (rw [i3]), by rw [E1.out], by first | trivial | rfl⟩
      case measure => simp [intOf]; omega
    · obtain rfl : k = 0 := by omega
      simp only [List.drop_zero] at *
      generalize hgx : leNat (t.take 3) = x at *
      have hx2 : ¬ ((t.length - 3 : Nat) : Int) < (x : Int) := by omega
      go_wp2
      go_quiet (fail)
      go_wp2
      go_ret3
      subst hgx
      exact ⟨⟨_, _, _, _, _, _, rfl, V1.out.drewN _, V2.out.drewN _⟩, _, rfl⟩

set_option maxRecDepth 100000 in
set_option maxHeartbeats 1000000 in
theorem mod_254_short (R : Nat) (a : Option Addr) (n c : Nat) (ok : Bool) (w : World) (t : List UInt8) (h : View R w a n c (254 :: t)) (hm : t.length < 8) :
    Calls Try.prog 7 #[.slice a n c, .bool ok] w fun e w' => Out R w' ([], [], false) e ∧ ∃ t, w' = w.drewN t := by
  obtain rfl := h.1
  obtain ⟨g, o, rfl, _, hc⟩ := h.some (by simp)
  have c0 : w.cell? ⟨g, o, none⟩ = some (.int .u8 254) := hc 0 (by simp)
  clear hc h
  simp only [List.length_cons]
  go_enter Try.func7, Try.ntmps7
  go_wp2
  go_ret3
  exact ⟨Out.none _ _, 0, rfl⟩

set_option maxRecDepth 100000 in
set_option maxHeartbeats 1000000 in
theorem mod_254_no (R : Nat) (a : Option Addr) (n c : Nat) (ok : Bool) (w : World) (t : List UInt8) (h : View R w a n c (254 :: t)) (hm : t.length < 9000000000000) (hw : 8 ≤ t.length) (hx : t.length - 8 < leNat (t.take 8)) :
    Calls Try.prog 7 #[.slice a n c, .bool ok] w fun e w' => Out R w' ([], [], false) e ∧ ∃ t, w' = w.drewN t := by
  obtain rfl := h.1
  obtain ⟨g, o, rfl, _, hc⟩ := h.some (by simp)
  have c0 : w.cell? ⟨g, o, none⟩ = some (.int .u8 254) := hc 0 (by simp)
  have Hc : Hid (∀ i, i < t.length + 1 → w.cell? ⟨g, o + i, none⟩ = some (.int .u8 ((254 :: t).getD i 0).toNat)) := hc
  have t1 : ∀ wx, (Instr.slice 22 (.slice (some ⟨g, o, none⟩) (t.length + 1) c) (some (.int .i64 9)) none none).run Try.prog wx = .ok (.slice (cutA (some ⟨g, o, none⟩) c 9) (t.length + 1 - 9) (c - 9)) wx := fun wx => cut_from (some ⟨g, o, none⟩) (t.length + 1) c 9 (by omega) wx
  clear hc h
  simp only [List.length_cons]
  rw [show t.length + 1 - 9 = t.length - 8 from by omega] at t1
  generalize cutA (some ⟨g, o, none⟩) c 9 = a2 at *
  have hlt64 : leNat (t.take 8) < 18446744073709551616 := by
    have := leNat_lt (t.take 8)
    have h3 : (t.take 8).length ≤ 8 := by rw [List.length_take]; omega
    have h4 : 256 ^ (t.take 8).length ≤ 256 ^ 8 := Nat.pow_le_pow_right (by omega) h3
    omega
  go_enter Try.func7, Try.ntmps7
  go_wp2
  go_loopw [9, 10] (fun n i wr => ∃ (k : Nat), k ≤ 8 ∧ i = .int .i64 k ∧ n = .int .u64 (leNat ((t.take 8).drop k)) ∧ wr = w) (fun _ i _ => (intOf i).toNat)
  case atStart => exact ⟨8, by omega, rfl, by rw [List.drop_eq_nil_of_le (by rw [List.length_take]; omega)]; rfl, rfl⟩
  case round =>
    obtain ⟨k, hk, rfl, rfl, rfl⟩ := hrel
    by_cases hlt : 1 ≤ k
    · have c1 : wr.cell? ⟨g, o + k, none⟩ = some (.int .u8 ((t.take 8).getD (k - 1) 0).toNat) := by
        have := Hc.out k (by omega)
        rw [this]
        obtain ⟨j, rfl⟩ : ∃ j, k = j + 1 := ⟨k - 1, by omega⟩
        have hj : j < 8 := by omega
        simp [List.getD, List.getElem?_take, hj]
      have e1 := count_step (t.take 8) k (by omega) (by rw [List.length_take]; omega)
      have e2 := leNat_lt ((t.take 8).drop k)
      have e3 : ((t.take 8).drop k).length ≤ 7 := by rw [List.length_drop, List.length_take]; omega
      have e4 : 256 ^ ((t.take 8).drop k).length ≤ 256 ^ 7 := Nat.pow_le_pow_right (by omega) e3
      have e5 := ((t.take 8).getD (k - 1) 0).toNat_lt
      have hN : leNat ((t.take 8).drop k) < 72057594037927936 := by omega
      have hj := or_join (leNat ((t.take 8).drop k)) ((t.take 8).getD (k - 1) 0).toNat hN (by omega)
      have E1 : Hid (bits .or .u64 ((leNat ((t.take 8).drop k) : Int) * 256) (((t.take 8).getD (k - 1) 0).toNat : Int) = ((leNat ((t.take 8).drop (k - 1)) : Nat) : Int)) := by
        show _ = _
        rw [hj, e1]; push_cast; omega
      clear e1 e2 e3 e4 hj
      generalize leNat ((t.take 8).drop k) = N at *
      generalize ((t.take 8).getD (k - 1) 0).toNat = x at *
      have i0 : (0 : Int) ≤ (k : Int) := by omega
      have i2 : (k : Int) < (t.length : Int) + 1 := by omega
      have i3 : (k : Int) - 1 = ((k - 1 : Nat) : Int) := by omega
      go_wp2
      go_roundw
      case rel => exact ⟨k - 1, by omega, by first | go_num | (rw [i3]), by rw [E1.out], by first | trivial | rfl⟩
      case measure => simp [intOf]; omega
    · obtain rfl : k = 0 := by omega
      simp only [List.drop_zero] at *
      generalize hgx : leNat (t.take 8) = x at *
      have hx2 : ((t.length - 8 : Nat) : Int) < (x : Int) := by omega
      go_wp2
      go_ret3
      exact ⟨Out.none _ _, 0, rfl⟩

set_option maxRecDepth 100000 in
set_option maxHeartbeats 1000000 in
theorem mod_254_ok (R : Nat) (a : Option Addr) (n c : Nat) (ok : Bool) (w : World) (t : List UInt8) (h : View R w a n c (254 :: t)) (hm : t.length < 9000000000000) (hw : 8 ≤ t.length) (hx : leNat (t.take 8) ≤ t.length - 8) :
    Calls Try.prog 7 #[.slice a n c, .bool ok] w fun e w' => Out R w' ((t.drop 8).take (leNat (t.take 8)), (t.drop 8).drop (leNat (t.take 8)), ok) e ∧ ∃ t, w' = w.drewN t := by
  obtain rfl := h.1
  obtain ⟨g, o, rfl, _, hc⟩ := h.some (by simp)
  have c0 : w.cell? ⟨g, o, none⟩ = some (.int .u8 254) := hc 0 (by simp)
  have Hc : Hid (∀ i, i < t.length + 1 → w.cell? ⟨g, o + i, none⟩ = some (.int .u8 ((254 :: t).getD i 0).toNat)) := hc
  have t1 : ∀ wx, (Instr.slice 22 (.slice (some ⟨g, o, none⟩) (t.length + 1) c) (some (.int .i64 9)) none none).run Try.prog wx = .ok (.slice (cutA (some ⟨g, o, none⟩) c 9) (t.length + 1 - 9) (c - 9)) wx := fun wx => cut_from (some ⟨g, o, none⟩) (t.length + 1) c 9 (by omega) wx
  have V : View R w (cutA (some ⟨g, o, none⟩) c 9) (t.length + 1 - 9) (c - 9) (t.drop 8) := h.drop (k := 9) (by simp; omega)
  clear hc h
  simp only [List.length_cons]
  rw [show t.length + 1 - 9 = t.length - 8 from by omega] at t1 V
  generalize cutA (some ⟨g, o, none⟩) c 9 = a2 at *
  have hcc := V.2.1
  have t2 := fun wx => cut_to a2 (t.length - 8) (c - 9) (leNat (t.take 8)) (by omega) wx
  have t3 := fun wx => cut_from a2 (t.length - 8) (c - 9) (leNat (t.take 8)) hx wx
  have V1 : Hid (View R w (cutA a2 (c - 9) 0) (leNat (t.take 8)) (c - 9) ((t.drop 8).take (leNat (t.take 8)))) := V.take hx
  have V2 : Hid (View R w (cutA a2 (c - 9) (leNat (t.take 8))) (t.length - 8 - leNat (t.take 8)) (c - 9 - leNat (t.take 8)) ((t.drop 8).drop (leNat (t.take 8)))) := V.drop hx
  clear V
  generalize cutA a2 (c - 9) 0 = a3 at *
  generalize cutA a2 (c - 9) (leNat (t.take 8)) = a4 at *
  go_enter Try.func7, Try.ntmps7
  go_wp2
  go_loopw [9, 10] (fun n i wr => ∃ (k : Nat), k ≤ 8 ∧ i = .int .i64 k ∧ n = .int .u64 (leNat ((t.take 8).drop k)) ∧ wr = w) (fun _ i _ => (intOf i).toNat)
  case atStart => exact ⟨8, by omega, rfl, by rw [List.drop_eq_nil_of_le (by rw [List.length_take]; omega)]; rfl, rfl⟩
  case round =>
    obtain ⟨k, hk, rfl, rfl, rfl⟩ := hrel
    by_cases hlt : 1 ≤ k
    · have c1 : wr.cell? ⟨g, o + k, none⟩ = some (.int .u8 ((t.take 8).getD (k - 1) 0).toNat) := by
        have := Hc.out k (by omega)
        rw [this]
        obtain ⟨j, rfl⟩ : ∃ j, k = j + 1 := ⟨k - 1, by omega⟩
        have hj : j < 8 := by omega
        simp [List.getD, List.getElem?_take, hj]
      have e1 := count_step (t.take 8) k (by omega) (by rw [List.length_take]; omega)
      have e2 := leNat_lt ((t.take 8).drop k)
      have e3 : ((t.take 8).drop k).length ≤ 7 := by rw [List.length_drop, List.length_take]; omega
      have e4 : 256 ^ ((t.take 8).drop k).length ≤ 256 ^ 7 := Nat.pow_le_pow_right (by omega) e3
      have e5 := ((t.take 8).getD (k - 1) 0).toNat_lt
      have hN : leNat ((t.take 8).drop k) < 72057594037927936 := by omega
      have hj := or_join (leNat ((t.take 8).drop k)) ((t.take 8).getD (k - 1) 0).toNat hN (by omega)
      have E1 : Hid (bits .or .u64 ((leNat ((t.take 8).drop k) : Int) * 256) (((t.take 8).getD (k - 1) 0).toNat : Int) = ((leNat ((t.take 8).drop (k - 1)) : Nat) : Int)) := by
        show _ = _
        rw [hj, e1]; push_cast; omega
      clear e1 e2 e3 e4 hj
      generalize leNat ((t.take 8).drop k) = N at *
      generalize ((t.take 8).getD (k - 1) 0).toNat = x at *
      have i0 : (0 : Int) ≤ (k : Int) := by omega
      have i2 : (k : Int) < (t.length : Int) + 1 := by omega
      have i3 : (k : Int) - 1 = ((k - 1 : Nat) : Int) := by omega
      go_wp2
      go_roundw
      case rel => exact ⟨k - 1, by omega, by first | go_num | (rw [i3]), by rw [E1.out], by first | trivial | rfl⟩
      case measure => simp [intOf]; omega
    · obtain rfl : k = 0 := by omega
      simp only [List.drop_zero] at *
      generalize hgx : leNat (t.take 8) = x at *
      have hx2 : ¬ ((t.length - 8 : Nat) : Int) < (x : Int) := by omega
      go_wp2
      go_quiet (fail)
      go_wp2
      go_ret3
      subst hgx
      exact ⟨⟨_, _, _, _, _, _, rfl, V1.out.drewN _, V2.out.drewN _⟩, _, rfl⟩
end Go.Proofs.Qxb6605732a
