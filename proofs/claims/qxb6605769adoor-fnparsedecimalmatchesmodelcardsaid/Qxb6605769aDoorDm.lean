import Derived.Test.Qxb6605769aDoorLaw
import Derived.Test.Qxb6605769aDoorPd
namespace Go.Proofs.Qxb6605769aDoor
open Go.RowKit
set_option linter.unusedVariables false
set_option linter.unusedSimpArgs false

theorem results_tmp4 {fn : Func} {t u v x : Tmp} (h : fn.results = #[.tmp t, .tmp u, .tmp v, .tmp x]) (tmps : Array Value) (P : Program) (w : World) :
    (results fn tmps).run P w = .ok (.tuple #[tmps.getD t undef, tmps.getD u undef, tmps.getD v undef, tmps.getD x undef]) w := by
  simp [results, h]

theorem list_at (s : ByteArray) (i k : Nat) (hk : k < s.size) (hi : i ≤ k) : (s.data.toList.drop i)[k - i]? = some (s[k]'hk) := by
  rw [List.getElem?_drop, show i + (k - i) = k from by omega]
  exact byte_at s k hk
theorem val_next (s : ByteArray) (i k : Nat) (hk : k < s.size) (hi : i ≤ k) :
    val 0 ((s.data.toList.drop i).take (k + 1 - i)) = val 0 ((s.data.toList.drop i).take (k - i)) * 10 + ((s[k]'hk).toNat - 48) := by
  have h := list_at s i k hk hi
  have hl : k - i < (s.data.toList.drop i).length := (List.getElem?_eq_some_iff.1 h).1
  rw [show k + 1 - i = k - i + 1 from by omega, List.take_succ_eq_append_getElem hl, val_append, val_cons, val_nil]
  rw [List.getElem?_eq_getElem hl] at h
  rw [Option.some.inj h]
theorem body_no (s : ByteArray) (i k : Nat) (hk : k < s.size) (hi : i ≤ k) (h : isDig (s[k]'hk) = false) : plainB (s.data.toList.drop i) = false := by
  unfold plainB
  have : (s.data.toList.drop i).all isDig = false := by
    rw [List.all_eq_false]
    exact ⟨s[k]'hk, List.mem_of_getElem? (list_at s i k hk hi), by rw [h]; simp⟩
  rw [this, Bool.and_false]
theorem body_yes (s : ByteArray) (i : Nat) (hi : i < s.size) (h : ∀ q (hq : q < s.size), i ≤ q → isDig (s[q]'hq) = true) : plainB (s.data.toList.drop i) = true := by
  have hl : s.data.toList.length = s.size := by rw [Array.length_toList]; rfl
  rw [plain_iff]
  refine ⟨fun e => ?_, fun c hc => ?_⟩
  · have := congrArg List.length e
    rw [List.length_drop] at this
    simp at this
    omega
  · obtain ⟨j, hj, rfl⟩ := List.getElem_of_mem hc
    rw [List.length_drop] at hj
    have hj' : i + j < s.size := by omega
    have := byte_at s (i + j) hj'
    rw [List.getElem_drop]
    rw [List.getElem?_eq_getElem (by omega)] at this
    rw [Option.some.inj this]
    exact h (i + j) hj' (by omega)
/-- how far the count has come -/
def Cnt (M : Nat) (ov : Bool) (A : Nat) : Prop := (ov = true → 9223372036854775808 < A) ∧ (ov = false → M = A ∧ A ≤ 9223372036854775808)


theorem md_plus (s : ByteArray) (h0 : 0 < s.size) (hx : (s[0]'h0).toNat = 43) : md s.data.toList = if plainB (s.data.toList.drop 1) then fin false true (val 0 (s.data.toList.drop 1)) else (0, false, false, false) := by
  have hb := byte_at s 0 h0
  cases hl : s.data.toList with
  | nil => rw [hl] at hb; cases hb
  | cons c r =>
    rw [hl] at hb
    have hc : c = s[0]'h0 := Option.some.inj hb
    rw [← hc] at hx
    show (if c.toNat = 43 then _ else if c.toNat = 45 then _ else _) = _
    rw [if_pos hx]
    rfl

set_option maxRecDepth 100000 in
set_option maxHeartbeats 2000000 in
theorem dm_plus (s : ByteArray) (hs : s.size ≤ 1099511627776) (h0 : 0 < s.size) (hx : (s[0]'h0).toNat = 43) (w : World) :
    Calls Tryd.prog 7 #[.string s] w fun e w' => e = .returned (.tuple #[.int .i64 (md s.data.toList).1, .bool (md s.data.toList).2.1, .bool (md s.data.toList).2.2.1, .bool (md s.data.toList).2.2.2]) ∧ w' = w := by
  have hR := md_plus s h0 hx
  generalize md s.data.toList = R at *
  have HR : Hid (R = if plainB (s.data.toList.drop 1) then fin false true (val 0 (s.data.toList.drop 1)) else (0, false, false, false)) := hR
  clear hR
  have z0 : ((s.size : Int) == 0) = false := by rw [beq_eq_false_iff_ne]; omega
  have i0' : (0 : Int) < (s.size : Int) := by omega
  by_cases h1 : s.size = 1
  · have z1 : ((1 : Int) == (s.size : Int)) = true := by rw [h1]; rfl
    obtain rfl : R = (0, false, false, false) := by
      rw [HR.out]
      have : s.data.toList.drop 1 = [] := by
        apply List.drop_eq_nil_of_le
        rw [Array.length_toList]
        exact Nat.le_of_eq h1
      rw [this]; rfl
    clear HR
    go_enter Tryd.func7, Tryd.ntmps7
    go_wp2
    try simp only [Exit.inBlock, Exit.then]
    refine bodyPost_ret (results_tmp4 rfl _ _ _) rfl ?_
    exact ⟨rfl, rfl⟩
  have z1 : ((1 : Int) == (s.size : Int)) = false := by rw [beq_eq_false_iff_ne]; omega
  have h1' : 1 < s.size := by omega
  clear h1
  go_enter Tryd.func7, Tryd.ntmps7
  go_wp2_with fail
  go_loopw [9] (fun j wr => ∃ (k : Nat), 1 ≤ k ∧ k ≤ s.size ∧ j = .int .i64 k ∧ (∀ q (hq : q < s.size), 1 ≤ q → q < k → isDig (s[q]'hq) = true) ∧ wr = w) (fun j _ => s.size - (RowKit.intOf j).toNat)
  case atStart => exact ⟨1, Nat.le_refl _, by omega, rfl, (fun q _ h h' => by omega), rfl⟩
  case round =>
    obtain ⟨k, hk1, hk, rfl, hS, rfl⟩ := hrel
    have HS : Hid (∀ q (hq : q < s.size), 1 ≤ q → q < k → isDig (s[q]'hq) = true) := hS
    clear hS
    by_cases hlt : k < s.size
    · have hq : (k : Int) < (s.size : Int) := by omega
      have Hx : Hid (isDig (s[k]'hlt) = (decide (48 ≤ (s[k]'hlt).toNat) && decide ((s[k]'hlt).toNat ≤ 57))) := rfl
      by_cases x3 : (s[k]'hlt).toNat < 48
      · have hD : isDig (s[k]'hlt) = false := by rw [Hx.out]; simp; omega
        obtain rfl : R = (0, false, false, false) := by
          rw [HR.out, body_no s 1 k hlt hk1 hD]; rfl
        have x3' : (((s[k]'hlt).toNat : Nat) : Int) < 48 := by omega
        clear HR Hx hD HS
        go_wp2
        try simp only [Exit.inBlock, Exit.then]
        refine bodyPost_ret (results_tmp4 rfl _ _ _) rfl ?_
        exact ⟨rfl, rfl⟩
      · by_cases x4 : 57 < (s[k]'hlt).toNat
        · have hD : isDig (s[k]'hlt) = false := by rw [Hx.out]; simp; omega
          obtain rfl : R = (0, false, false, false) := by
            rw [HR.out, body_no s 1 k hlt hk1 hD]; rfl
          have x3' : ¬ (((s[k]'hlt).toNat : Nat) : Int) < 48 := by omega
          have x4' : 57 < (((s[k]'hlt).toNat : Nat) : Int) := by omega
          clear HR Hx hD HS
          go_wp2
          try simp only [Exit.inBlock, Exit.then]
          refine bodyPost_ret (results_tmp4 rfl _ _ _) rfl ?_
          exact ⟨rfl, rfl⟩
        · have hD : isDig (s[k]'hlt) = true := by rw [Hx.out]; simp; omega
          have x3' : ¬ (((s[k]'hlt).toNat : Nat) : Int) < 48 := by omega
          have x4' : ¬ 57 < (((s[k]'hlt).toNat : Nat) : Int) := by omega
          have O : Hid (∀ q (hq : q < s.size), 1 ≤ q → q < k + 1 → isDig (s[q]'hq) = true) := fun q hq a b => by
            by_cases e : q = k
            · subst e; exact hD
            · exact HS.out q hq a (by omega)
          clear HR Hx hD HS
          go_wp2
          go_roundw
          case rel => exact ⟨k + 1, by omega, hlt, by go_num, O.out, by first | trivial | rfl⟩
          case measure => simp [RowKit.intOf]; omega
    · obtain rfl : k = s.size := by omega
      obtain rfl : R = fin false true (val 0 (s.data.toList.drop 1)) := by
        rw [HR.out, body_yes s 1 (by omega) fun q hq a => HS.out q hq a hq]; rfl
      clear HR
      go_wp2_with fail
      go_loopw [10, 11, 12] (fun m o j wq => ∃ (k M : Nat) (ov : Bool), 1 ≤ k ∧ k ≤ s.size ∧ j = .int .i64 k ∧ m = .int .u64 M ∧ o = .bool ov ∧ M ≤ 9223372036854775808 ∧ Cnt M ov (val 0 ((s.data.toList.drop 1).take (k - 1))) ∧ wq = wr) (fun _ _ j _ => s.size - (RowKit.intOf j).toNat)
      case atStart => exact ⟨1, 0, false, Nat.le_refl _, by omega, rfl, rfl, rfl, by omega, ⟨(fun h => by cases h), fun _ => by simp [val_nil]⟩, by first | trivial | rfl⟩
      case round =>
        obtain ⟨k, M, ov, hk1', hk', rfl, rfl, rfl, hM, hC, rfl⟩ := hrel
        by_cases hlt2 : k < s.size
        · have hq : (k : Int) < (s.size : Int) := by omega
          have hD := (isDig_iff _).1 (HS.out k hlt2 hk1' hlt2)
          have hnx := val_next s 1 k hlt2 hk1'
          have y1 : 48 ≤ (((s[k]'hlt2).toNat : Nat) : Int) := by omega
          have y2 : (((s[k]'hlt2).toNat : Nat) : Int) ≤ 57 := by omega
          cases ov with
          | true =>
            have O : Hid (Cnt M true (val 0 ((s.data.toList.drop 1).take (k + 1 - 1)))) := ⟨(fun _ => by have := hC.1 rfl; rw [hnx]; omega), fun h => by cases h⟩
            clear hC hnx hD HS
            go_wp2
            go_roundw
            case rel => exact ⟨k + 1, M, true, by omega, hlt2, by go_num, rfl, rfl, hM, O.out, by first | trivial | rfl⟩
            case measure => simp [RowKit.intOf]; omega
          | false =>
            obtain ⟨hMA, hA⟩ := hC.2 rfl
            rw [← hMA] at hnx
            by_cases hT : 9223372036854775808 < M * 10 + ((s[k]'hlt2).toNat - 48)
            · have O : Hid (Cnt M true (val 0 ((s.data.toList.drop 1).take (k + 1 - 1)))) := ⟨(fun _ => by rw [hnx]; omega), fun h => by cases h⟩
              have hT' : (9223372036854775808 - ((((s[k]'hlt2).toNat : Nat) : Int) - 48)) / 10 < (M : Int) := by omega
              clear hC hnx hD HS hMA hA hT
              go_wp2
              go_roundw
              case rel => exact ⟨k + 1, M, true, by omega, hlt2, by go_num, rfl, rfl, hM, O.out, by first | trivial | rfl⟩
              case measure => simp [RowKit.intOf]; omega
            · have O : Hid (Cnt (M * 10 + ((s[k]'hlt2).toNat - 48)) false (val 0 ((s.data.toList.drop 1).take (k + 1 - 1)))) := ⟨(fun h => by cases h), fun _ => by rw [hnx]; exact ⟨rfl, by omega⟩⟩
              have hT' : ¬ (9223372036854775808 - ((((s[k]'hlt2).toNat : Nat) : Int) - 48)) / 10 < (M : Int) := by omega
              have hM2 : M * 10 + ((s[k]'hlt2).toNat - 48) ≤ 9223372036854775808 := by omega
              have eM : Hid ((M : Int) * 10 + ((((s[k]'hlt2).toNat : Nat) : Int) - 48) = ((M * 10 + ((s[k]'hlt2).toNat - 48) : Nat) : Int)) := by
                show _ = _
                omega
              clear hC hnx hD HS hMA hA hT
              go_wp2
              go_roundw
              case rel => exact ⟨k + 1, M * 10 + ((s[k]'hlt2).toNat - 48), false, by omega, hlt2, by go_num, by rw [eM.out], rfl, hM2, O.out, by first | trivial | rfl⟩
              case measure => simp [RowKit.intOf]; omega
        · obtain rfl : k = s.size := by omega
          have hl : (s.data.toList.drop 1).length = s.size - 1 := by rw [List.length_drop, Array.length_toList]; rfl
          rw [List.take_of_length_le (by omega)] at hC
          clear hl HS
          cases ov with
          | true =>
            have hV : fin false true (val 0 (s.data.toList.drop 1)) = ((9223372036854775807 : Int), false, true, false) := by
              unfold fin
              have h2 : 9223372036854775808 ≤ val 0 (s.data.toList.drop 1) := Nat.le_of_lt (hC.1 rfl)
              simp only [h2, if_true, Bool.false_eq_true, if_false]
            clear hC
            go_wp2
            try simp only [Exit.inBlock, Exit.then]
            refine bodyPost_ret (results_tmp4 rfl _ _ _) rfl ?_
            exact ⟨by rw [hV]; rfl, rfl⟩
          | false =>
            obtain ⟨hMA, hA⟩ := hC.2 rfl
            by_cases hE : M = 9223372036854775808
            · have hV : fin false true (val 0 (s.data.toList.drop 1)) = ((9223372036854775807 : Int), false, true, false) := by
                unfold fin
                rw [← hMA, hE]
                simp
              have hE' : ((M : Int) == 9223372036854775808) = true := by rw [hE]; rfl
              clear hC hMA hA
              go_wp2
              try simp only [Exit.inBlock, Exit.then]
              refine bodyPost_ret (results_tmp4 rfl _ _ _) rfl ?_
              exact ⟨by rw [hV]; rfl, rfl⟩
            · have hV : fin false true (val 0 (s.data.toList.drop 1)) = ((M : Int), false, true, false) := by
                unfold fin
                rw [← hMA]
                have : ¬ 9223372036854775808 ≤ M := by omega
                simp [this]
              have hE' : ((M : Int) == 9223372036854775808) = false := by rw [beq_eq_false_iff_ne]; omega
              have hM' : (M : Int) < 9223372036854775808 := by omega
              clear hC hMA hA
              go_wp2
              try simp only [Exit.inBlock, Exit.then]
              refine bodyPost_ret (results_tmp4 rfl _ _ _) rfl ?_
              exact ⟨by rw [hV]; rfl, rfl⟩

theorem md_minus (s : ByteArray) (h0 : 0 < s.size) (hx : (s[0]'h0).toNat = 45) : md s.data.toList = if plainB (s.data.toList.drop 1) then fin true true (val 0 (s.data.toList.drop 1)) else (0, false, false, true) := by
  have hb := byte_at s 0 h0
  cases hl : s.data.toList with
  | nil => rw [hl] at hb; cases hb
  | cons c r =>
    rw [hl] at hb
    have hc : c = s[0]'h0 := Option.some.inj hb
    rw [← hc] at hx
    show (if c.toNat = 43 then _ else if c.toNat = 45 then _ else _) = _
    rw [if_neg (by omega), if_pos hx]
    rfl

set_option maxRecDepth 100000 in
set_option maxHeartbeats 2000000 in
theorem dm_minus (s : ByteArray) (hs : s.size ≤ 1099511627776) (h0 : 0 < s.size) (hx : (s[0]'h0).toNat = 45) (w : World) :
    Calls Tryd.prog 7 #[.string s] w fun e w' => e = .returned (.tuple #[.int .i64 (md s.data.toList).1, .bool (md s.data.toList).2.1, .bool (md s.data.toList).2.2.1, .bool (md s.data.toList).2.2.2]) ∧ w' = w := by
  have hR := md_minus s h0 hx
  generalize md s.data.toList = R at *
  have HR : Hid (R = if plainB (s.data.toList.drop 1) then fin true true (val 0 (s.data.toList.drop 1)) else (0, false, false, true)) := hR
  clear hR
  have z0 : ((s.size : Int) == 0) = false := by rw [beq_eq_false_iff_ne]; omega
  have i0' : (0 : Int) < (s.size : Int) := by omega
  by_cases h1 : s.size = 1
  · have z1 : ((1 : Int) == (s.size : Int)) = true := by rw [h1]; rfl
    obtain rfl : R = (0, false, false, true) := by
      rw [HR.out]
      have : s.data.toList.drop 1 = [] := by
        apply List.drop_eq_nil_of_le
        rw [Array.length_toList]
        exact Nat.le_of_eq h1
      rw [this]; rfl
    clear HR
    go_enter Tryd.func7, Tryd.ntmps7
    go_wp2
    try simp only [Exit.inBlock, Exit.then]
    refine bodyPost_ret (results_tmp4 rfl _ _ _) rfl ?_
    exact ⟨rfl, rfl⟩
  have z1 : ((1 : Int) == (s.size : Int)) = false := by rw [beq_eq_false_iff_ne]; omega
  have h1' : 1 < s.size := by omega
  clear h1
  go_enter Tryd.func7, Tryd.ntmps7
  go_wp2_with fail
  go_loopw [9] (fun j wr => ∃ (k : Nat), 1 ≤ k ∧ k ≤ s.size ∧ j = .int .i64 k ∧ (∀ q (hq : q < s.size), 1 ≤ q → q < k → isDig (s[q]'hq) = true) ∧ wr = w) (fun j _ => s.size - (RowKit.intOf j).toNat)
  case atStart => exact ⟨1, Nat.le_refl _, by omega, rfl, (fun q _ h h' => by omega), rfl⟩
  case round =>
    obtain ⟨k, hk1, hk, rfl, hS, rfl⟩ := hrel
    have HS : Hid (∀ q (hq : q < s.size), 1 ≤ q → q < k → isDig (s[q]'hq) = true) := hS
    clear hS
    by_cases hlt : k < s.size
    · have hq : (k : Int) < (s.size : Int) := by omega
      have Hx : Hid (isDig (s[k]'hlt) = (decide (48 ≤ (s[k]'hlt).toNat) && decide ((s[k]'hlt).toNat ≤ 57))) := rfl
      by_cases x3 : (s[k]'hlt).toNat < 48
      · have hD : isDig (s[k]'hlt) = false := by rw [Hx.out]; simp; omega
        obtain rfl : R = (0, false, false, true) := by
          rw [HR.out, body_no s 1 k hlt hk1 hD]; rfl
        have x3' : (((s[k]'hlt).toNat : Nat) : Int) < 48 := by omega
        clear HR Hx hD HS
        go_wp2
        try simp only [Exit.inBlock, Exit.then]
        refine bodyPost_ret (results_tmp4 rfl _ _ _) rfl ?_
        exact ⟨rfl, rfl⟩
      · by_cases x4 : 57 < (s[k]'hlt).toNat
        · have hD : isDig (s[k]'hlt) = false := by rw [Hx.out]; simp; omega
          obtain rfl : R = (0, false, false, true) := by
            rw [HR.out, body_no s 1 k hlt hk1 hD]; rfl
          have x3' : ¬ (((s[k]'hlt).toNat : Nat) : Int) < 48 := by omega
          have x4' : 57 < (((s[k]'hlt).toNat : Nat) : Int) := by omega
          clear HR Hx hD HS
          go_wp2
          try simp only [Exit.inBlock, Exit.then]
          refine bodyPost_ret (results_tmp4 rfl _ _ _) rfl ?_
          exact ⟨rfl, rfl⟩
        · have hD : isDig (s[k]'hlt) = true := by rw [Hx.out]; simp; omega
          have x3' : ¬ (((s[k]'hlt).toNat : Nat) : Int) < 48 := by omega
          have x4' : ¬ 57 < (((s[k]'hlt).toNat : Nat) : Int) := by omega
          have O : Hid (∀ q (hq : q < s.size), 1 ≤ q → q < k + 1 → isDig (s[q]'hq) = true) := fun q hq a b => by
            by_cases e : q = k
            · subst e; exact hD
            · exact HS.out q hq a (by omega)
          clear HR Hx hD HS
          go_wp2
          go_roundw
          case rel => exact ⟨k + 1, by omega, hlt, by go_num, O.out, by first | trivial | rfl⟩
          case measure => simp [RowKit.intOf]; omega
    · obtain rfl : k = s.size := by omega
      obtain rfl : R = fin true true (val 0 (s.data.toList.drop 1)) := by
        rw [HR.out, body_yes s 1 (by omega) fun q hq a => HS.out q hq a hq]; rfl
      clear HR
      go_wp2_with fail
      go_loopw [10, 11, 12] (fun m o j wq => ∃ (k M : Nat) (ov : Bool), 1 ≤ k ∧ k ≤ s.size ∧ j = .int .i64 k ∧ m = .int .u64 M ∧ o = .bool ov ∧ M ≤ 9223372036854775808 ∧ Cnt M ov (val 0 ((s.data.toList.drop 1).take (k - 1))) ∧ wq = wr) (fun _ _ j _ => s.size - (RowKit.intOf j).toNat)
      case atStart => exact ⟨1, 0, false, Nat.le_refl _, by omega, rfl, rfl, rfl, by omega, ⟨(fun h => by cases h), fun _ => by simp [val_nil]⟩, by first | trivial | rfl⟩
      case round =>
        obtain ⟨k, M, ov, hk1', hk', rfl, rfl, rfl, hM, hC, rfl⟩ := hrel
        by_cases hlt2 : k < s.size
        · have hq : (k : Int) < (s.size : Int) := by omega
          have hD := (isDig_iff _).1 (HS.out k hlt2 hk1' hlt2)
          have hnx := val_next s 1 k hlt2 hk1'
          have y1 : 48 ≤ (((s[k]'hlt2).toNat : Nat) : Int) := by omega
          have y2 : (((s[k]'hlt2).toNat : Nat) : Int) ≤ 57 := by omega
          cases ov with
          | true =>
            have O : Hid (Cnt M true (val 0 ((s.data.toList.drop 1).take (k + 1 - 1)))) := ⟨(fun _ => by have := hC.1 rfl; rw [hnx]; omega), fun h => by cases h⟩
            clear hC hnx hD HS
            go_wp2
            go_roundw
            case rel => exact ⟨k + 1, M, true, by omega, hlt2, by go_num, rfl, rfl, hM, O.out, by first | trivial | rfl⟩
            case measure => simp [RowKit.intOf]; omega
          | false =>
            obtain ⟨hMA, hA⟩ := hC.2 rfl
            rw [← hMA] at hnx
            by_cases hT : 9223372036854775808 < M * 10 + ((s[k]'hlt2).toNat - 48)
            · have O : Hid (Cnt M true (val 0 ((s.data.toList.drop 1).take (k + 1 - 1)))) := ⟨(fun _ => by rw [hnx]; omega), fun h => by cases h⟩
              have hT' : (9223372036854775808 - ((((s[k]'hlt2).toNat : Nat) : Int) - 48)) / 10 < (M : Int) := by omega
              clear hC hnx hD HS hMA hA hT
              go_wp2
              go_roundw
              case rel => exact ⟨k + 1, M, true, by omega, hlt2, by go_num, rfl, rfl, hM, O.out, by first | trivial | rfl⟩
              case measure => simp [RowKit.intOf]; omega
            · have O : Hid (Cnt (M * 10 + ((s[k]'hlt2).toNat - 48)) false (val 0 ((s.data.toList.drop 1).take (k + 1 - 1)))) := ⟨(fun h => by cases h), fun _ => by rw [hnx]; exact ⟨rfl, by omega⟩⟩
              have hT' : ¬ (9223372036854775808 - ((((s[k]'hlt2).toNat : Nat) : Int) - 48)) / 10 < (M : Int) := by omega
              have hM2 : M * 10 + ((s[k]'hlt2).toNat - 48) ≤ 9223372036854775808 := by omega
              have eM : Hid ((M : Int) * 10 + ((((s[k]'hlt2).toNat : Nat) : Int) - 48) = ((M * 10 + ((s[k]'hlt2).toNat - 48) : Nat) : Int)) := by
                show _ = _
                omega
              clear hC hnx hD HS hMA hA hT
              go_wp2
              go_roundw
              case rel => exact ⟨k + 1, M * 10 + ((s[k]'hlt2).toNat - 48), false, by omega, hlt2, by go_num, by rw [eM.out], rfl, hM2, O.out, by first | trivial | rfl⟩
              case measure => simp [RowKit.intOf]; omega
        · obtain rfl : k = s.size := by omega
          have hl : (s.data.toList.drop 1).length = s.size - 1 := by rw [List.length_drop, Array.length_toList]; rfl
          rw [List.take_of_length_le (by omega)] at hC
          clear hl HS
          cases ov with
          | true =>
            have hV : fin true true (val 0 (s.data.toList.drop 1)) = ((-9223372036854775808 : Int), false, true, true) := by
              unfold fin
              have h2 : 9223372036854775808 ≤ val 0 (s.data.toList.drop 1) := Nat.le_of_lt (hC.1 rfl)
              simp only [h2, if_true, Bool.false_eq_true, if_false]
            clear hC
            go_wp2
            try simp only [Exit.inBlock, Exit.then]
            refine bodyPost_ret (results_tmp4 rfl _ _ _) rfl ?_
            exact ⟨by rw [hV]; rfl, rfl⟩
          | false =>
            obtain ⟨hMA, hA⟩ := hC.2 rfl
            by_cases hE : M = 9223372036854775808
            · have hV : fin true true (val 0 (s.data.toList.drop 1)) = ((-9223372036854775808 : Int), false, true, true) := by
                unfold fin
                rw [← hMA, hE]
                simp
              have hE' : ((M : Int) == 9223372036854775808) = true := by rw [hE]; rfl
              clear hC hMA hA
              go_wp2
              try simp only [Exit.inBlock, Exit.then]
              refine bodyPost_ret (results_tmp4 rfl _ _ _) rfl ?_
              exact ⟨by rw [hV]; rfl, rfl⟩
            · have hV : fin true true (val 0 (s.data.toList.drop 1)) = (-(M : Int), false, true, true) := by
                unfold fin
                rw [← hMA]
                have : ¬ 9223372036854775808 ≤ M := by omega
                simp [this]
              have hE' : ((M : Int) == 9223372036854775808) = false := by rw [beq_eq_false_iff_ne]; omega
              have hM' : (M : Int) < 9223372036854775808 := by omega
              clear hC hMA hA
              go_wp2
              try simp only [Exit.inBlock, Exit.then]
              refine bodyPost_ret (results_tmp4 rfl _ _ _) rfl ?_
              exact ⟨by rw [hV]; rfl, rfl⟩

theorem md_bare (s : ByteArray) (h0 : 0 < s.size) (hx : (s[0]'h0).toNat ≠ 43) (hx' : (s[0]'h0).toNat ≠ 45) : md s.data.toList = if plainB (s.data.toList.drop 0) then fin false false (val 0 (s.data.toList.drop 0)) else (0, false, false, false) := by
  have hb := byte_at s 0 h0
  cases hl : s.data.toList with
  | nil => rw [hl] at hb; cases hb
  | cons c r =>
    rw [hl] at hb
    have hc : c = s[0]'h0 := Option.some.inj hb
    rw [← hc] at hx hx'
    show (if c.toNat = 43 then _ else if c.toNat = 45 then _ else _) = _
    rw [if_neg hx, if_neg hx']
    rfl

set_option maxRecDepth 100000 in
set_option maxHeartbeats 2000000 in
theorem dm_bare (s : ByteArray) (hs : s.size ≤ 1099511627776) (h0 : 0 < s.size) (hx : (s[0]'h0).toNat ≠ 43) (hx' : (s[0]'h0).toNat ≠ 45) (w : World) :
    Calls Tryd.prog 7 #[.string s] w fun e w' => e = .returned (.tuple #[.int .i64 (md s.data.toList).1, .bool (md s.data.toList).2.1, .bool (md s.data.toList).2.2.1, .bool (md s.data.toList).2.2.2]) ∧ w' = w := by
  have hR := md_bare s h0 hx hx'
  generalize md s.data.toList = R at *
  have HR : Hid (R = if plainB (s.data.toList.drop 0) then fin false false (val 0 (s.data.toList.drop 0)) else (0, false, false, false)) := hR
  clear hR
  have z0 : ((s.size : Int) == 0) = false := by rw [beq_eq_false_iff_ne]; omega
  have i0' : (0 : Int) < (s.size : Int) := by omega
  have x1 : ((((s[0]'h0).toNat : Nat) : Int) == 43) = false := by rw [beq_eq_false_iff_ne]; omega
  have x2 : ((((s[0]'h0).toNat : Nat) : Int) == 45) = false := by rw [beq_eq_false_iff_ne]; omega
  clear hx hx'
  have z1 : ((0 : Int) == (s.size : Int)) = false := by rw [beq_eq_false_iff_ne]; omega
  go_enter Tryd.func7, Tryd.ntmps7
  go_wp2_with fail
  go_loopw [9] (fun j wr => ∃ (k : Nat), 0 ≤ k ∧ k ≤ s.size ∧ j = .int .i64 k ∧ (∀ q (hq : q < s.size), 0 ≤ q → q < k → isDig (s[q]'hq) = true) ∧ wr = w) (fun j _ => s.size - (RowKit.intOf j).toNat)
  case atStart => exact ⟨0, Nat.le_refl _, by omega, rfl, (fun q _ h h' => by omega), rfl⟩
  case round =>
    obtain ⟨k, hk1, hk, rfl, hS, rfl⟩ := hrel
    have HS : Hid (∀ q (hq : q < s.size), 0 ≤ q → q < k → isDig (s[q]'hq) = true) := hS
    clear hS
    by_cases hlt : k < s.size
    · have hq : (k : Int) < (s.size : Int) := by omega
      have Hx : Hid (isDig (s[k]'hlt) = (decide (48 ≤ (s[k]'hlt).toNat) && decide ((s[k]'hlt).toNat ≤ 57))) := rfl
      by_cases x3 : (s[k]'hlt).toNat < 48
      · have hD : isDig (s[k]'hlt) = false := by rw [Hx.out]; simp; omega
        obtain rfl : R = (0, false, false, false) := by
          rw [HR.out, body_no s 0 k hlt hk1 hD]; rfl
        have x3' : (((s[k]'hlt).toNat : Nat) : Int) < 48 := by omega
        clear HR Hx hD HS
        go_wp2
        try simp only [Exit.inBlock, Exit.then]
        refine bodyPost_ret (results_tmp4 rfl _ _ _) rfl ?_
        exact ⟨rfl, rfl⟩
      · by_cases x4 : 57 < (s[k]'hlt).toNat
        · have hD : isDig (s[k]'hlt) = false := by rw [Hx.out]; simp; omega
          obtain rfl : R = (0, false, false, false) := by
            rw [HR.out, body_no s 0 k hlt hk1 hD]; rfl
          have x3' : ¬ (((s[k]'hlt).toNat : Nat) : Int) < 48 := by omega
          have x4' : 57 < (((s[k]'hlt).toNat : Nat) : Int) := by omega
          clear HR Hx hD HS
          go_wp2
          try simp only [Exit.inBlock, Exit.then]
          refine bodyPost_ret (results_tmp4 rfl _ _ _) rfl ?_
          exact ⟨rfl, rfl⟩
        · have hD : isDig (s[k]'hlt) = true := by rw [Hx.out]; simp; omega
          have x3' : ¬ (((s[k]'hlt).toNat : Nat) : Int) < 48 := by omega
          have x4' : ¬ 57 < (((s[k]'hlt).toNat : Nat) : Int) := by omega
          have O : Hid (∀ q (hq : q < s.size), 0 ≤ q → q < k + 1 → isDig (s[q]'hq) = true) := fun q hq a b => by
            by_cases e : q = k
            · subst e; exact hD
            · exact HS.out q hq a (by omega)
          clear HR Hx hD HS
          go_wp2
          go_roundw
          case rel => exact ⟨k + 1, by omega, hlt, by go_num, O.out, by first | trivial | rfl⟩
          case measure => simp [RowKit.intOf]; omega
    · obtain rfl : k = s.size := by omega
      obtain rfl : R = fin false false (val 0 (s.data.toList.drop 0)) := by
        rw [HR.out, body_yes s 0 (by omega) fun q hq a => HS.out q hq a hq]; rfl
      clear HR
      go_wp2_with fail
      go_loopw [10, 11, 12] (fun m o j wq => ∃ (k M : Nat) (ov : Bool), 0 ≤ k ∧ k ≤ s.size ∧ j = .int .i64 k ∧ m = .int .u64 M ∧ o = .bool ov ∧ M ≤ 9223372036854775808 ∧ Cnt M ov (val 0 ((s.data.toList.drop 0).take (k - 0))) ∧ wq = wr) (fun _ _ j _ => s.size - (RowKit.intOf j).toNat)
      case atStart => exact ⟨0, 0, false, Nat.le_refl _, by omega, rfl, rfl, rfl, by omega, ⟨(fun h => by cases h), fun _ => by simp [val_nil]⟩, by first | trivial | rfl⟩
      case round =>
        obtain ⟨k, M, ov, hk1', hk', rfl, rfl, rfl, hM, hC, rfl⟩ := hrel
        by_cases hlt2 : k < s.size
        · have hq : (k : Int) < (s.size : Int) := by omega
          have hD := (isDig_iff _).1 (HS.out k hlt2 hk1' hlt2)
          have hnx := val_next s 0 k hlt2 hk1'
          have y1 : 48 ≤ (((s[k]'hlt2).toNat : Nat) : Int) := by omega
          have y2 : (((s[k]'hlt2).toNat : Nat) : Int) ≤ 57 := by omega
          cases ov with
          | true =>
            have O : Hid (Cnt M true (val 0 ((s.data.toList.drop 0).take (k + 1 - 0)))) := ⟨(fun _ => by have := hC.1 rfl; rw [hnx]; omega), fun h => by cases h⟩
            clear hC hnx hD HS
            go_wp2
            go_roundw
            case rel => exact ⟨k + 1, M, true, by omega, hlt2, by go_num, rfl, rfl, hM, O.out, by first | trivial | rfl⟩
            case measure => simp [RowKit.intOf]; omega
          | false =>
            obtain ⟨hMA, hA⟩ := hC.2 rfl
            rw [← hMA] at hnx
            by_cases hT : 9223372036854775808 < M * 10 + ((s[k]'hlt2).toNat - 48)
            · have O : Hid (Cnt M true (val 0 ((s.data.toList.drop 0).take (k + 1 - 0)))) := ⟨(fun _ => by rw [hnx]; omega), fun h => by cases h⟩
              have hT' : (9223372036854775808 - ((((s[k]'hlt2).toNat : Nat) : Int) - 48)) / 10 < (M : Int) := by omega
              clear hC hnx hD HS hMA hA hT
              go_wp2
              go_roundw
              case rel => exact ⟨k + 1, M, true, by omega, hlt2, by go_num, rfl, rfl, hM, O.out, by first | trivial | rfl⟩
              case measure => simp [RowKit.intOf]; omega
            · have O : Hid (Cnt (M * 10 + ((s[k]'hlt2).toNat - 48)) false (val 0 ((s.data.toList.drop 0).take (k + 1 - 0)))) := ⟨(fun h => by cases h), fun _ => by rw [hnx]; exact ⟨rfl, by omega⟩⟩
              have hT' : ¬ (9223372036854775808 - ((((s[k]'hlt2).toNat : Nat) : Int) - 48)) / 10 < (M : Int) := by omega
              have hM2 : M * 10 + ((s[k]'hlt2).toNat - 48) ≤ 9223372036854775808 := by omega
              have eM : Hid ((M : Int) * 10 + ((((s[k]'hlt2).toNat : Nat) : Int) - 48) = ((M * 10 + ((s[k]'hlt2).toNat - 48) : Nat) : Int)) := by
                show _ = _
                omega
              clear hC hnx hD HS hMA hA hT
              go_wp2
              go_roundw
              case rel => exact ⟨k + 1, M * 10 + ((s[k]'hlt2).toNat - 48), false, by omega, hlt2, by go_num, by rw [eM.out], rfl, hM2, O.out, by first | trivial | rfl⟩
              case measure => simp [RowKit.intOf]; omega
        · obtain rfl : k = s.size := by omega
          have hl : (s.data.toList.drop 0).length = s.size - 0 := by rw [List.length_drop, Array.length_toList]; rfl
          rw [List.take_of_length_le (by omega)] at hC
          clear hl HS
          cases ov with
          | true =>
            have hV : fin false false (val 0 (s.data.toList.drop 0)) = ((9223372036854775807 : Int), false, true, false) := by
              unfold fin
              have h2 : 9223372036854775808 ≤ val 0 (s.data.toList.drop 0) := Nat.le_of_lt (hC.1 rfl)
              simp only [h2, if_true, Bool.false_eq_true, if_false]
            clear hC
            go_wp2
            try simp only [Exit.inBlock, Exit.then]
            refine bodyPost_ret (results_tmp4 rfl _ _ _) rfl ?_
            exact ⟨by rw [hV]; rfl, rfl⟩
          | false =>
            obtain ⟨hMA, hA⟩ := hC.2 rfl
            by_cases hE : M = 9223372036854775808
            · have hV : fin false false (val 0 (s.data.toList.drop 0)) = ((9223372036854775807 : Int), false, true, false) := by
                unfold fin
                rw [← hMA, hE]
                simp
              have hE' : ((M : Int) == 9223372036854775808) = true := by rw [hE]; rfl
              clear hC hMA hA
              go_wp2
              try simp only [Exit.inBlock, Exit.then]
              refine bodyPost_ret (results_tmp4 rfl _ _ _) rfl ?_
              exact ⟨by rw [hV]; rfl, rfl⟩
            · have hV : fin false false (val 0 (s.data.toList.drop 0)) = ((M : Int), true, true, false) := by
                unfold fin
                rw [← hMA]
                have : ¬ 9223372036854775808 ≤ M := by omega
                simp [this]
              have hE' : ((M : Int) == 9223372036854775808) = false := by rw [beq_eq_false_iff_ne]; omega
              have hM' : (M : Int) < 9223372036854775808 := by omega
              clear hC hMA hA
              go_wp2
              try simp only [Exit.inBlock, Exit.then]
              refine bodyPost_ret (results_tmp4 rfl _ _ _) rfl ?_
              exact ⟨by rw [hV]; rfl, rfl⟩
end Go.Proofs.Qxb6605769aDoor
