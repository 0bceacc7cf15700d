import Derived.Test.Qxb6614248aTime
import Derived.Test.Qxb6614248aMem
import Derived.BigQuiet
import Derived.Deep.RegionWith
namespace Go.Proofs.Qxb6614248a
open Go.RowKit
open Go.Sort (grow)
set_option linter.unusedVariables false

theorem and_two {u1 u2 : Int} (a0 : 0 ≤ u1) (a1 : u1 < 1000000000) (b0 : 0 ≤ u2) (b1 : u2 < 1000000000) : bits .and .u64 (bits .and .u64 u1 u2) 9223372036854775808 = 0 := by
  rw [u64_and u1 u2 a0 (by omega) b0 (by omega)]
  have : u1.toNat &&& u2.toNat ≤ u1.toNat := Nat.and_le_left
  exact and_top (by omega) (by omega)

set_option maxHeartbeats 400000 in
theorem after_gt (u1 s1 u2 s2 : Int) (p1 p2 : Option Addr) (w : World) (a0 : 0 ≤ u1) (a1 : u1 < 1000000000) (b0 : 0 ≤ u2) (b1 : u2 < 1000000000) (h : s2 < s1) :
    Calls Try.prog 12 #[.agg #[.int .u64 u1, .int .i64 s1, .pointer p1], .agg #[.int .u64 u2, .int .i64 s2, .pointer p2]] w fun e w' => e = .returned (.bool true) ∧ Below w.heap.size w w' := by
  have hb := and_two a0 a1 b0 b1
  have h1 := and_top a0 a1
  have h2 := and_top b0 b1
  go_enter Try.func12, Try.ntmps12
  go_wp2
  go_ret
  exact ⟨rfl, ((Below.refl _ _).alloc (Nat.le_refl _) _).alloc (by simp) _⟩

set_option maxHeartbeats 400000 in
theorem after_lt (u1 s1 u2 s2 : Int) (p1 p2 : Option Addr) (w : World) (a0 : 0 ≤ u1) (a1 : u1 < 1000000000) (b0 : 0 ≤ u2) (b1 : u2 < 1000000000) (h : s1 < s2) :
    Calls Try.prog 12 #[.agg #[.int .u64 u1, .int .i64 s1, .pointer p1], .agg #[.int .u64 u2, .int .i64 s2, .pointer p2]] w fun e w' => e = .returned (.bool false) ∧ Below w.heap.size w w' := by
  have h5 : decide (s2 < s1) = false := decide_eq_false (by omega)
  have hb := and_two a0 a1 b0 b1
  have h1 := and_top a0 a1
  have h2 := and_top b0 b1
  go_enter Try.func12, Try.ntmps12
  go_wp2
  go_ret
  exact ⟨rfl, ((Below.refl _ _).alloc (Nat.le_refl _) _).alloc (by simp) _⟩

set_option maxHeartbeats 400000 in
theorem after_eq (u1 s1 u2 : Int) (p1 p2 : Option Addr) (w : World) (a0 : 0 ≤ u1) (a1 : u1 < 1000000000) (b0 : 0 ≤ u2) (b1 : u2 < 1000000000) :
    Calls Try.prog 12 #[.agg #[.int .u64 u1, .int .i64 s1, .pointer p1], .agg #[.int .u64 u2, .int .i64 s1, .pointer p2]] w fun e w' => e = .returned (.bool (decide (u2 < u1))) ∧ Below w.heap.size w w' := by
  have hb := and_two a0 a1 b0 b1
  have h1 := and_top a0 a1
  have h2 := and_top b0 b1
  have h3 := and_low a0 a1
  have h4 := and_low b0 b1
  go_enter Try.func12, Try.ntmps12
  go_wp2
  go_ret
  exact ⟨rfl, ((Below.refl _ _).alloc (Nat.le_refl _) _).alloc (by simp) _⟩

theorem after_any (a b : Int) (p1 p2 : Option Addr) (w : World) :
    Calls Try.prog 12 #[.agg #[.int .u64 (a % 1000000000), .int .i64 (a / 1000000000), .pointer p1], .agg #[.int .u64 (b % 1000000000), .int .i64 (b / 1000000000), .pointer p2]] w
      fun e w' => e = .returned (.bool (decide (b < a))) ∧ Below w.heap.size w w' := by
  rcases Int.lt_trichotomy (a / 1000000000) (b / 1000000000) with h | h | h
  · have e : decide (b < a) = false := decide_eq_false (by omega)
    rw [e]; exact after_lt _ _ _ _ p1 p2 w (by omega) (by omega) (by omega) (by omega) h
  · have e : decide (b < a) = decide (b % 1000000000 < a % 1000000000) := decide_eq_decide.2 (by omega)
    rw [e, ← h]; exact after_eq _ _ _ p1 p2 w (by omega) (by omega) (by omega) (by omega)
  · have e : decide (b < a) = true := decide_eq_true (by omega)
    rw [e]; exact after_gt _ _ _ _ p1 p2 w (by omega) (by omega) (by omega) (by omega) h

set_option maxHeartbeats 400000 in
theorem dated_any (u s sh : Int) (p : Option Addr) (w : World) :
    Calls Try.prog 16 #[.agg #[.int .u64 u, .int .i64 s, .pointer p, .int .i64 sh]] w fun e w' => e = .returned (.agg #[.int .u64 u, .int .i64 s, .pointer p]) ∧ Below w.heap.size w w' := by
  go_enter Try.func16, Try.ntmps16
  go_wp2
  exact bodyPost_ret (v := .agg #[.int .u64 u, .int .i64 s, .pointer p]) (by simp [results, Try.results16, go_sem]) rfl ⟨rfl, ((Below.refl _ _).alloc (Nat.le_refl _) _).alloc (by simp) _⟩

/-- the entry in force after the first entries: the latest dated on or before the day, the first of those of one date -/
def st (day : Int) (a : Option (Int × Int)) (x : Int × Int) : Option (Int × Int) :=
  match a with
  | none => if x.1 ≤ day then some x else none
  | some y => if x.1 ≤ day ∧ y.1 < x.1 then some x else some y
def inF (day : Int) (xs : List (Int × Int)) : Option (Int × Int) := xs.foldl (st day) none
/-- the cells of an entry -/
def ent (x : Int × Int) : List Value := [.int .u64 (x.1 % 1000000000), .int .i64 (x.1 / 1000000000), .pointer none, .int .i64 x.2]
def dat (d : Int) : List Value := [.int .u64 (d % 1000000000), .int .i64 (d / 1000000000), .pointer none]
def fnd (a : Option (Int × Int)) : Int × Int := a.getD (0, 0)
/-- a slice of entries: empty, or a row -/
def Caps (w : World) (a : Option Addr) (xs : List (Int × Int)) : Prop :=
  xs.length = 0 ∨ ∃ b, a = some ⟨b, 0, none⟩ ∧ b < w.heap.size ∧ ∀ i, i < xs.length →
    w.cell? ⟨b, i * 4, none⟩ = some (.int .u64 ((xs.getD i (0, 0)).1 % 1000000000)) ∧ w.cell? ⟨b, i * 4 + 1, none⟩ = some (.int .i64 ((xs.getD i (0, 0)).1 / 1000000000)) ∧
    w.cell? ⟨b, i * 4 + 2, none⟩ = some (.pointer none) ∧ w.cell? ⟨b, i * 4 + 3, none⟩ = some (.int .i64 (xs.getD i (0, 0)).2)

set_option maxHeartbeats 4000000 in
theorem force_any (a : Option Addr) (cap : Nat) (xs : List (Int × Int)) (day : Int) (w : World) (hm : xs.length ≤ 1048576) (hrow : Caps w a xs) :
    Calls Try.prog 15 #[.slice a xs.length cap, .agg #[.int .u64 (day % 1000000000), .int .i64 (day / 1000000000), .pointer none], .func (.func 16) #[] #[]] w
      fun e w' => e = .returned (.tuple #[.agg (ent (fnd (inF day xs))).toArray, .bool (inF day xs).isSome]) ∧ Below w.heap.size w w' := by
  have Hrow : Hid (Caps w a xs) := hrow
  clear hrow
  go_enter Try.func15, Try.ntmps15
  go_wp2_with fail
  go_loopw [9, 15] (fun ok i wr => ∃ k : Nat, k ≤ xs.length ∧ i = .int .i64 k ∧ ok = .bool (inF day (xs.take k)).isSome ∧ Below w.heap.size w wr ∧
      Has wr w.heap.size (dat day) 40 ∧ Has wr (w.heap.size + 1) (ent (0, 0)) 43 ∧ Has wr (w.heap.size + 1 + 1) (ent (fnd (inF day (xs.take k)))) 43) (fun _ i _ => xs.length - (intOf i).toNat)
  case atStart =>
    refine ⟨0, Nat.zero_le _, rfl, rfl, (((Below.refl _ _).alloc (Nat.le_refl _) _).alloc (by simp) _).alloc (by simp; omega) _, ?_, ?_, ?_⟩
    · exact ((Has.new (dat day) 40 rfl).alloc _).alloc _
    · exact (Has.new (ent (0, 0)) 43 (by simp)).alloc _
    · exact Has.new (ent (0, 0)) 43 (by simp)
  case round =>
    obtain ⟨k, hk, rfl, rfl, hbel, Hd, He, Hf⟩ := hrel
    by_cases hlt : k < xs.length
    · have hrow := Hrow.out
      rcases hrow with h | ⟨b, rfl, hbl, hcs⟩
      · omega
      obtain ⟨c0, c1, c2, c3⟩ := hcs k hlt
      rw [← hbel.cell (p := ⟨b, _, none⟩) hbl] at c0 c1 c2 c3
      clear hcs
      have Hin : Hid (inF day (xs.take (k + 1)) = st day (inF day (xs.take k)) (xs.getD k (0, 0))) := by
        show inF day (xs.take (k + 1)) = _
        rw [List.take_succ_eq_append_getElem hlt]; simp only [inF, List.foldl_append, List.foldl_cons, List.foldl_nil]; simp [List.getElem?_eq_getElem hlt]
      generalize xs.getD k (0, 0) = x at *
      generalize inF day (xs.take k) = y at *
      generalize hz : fnd y = z at *
      have Hz : Hid (fnd y = z) := hz
      clear hz
      go_wp2_with fail
      refine (dated_any _ _ _ _ _).mono ?_
      rintro e w1 ⟨rfl, hb1⟩
      have Hd1 := (Hd.alloc (.cells (ent x).toArray 43)).later hb1
      have He1 := (He.alloc (.cells (ent x).toArray 43)).later hb1
      have Hf1 := (Hf.alloc (.cells (ent x).toArray 43)).later hb1
      have Hx1 : Has w1 wr.heap.size (ent x) 43 := (Has.new (ent x) 43 rfl).later hb1
      go_wp2
      have kd0 := fun d os => ((Hd1.alloc (.cells (dat x.1).toArray 40)).regrown d os).cell 0 rfl
      have kd1 := fun d os => ((Hd1.alloc (.cells (dat x.1).toArray 40)).regrown d os).cell 1 rfl
      have kd2 := fun d os => ((Hd1.alloc (.cells (dat x.1).toArray 40)).regrown d os).cell 2 rfl
      have kx0 := fun d os => ((Has.new (w := w1) (dat x.1) 40 rfl).regrown d os).cell 0 rfl
      have kx1 := fun d os => ((Has.new (w := w1) (dat x.1) 40 rfl).regrown d os).cell 1 rfl
      have kx2 := fun d os => ((Has.new (w := w1) (dat x.1) 40 rfl).regrown d os).cell 2 rfl
      have kf0 := fun d os => ((Hf1.alloc (.cells (dat x.1).toArray 40)).regrown d os).cell 0 rfl
      have kf1 := fun d os => ((Hf1.alloc (.cells (dat x.1).toArray 40)).regrown d os).cell 1 rfl
      have kf2 := fun d os => ((Hf1.alloc (.cells (dat x.1).toArray 40)).regrown d os).cell 2 rfl
      have kf3 := fun d os => ((Hf1.alloc (.cells (dat x.1).toArray 40)).regrown d os).cell 3 rfl
      simp only [dat] at kd0 kd1 kd2 kx0 kx1 kx2 kf0 kf1 kf2 kf3
      have cA : ∀ d os, Calls Try.prog 12 #[.agg (dat x.1).toArray, .agg (dat day).toArray] (grow (redrawn (w1.alloc (.cells (dat x.1).toArray 40)) d) os) fun e w'' => e = .returned (.bool (decide (day < x.1))) ∧ ∃ p : Regrown, w'' = grow (redrawn (w1.alloc (.cells (dat x.1).toArray 40)) p.d) p.os := fun d os => Calls.regrown_of (after_any x.1 day none none _)
      have cD : ∀ d os, Calls Try.prog 16 #[.agg (ent z).toArray] (grow (redrawn (w1.alloc (.cells (dat x.1).toArray 40)) d) os) fun e w'' => e = .returned (.agg (dat z.1).toArray) ∧ ∃ p : Regrown, w'' = grow (redrawn (w1.alloc (.cells (dat x.1).toArray 40)) p.d) p.os := fun d os => Calls.regrown_of (dated_any _ _ _ _ _)
      have cB : ∀ d os, Calls Try.prog 12 #[.agg (dat x.1).toArray, .agg (dat z.1).toArray] (grow (redrawn (w1.alloc (.cells (dat x.1).toArray 40)) d) os) fun e w'' => e = .returned (.bool (decide (z.1 < x.1))) ∧ ∃ p : Regrown, w'' = grow (redrawn (w1.alloc (.cells (dat x.1).toArray 40)) p.d) p.os := fun d os => Calls.regrown_of (after_any x.1 z.1 none none _)
      simp only [dat, ent] at cA cB cD
      have hW2 : Below w.heap.size w (w1.alloc (.cells (dat x.1).toArray 40)) := by
        have h1 := hbel.size
        have h2 := hb1.size
        simp at h2
        exact ((hbel.alloc h1 (.cells (ent x).toArray 43)).trans (hb1.mono (by simp; omega))).alloc (by omega) _
      by_cases hday : x.1 ≤ day
      · have ed : decide (day < x.1) = false := decide_eq_false (by omega)
        rw [ed] at cA
        rcases y with _ | y
        · have Hst : Hid (st day none x = some x) := by show st day none x = some x; simp [st, hday]
          refine wp_region_quiet_below (by kernel_rfl) (by kernel_rfl) ?_
          repeat (go_big_quiet_step (first | (go_at_call_of 12 day; exact cA _ _) | (go_at_call 16; exact cD _ _) | (go_at_call_of 12 z; exact cB _ _)))
          refine wpQuiet_nil ?_
          intro _ hw'
          obtain ⟨⟨dq, osq⟩, hw''⟩ := hw'
          subst hw''
          clear cA cB cD kd0 kd1 kd2 kx0 kx1 kx2 kf0 kf1 kf2 kf3
          have hG := hW2.trans ((below_regrown (w1.alloc (.cells (dat x.1).toArray 40)) dq osq).mono hW2.size)
          have Gd := (Hd1.alloc (.cells (dat x.1).toArray 40)).regrown dq osq
          have Ge := (He1.alloc (.cells (dat x.1).toArray 40)).regrown dq osq
          have Gf := (Hf1.alloc (.cells (dat x.1).toArray 40)).regrown dq osq
          have Gx := (Hx1.alloc (.cells (dat x.1).toArray 40)).regrown dq osq
          have x0 := Gx.cell 0 rfl
          have x1 := Gx.cell 1 rfl
          have x2 := Gx.cell 2 rfl
          have x3 := Gx.cell 3 rfl
          have f0 := Gf.cell 0 rfl
          have f1 := Gf.cell 1 rfl
          have f2 := Gf.cell 2 rfl
          have f3 := Gf.cell 3 rfl
          have f4 := Gf.frozen
          simp only [dat] at x0 x1 x2 x3 f0 f1 f2 f3 f4
          go_wp2
          go_roundw
          case rel => exact ⟨k + 1, hlt, by go_num, by rw [Hin.out, Hst.out]; rfl, (((hG.setCell (by simp; omega) _).setCell (by simp; omega) _).setCell (by simp; omega) _).setCell (by simp; omega) _, (((Gd.other (by dsimp only; omega) _).other (by dsimp only; omega) _).other (by dsimp only; omega) _).other (by dsimp only; omega) _, (((Ge.other (by dsimp only; omega) _).other (by dsimp only; omega) _).other (by dsimp only; omega) _).other (by dsimp only; omega) _, by rw [Hin.out, Hst.out]; exact (((Gf.set 0 _).set 1 _).set 2 _).set 3 _⟩
          case measure => simp [intOf]; omega
        · by_cases hyx : y.1 < x.1
          · have Hst : Hid (st day (some y) x = some x) := by show st day (some y) x = some x; simp [st, hday, hyx]
            have ed2 : decide (z.1 < x.1) = true := decide_eq_true (by rw [← Hz.out]; exact hyx)
            rw [ed2] at cB
            refine wp_region_quiet_below (by kernel_rfl) (by kernel_rfl) ?_
            repeat (go_big_quiet_step (first | (go_at_call_of 12 day; exact cA _ _) | (go_at_call 16; exact cD _ _) | (go_at_call_of 12 z; exact cB _ _)))
            refine wpQuiet_nil ?_
            intro _ hw'
            obtain ⟨⟨dq, osq⟩, hw''⟩ := hw'
            subst hw''
            clear cA cB cD kd0 kd1 kd2 kx0 kx1 kx2 kf0 kf1 kf2 kf3
            have hG := hW2.trans ((below_regrown (w1.alloc (.cells (dat x.1).toArray 40)) dq osq).mono hW2.size)
            have Gd := (Hd1.alloc (.cells (dat x.1).toArray 40)).regrown dq osq
            have Ge := (He1.alloc (.cells (dat x.1).toArray 40)).regrown dq osq
            have Gf := (Hf1.alloc (.cells (dat x.1).toArray 40)).regrown dq osq
            have Gx := (Hx1.alloc (.cells (dat x.1).toArray 40)).regrown dq osq
            have x0 := Gx.cell 0 rfl
            have x1 := Gx.cell 1 rfl
            have x2 := Gx.cell 2 rfl
            have x3 := Gx.cell 3 rfl
            have f0 := Gf.cell 0 rfl
            have f1 := Gf.cell 1 rfl
            have f2 := Gf.cell 2 rfl
            have f3 := Gf.cell 3 rfl
            have f4 := Gf.frozen
            simp only [dat] at x0 x1 x2 x3 f0 f1 f2 f3 f4
            go_wp2
            go_roundw
            case rel => exact ⟨k + 1, hlt, by go_num, by rw [Hin.out, Hst.out]; rfl, (((hG.setCell (by simp; omega) _).setCell (by simp; omega) _).setCell (by simp; omega) _).setCell (by simp; omega) _, (((Gd.other (by dsimp only; omega) _).other (by dsimp only; omega) _).other (by dsimp only; omega) _).other (by dsimp only; omega) _, (((Ge.other (by dsimp only; omega) _).other (by dsimp only; omega) _).other (by dsimp only; omega) _).other (by dsimp only; omega) _, by rw [Hin.out, Hst.out]; exact (((Gf.set 0 _).set 1 _).set 2 _).set 3 _⟩
            case measure => simp [intOf]; omega
          · have Hst : Hid (st day (some y) x = some y) := by show st day (some y) x = some y; simp [st, hyx]
            have ed2 : decide (z.1 < x.1) = false := decide_eq_false (by rw [← Hz.out]; exact hyx)
            rw [ed2] at cB
            refine wp_region_quiet_below (by kernel_rfl) (by kernel_rfl) ?_
            repeat (go_big_quiet_step (first | (go_at_call_of 12 day; exact cA _ _) | (go_at_call 16; exact cD _ _) | (go_at_call_of 12 z; exact cB _ _)))
            refine wpQuiet_nil ?_
            intro _ hw'
            obtain ⟨⟨dq, osq⟩, hw''⟩ := hw'
            subst hw''
            clear cA cB cD kd0 kd1 kd2 kx0 kx1 kx2 kf0 kf1 kf2 kf3
            have hG := hW2.trans ((below_regrown (w1.alloc (.cells (dat x.1).toArray 40)) dq osq).mono hW2.size)
            have Gd := (Hd1.alloc (.cells (dat x.1).toArray 40)).regrown dq osq
            have Ge := (He1.alloc (.cells (dat x.1).toArray 40)).regrown dq osq
            have Gf := (Hf1.alloc (.cells (dat x.1).toArray 40)).regrown dq osq
            go_wp2
            go_roundw
            case rel => exact ⟨k + 1, hlt, by go_num, by rw [Hin.out, Hst.out], hG, Gd, Ge, by rw [Hin.out, Hst.out, Hz.out]; exact Gf⟩
            case measure => simp [intOf]; omega
      · have ed : decide (day < x.1) = true := decide_eq_true (by omega)
        rw [ed] at cA
        have Hst : Hid (st day y x = y) := by show st day y x = y; cases y <;> simp [st, hday]
        refine wp_region_quiet_below (by kernel_rfl) (by kernel_rfl) ?_
        repeat (go_big_quiet_step (first | (go_at_call_of 12 day; exact cA _ _) | (go_at_call 16; exact cD _ _) | (go_at_call_of 12 z; exact cB _ _)))
        refine wpQuiet_nil ?_
        intro _ hw'
        obtain ⟨⟨dq, osq⟩, hw''⟩ := hw'
        subst hw''
        clear cA cB cD kd0 kd1 kd2 kx0 kx1 kx2 kf0 kf1 kf2 kf3
        have hG := hW2.trans ((below_regrown (w1.alloc (.cells (dat x.1).toArray 40)) dq osq).mono hW2.size)
        have Gd := (Hd1.alloc (.cells (dat x.1).toArray 40)).regrown dq osq
        have Ge := (He1.alloc (.cells (dat x.1).toArray 40)).regrown dq osq
        have Gf := (Hf1.alloc (.cells (dat x.1).toArray 40)).regrown dq osq
        go_wp2
        go_roundw
        case rel => exact ⟨k + 1, hlt, by go_num, by rw [Hin.out, Hst.out], hG, Gd, Ge, by rw [Hin.out, Hst.out, Hz.out]; exact Gf⟩
        case measure => simp [intOf]; omega
    · obtain rfl : k = xs.length := by omega
      rw [List.take_length] at *
      generalize hy : inF day xs = y at *
      have Hy : Hid (inF day xs = y) := hy
      clear hy
      have f0 := Hf.cell 0 rfl
      have f1 := Hf.cell 1 rfl
      have f2 := Hf.cell 2 rfl
      have f3 := Hf.cell 3 rfl
      have e0 := He.cell 0 rfl
      have e1 := He.cell 1 rfl
      have e2 := He.cell 2 rfl
      have e3 := He.cell 3 rfl
      have e4 := He.frozen
      go_wp2
      exact bodyPost_ret (v := .tuple #[.agg (ent (fnd y)).toArray, .bool y.isSome]) (by simp [results, Try.results15, go_sem, e0, e1, e2, e3, ent]) rfl
        ⟨by rw [Hy.out], (((hbel.setCell (by simp) _).setCell (by simp) _).setCell (by simp) _).setCell (by simp) _⟩

end Go.Proofs.Qxb6614248a
