import Derived.Test.Qxb6605732aSpec
import Derived.Lib.AppendStr
namespace Go.Proofs.Qxb6605732a
open Go.RowKit
open Go.Sort (grow)
open Go.Lib
set_option linter.unusedVariables false
set_option linter.unusedSimpArgs false

def cellsOfB (l : List UInt8) : List Value := l.map fun b => Value.int .u8 b.toNat
/-- a row of bytes that lies at or above base -/
def Buf (w : World) (base : Nat) (v : Value) (l : List UInt8) : Prop := w.ownsRow base 5 1 v l.length (cellsOfB l)

theorem below_grown {w w' : World} {base : Nat} {v : Value} {l : List UInt8} (h : Buf w base v l) (hg : w.grownBy w' v.ownBlock) (hb : base ≤ w.heap.size) : Below base w w' :=
  ⟨hg.os, hg.tape, hg.output, hg.size, fun k hk => hg.block k (by omega) (fun e => by have := (World.ownsRow.lt h k e.symm).1; omega)⟩

theorem addp (b o j : Nat) : (⟨b, o, none⟩ : Addr).add j = ⟨b, o + j, none⟩ := by
  unfold Addr.add; split <;> simp_all

theorem cells_new (w : World) (cs : List Value) (t : TypeId) : ∀ j x, cs[j]? = some x → (w.alloc (.cells cs.toArray t)).cell? ((⟨w.heap.size, 0, none⟩ : Addr).add j) = some x := by
  intro j x hx
  have h : Has (w.alloc (.cells cs.toArray t)) w.heap.size cs t := Has.new cs t rfl
  rw [addp, Nat.zero_add]
  exact h.cell j hx

theorem Buf.of {w : World} {base : Nat} {v : Value} {l bs : List UInt8} {news : List Value} {k : Nat} (h : w.ownsRow base 5 1 v (l.length + k) (cellsOfB l ++ news)) (hk : bs.length = k) (hn : cellsOfB bs = news) : Buf w base v (l ++ bs) := by
  unfold Buf
  rw [List.length_append, hk, show cellsOfB (l ++ bs) = cellsOfB l ++ news from by rw [← hn]; simp [cellsOfB]]
  exact h
/-- the length-encoded integer, as it is written -/
def encInt (n : Nat) : List UInt8 := if n < 251 then [n.toUInt8] else if n < 65536 then 252 :: Lib.leBytes 2 n else 253 :: Lib.leBytes 3 n

set_option maxRecDepth 100000 in
set_option maxHeartbeats 1000000 in
theorem app_small (base : Nat) (v : Value) (l : List UInt8) (n : Nat) (w : World) (h : Buf w base v l) (hb : base ≤ w.heap.size) (hl : l.length ≤ 10000000) (hn : n < 251) :
    Calls Try.prog 20 #[v, .int .u64 n] w fun e w' => ∃ v', e = .returned v' ∧ Buf w' base v' (l ++ encInt n) ∧ Below base w w' := by
  obtain ⟨i0, hi0, hz0, hz1, hz2⟩ := info_parts info5
  have H : Hid (Buf w base v l) := h
  clear h
  have e : Hid (encInt n = [n.toUInt8]) := by
    show encInt n = _
    unfold encInt; rw [if_pos hn]
  have a1 : (n : Int) < 251 := by omega
  clear hn
  go_enter Try.func20, Try.ntmps20
  go_wp2_with (at_builtin; refine wpList_append_own _ rfl _ _ 22 rfl base 5 i0 (.int .u8 0) 1 1 Try.underlying22 hi0 hz0 hz1 hz2 rfl (by decide) v l.length (cellsOfB l) rfl (World.ownsRow.alloc H.out _) ⟨w.heap.size, 0, none⟩ 1 1 _ rfl (by rfl) (cells_new _ _ _) (by simp [Value.oneCell']) (by unfold maxLen; omega) (by omega) (by simp; omega) ?_)
  intro v' w1 hown hgrow _
  have hg : w.grownBy w1 v.ownBlock := (World.grownBy_alloc w _ _).trans hgrow
  have B : Hid (Below base w w1) := below_grown H.out hg hb
  have O : Hid (w1.ownsRow base 5 1 v' (l.length + 1) _) := hown
  clear hg hgrow hown
  go_wp2
  go_ret
  refine ⟨_, rfl, ?_, B.out⟩
  rw [e.out]
  refine Buf.of O.out rfl ?_
  simp only [cellsOfB, Lib.leBytes, List.map_cons, List.map_nil, toUInt8_mod]
  have : n.toUInt8.toNat = n := by rw [Nat.toUInt8, UInt8.toNat_ofNat', Nat.mod_eq_of_lt (by omega)]
  rw [this]
set_option maxRecDepth 100000 in
set_option maxHeartbeats 1000000 in
theorem app_mid (base : Nat) (v : Value) (l : List UInt8) (n : Nat) (w : World) (h : Buf w base v l) (hb : base ≤ w.heap.size) (hl : l.length ≤ 10000000) (hn0 : 251 ≤ n) (hn : n < 65536) :
    Calls Try.prog 20 #[v, .int .u64 n] w fun e w' => ∃ v', e = .returned v' ∧ Buf w' base v' (l ++ encInt n) ∧ Below base w w' := by
  obtain ⟨i0, hi0, hz0, hz1, hz2⟩ := info_parts info5
  have H : Hid (Buf w base v l) := h
  clear h
  have e : Hid (encInt n = 252 :: Lib.leBytes 2 n) := by
    show encInt n = _
    unfold encInt; rw [if_neg (by omega), if_pos hn]
  have a1 : ¬ ((n : Int) < 251) := by omega
  have a2 : (n : Int) < 65536 := by omega
  clear hn hn0
  go_enter Try.func20, Try.ntmps20
  go_wp2_with (at_builtin; refine wpList_append_own _ rfl _ _ 22 rfl base 5 i0 (.int .u8 0) 1 1 Try.underlying22 hi0 hz0 hz1 hz2 rfl (by decide) v l.length (cellsOfB l) rfl (World.ownsRow.alloc H.out _) ⟨w.heap.size, 0, none⟩ 3 3 _ rfl (by rfl) (cells_new _ _ _) (by simp [Value.oneCell']) (by unfold maxLen; omega) (by omega) (by simp; omega) ?_)
  intro v' w1 hown hgrow _
  have hg : w.grownBy w1 v.ownBlock := (World.grownBy_alloc w _ _).trans hgrow
  have B : Hid (Below base w w1) := below_grown H.out hg hb
  have O : Hid (w1.ownsRow base 5 1 v' (l.length + 3) _) := hown
  clear hg hgrow hown
  go_wp2
  go_ret
  refine ⟨_, rfl, ?_, B.out⟩
  rw [e.out]
  refine Buf.of O.out rfl ?_
  simp only [cellsOfB, Lib.leBytes, List.map_cons, List.map_nil, toUInt8_mod]
  have e1 : ((n % 256 : Nat) : Int) = (n : Int) % 256 := by omega
  have e2 : ((n / 256 % 256 : Nat) : Int) = (n : Int) / 256 := by omega
  rw [e1, e2]
  rfl
set_option maxRecDepth 100000 in
set_option maxHeartbeats 1000000 in
theorem app_big (base : Nat) (v : Value) (l : List UInt8) (n : Nat) (w : World) (h : Buf w base v l) (hb : base ≤ w.heap.size) (hl : l.length ≤ 10000000) (hn0 : 65536 ≤ n) (hn : n < 16777216) :
    Calls Try.prog 20 #[v, .int .u64 n] w fun e w' => ∃ v', e = .returned v' ∧ Buf w' base v' (l ++ encInt n) ∧ Below base w w' := by
  obtain ⟨i0, hi0, hz0, hz1, hz2⟩ := info_parts info5
  have H : Hid (Buf w base v l) := h
  clear h
  have e : Hid (encInt n = 253 :: Lib.leBytes 3 n) := by
    show encInt n = _
    unfold encInt; rw [if_neg (by omega), if_neg (by omega)]
  have a1 : ¬ ((n : Int) < 251) := by omega
  have a2 : ¬ ((n : Int) < 65536) := by omega
  have a3 : (n : Int) < 16777216 := by omega
  clear hn hn0
  go_enter Try.func20, Try.ntmps20
  go_wp2_with (at_builtin; refine wpList_append_own _ rfl _ _ 22 rfl base 5 i0 (.int .u8 0) 1 1 Try.underlying22 hi0 hz0 hz1 hz2 rfl (by decide) v l.length (cellsOfB l) rfl (World.ownsRow.alloc H.out _) ⟨w.heap.size, 0, none⟩ 4 4 _ rfl (by rfl) (cells_new _ _ _) (by simp [Value.oneCell']) (by unfold maxLen; omega) (by omega) (by simp; omega) ?_)
  intro v' w1 hown hgrow _
  have hg : w.grownBy w1 v.ownBlock := (World.grownBy_alloc w _ _).trans hgrow
  have B : Hid (Below base w w1) := below_grown H.out hg hb
  have O : Hid (w1.ownsRow base 5 1 v' (l.length + 4) _) := hown
  clear hg hgrow hown
  go_wp2
  go_ret
  refine ⟨_, rfl, ?_, B.out⟩
  rw [e.out]
  refine Buf.of O.out rfl ?_
  simp only [cellsOfB, Lib.leBytes, List.map_cons, List.map_nil, toUInt8_mod]
  have e1 : ((n % 256 : Nat) : Int) = (n : Int) % 256 := by omega
  have e2 : ((n / 256 % 256 : Nat) : Int) = (n : Int) / 256 % 256 := by omega
  have e3 : ((n / 256 / 256 % 256 : Nat) : Int) = (n : Int) / 65536 := by omega
  rw [e1, e2, e3]
  rfl

theorem app_int (base : Nat) (v : Value) (l : List UInt8) (n : Nat) (w : World) (h : Buf w base v l) (hb : base ≤ w.heap.size) (hl : l.length ≤ 10000000) (hn : n < 16777216) :
    Calls Try.prog 20 #[v, .int .u64 n] w fun e w' => ∃ v', e = .returned v' ∧ Buf w' base v' (l ++ encInt n) ∧ Below base w w' := by
  by_cases h1 : n < 251
  · exact app_small base v l n w h hb hl h1
  by_cases h2 : n < 65536
  · exact app_mid base v l n w h hb hl (by omega) h2
  · exact app_big base v l n w h hb hl (by omega) hn

theorem encInt_len (n : Nat) : (encInt n).length ≤ 4 := by
  unfold encInt
  split
  · simp
  · split
    · rw [List.length_cons, leBytes_length]; omega
    · rw [List.length_cons, leBytes_length]; omega

/-- a string as it is written: its length, then its bytes -/
def encStr (s : ByteArray) : List UInt8 := encInt s.size ++ s.data.toList

set_option maxRecDepth 100000 in
set_option maxHeartbeats 1000000 in
theorem app_str17 (base : Nat) (v : Value) (l : List UInt8) (s : ByteArray) (w : World) (h : Buf w base v l) (hb : base ≤ w.heap.size) (hl : l.length ≤ 1000000) (hn : s.size ≤ 1048576) :
    Calls Try.prog 17 #[v, .string s] w fun e w' => ∃ v', e = .returned v' ∧ Buf w' base v' (l ++ encStr s) ∧ Below base w w' := by
  obtain ⟨i0, hi0, hz0, hz1, hz2⟩ := info_parts info5
  have hc := app_int base v l s.size w h hb (by omega) (by omega)
  have hel := encInt_len s.size
  clear h
  go_enter Try.func17, Try.ntmps17
  go_wp2_with fail
  refine hc.mono ?_
  rintro e w1 ⟨v1, rfl, hB, hbl⟩
  have H : Hid (Buf w1 base v1 (l ++ encInt s.size)) := hB
  have hs1 := hbl.size
  clear hc hB
  go_wp2_with (at_builtin; refine wpList_append_own_string _ rfl _ _ 22 9 rfl base 5 i0 Try.underlying22 Try.underlying9 hi0 hz0 hz1 hz2 v1 (l ++ encInt s.size).length (cellsOfB (l ++ encInt s.size)) rfl H.out s rfl (by rw [List.length_append]; unfold maxLen; omega) (by rw [List.length_append]; omega) (by omega) ?_)
  intro v' w2 hown hgrow _
  have B : Hid (Below base w w2) := hbl.trans (below_grown H.out hgrow (by omega))
  have O : Hid (Buf w2 base v' (l ++ encStr s)) := by
    show Buf w2 base v' (l ++ encStr s)
    unfold encStr
    rw [← List.append_assoc]
    rw [← List.length_append] at hown
    exact Buf.of (k := s.size) hown (by rw [Array.length_toList]; rfl) rfl
  clear hown hgrow
  go_wp2
  go_ret
  exact ⟨_, rfl, O.out, B.out⟩

set_option maxRecDepth 100000 in
theorem app_str (base : Nat) (v : Value) (l : List UInt8) (s : ByteArray) (w : World) (h : Buf w base v l) (hb : base ≤ w.heap.size) (hl : l.length ≤ 1000000) (hn : s.size ≤ 1048576) :
    Calls Try.prog 14 #[v, .string s] w fun e w' => ∃ v', e = .returned v' ∧ Buf w' base v' (l ++ encStr s) ∧ Below base w w' := by
  have hc := app_str17 base v l s w h hb hl hn
  clear h
  go_enter Try.func14, Try.ntmps14
  go_wp2_with fail
  refine hc.mono ?_
  rintro e w1 ⟨v1, rfl, hB, hbl⟩
  have H : Hid (Buf w1 base v1 (l ++ encStr s)) := hB
  clear hc hB
  go_wp2
  go_ret
  exact ⟨_, rfl, H.out, hbl⟩
end Go.Proofs.Qxb6605732a
