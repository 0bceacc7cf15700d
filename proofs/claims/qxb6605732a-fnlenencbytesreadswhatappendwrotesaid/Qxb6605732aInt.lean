import Derived.Test.Qxb6605732aLe
namespace Go.Proofs.Qxb6605732a
open Go.RowKit
open Go.Sort (grow)
open Go.Lib
set_option linter.unusedVariables false
set_option linter.unusedSimpArgs false

/-- the reader in block R: what it has left, and its flag -/
def Rdr (R : Nat) (w : World) (l : List UInt8) (ok : Bool) : Prop := ∃ a n c, Has w R [.slice a n c, .bool ok] 38 ∧ View R w a n c l
theorem Rdr.later {R : Nat} {w w' : World} {l : List UInt8} {ok : Bool} (h : Rdr R w l ok) (hb : Below w.heap.size w w') : Rdr R w' l ok := by
  obtain ⟨a, n, c, h1, h2⟩ := h
  exact ⟨a, n, c, h1.later hb, h2.below (hb.mono (Nat.le_of_lt h1.lt))⟩
theorem Rdr.lt {R : Nat} {w : World} {l : List UInt8} {ok : Bool} (h : Rdr R w l ok) : R < w.heap.size := by
  obtain ⟨a, n, c, h1, h2⟩ := h
  exact h1.lt

theorem bytes_ok (R : Nat) (l : List UInt8) (ok : Bool) (k : Nat) (w : World) (h : Rdr R w l ok) (hk : k ≤ l.length) (hm : l.length ≤ 9000000000000000) :
    Calls Try.prog 19 #[.pointer (some ⟨R, 0, none⟩), .int .i64 k] w fun e w' => ∃ a1 c1, e = .returned (.slice a1 k c1) ∧ View R w' a1 k c1 (l.take k) ∧ Rdr R w' (l.drop k) ok ∧ Below R w w' := by
  obtain ⟨a, n, c, h1, h2⟩ := h
  have hl := h2.1
  exact (bytes19 R a n c l ok k w h1 h2 (by omega) (by omega)).mono fun e w' ⟨he, v1, hh, v2, hb⟩ => ⟨_, _, he, v1, ⟨_, _, _, hh, v2⟩, hb⟩
theorem bytes_no (R : Nat) (l : List UInt8) (ok : Bool) (k : Nat) (w : World) (h : Rdr R w l ok) (hk : l.length < k) (hm : k ≤ 9000000000000000) :
    Calls Try.prog 19 #[.pointer (some ⟨R, 0, none⟩), .int .i64 k] w fun e w' => e = .returned (.slice none 0 0) ∧ Rdr R w' [] false ∧ Below R w w' := by
  obtain ⟨a, n, c, h1, h2⟩ := h
  have hl := h2.1
  exact (bytes19_no R a n c ok k w h1 (by omega) (by omega)).mono fun e w' ⟨he, hh, hb⟩ => ⟨he, ⟨_, _, _, hh, View.nil _ _⟩, hb⟩

/-- a view of at least one byte leads to cells -/
theorem View.some {R : Nat} {w : World} {a : Option Addr} {n c : Nat} {l : List UInt8} (h : View R w a n c l) (hn : 0 < n) : ∃ g o, a = some ⟨g, o, none⟩ ∧ g < R ∧ ∀ i, i < n → w.cell? ⟨g, o + i, none⟩ = some (.int .u8 (l.getD i 0).toNat) := by
  obtain ⟨h1, h2, ⟨_, h⟩ | h⟩ := h
  · omega
  · exact h

set_option maxRecDepth 100000 in
set_option maxHeartbeats 1000000 in
theorem uint8_ok (R : Nat) (b : UInt8) (t : List UInt8) (ok : Bool) (w : World) (h : Rdr R w (b :: t) ok) (hm : t.length < 9000000000000000) :
    Calls Try.prog 21 #[.pointer (some ⟨R, 0, none⟩)] w fun e w' => e = .returned (.int .u8 b.toNat) ∧ Rdr R w' t ok ∧ Below R w w' := by
  have hb := bytes_ok R (b :: t) ok 1 w h (by simp) (by simp; omega)
  clear h
  go_enter Try.func21, Try.ntmps21
  go_wp2_with fail
  refine hb.mono ?_
  rintro e w1 ⟨a1, c1, rfl, hv, hr, hbl⟩
  obtain ⟨g, o, rfl, hg, hc⟩ := hv.some (by omega)
  have c0 : w1.cell? ⟨g, o, none⟩ = some (.int .u8 b.toNat) := hc 0 (by omega)
  have Hr : Hid (Rdr R w1 t ok) := hr
  clear hc hv hb hr
  go_wp2
  go_ret
  exact ⟨rfl, Hr.out, hbl⟩

set_option maxRecDepth 100000 in
set_option maxHeartbeats 1000000 in
theorem uint8_no (R : Nat) (ok : Bool) (w : World) (h : Rdr R w [] ok) :
    Calls Try.prog 21 #[.pointer (some ⟨R, 0, none⟩)] w fun e w' => e = .returned (.int .u8 0) ∧ Rdr R w' [] false ∧ Below R w w' := by
  have hb := bytes_no R [] ok 1 w h (by simp) (by simp)
  clear h
  go_enter Try.func21, Try.ntmps21
  go_wp2_with fail
  refine hb.mono ?_
  rintro e w1 ⟨rfl, hr, hbl⟩
  have Hr : Hid (Rdr R w1 [] false) := hr
  clear hb hr
  go_wp2
  go_ret
  exact ⟨rfl, Hr.out, hbl⟩
end Go.Proofs.Qxb6605732a
