import Derived.Test.Qxb6605732aRd
import Derived.Lib.Endian
import Derived.Lib.EndianBits
import Derived.Lib.EndianMore
namespace Go.Proofs.Qxb6605732a
open Go.RowKit
open Go.Sort (grow)
open Go.Lib
set_option linter.unusedVariables false
set_option linter.unusedSimpArgs false

theorem cell_later {w w' : World} {p : Addr} {v : Value} (hb : Below w.heap.size w w') (h : w.cell? p = some v) : w'.cell? p = some v := by
  rw [hb.cell (World.block_lt_of_cell? w p h)]; exact h
theorem below_alloc (w : World) (o : Obj) : Below w.heap.size w (w.alloc o) := (Below.refl _ _).alloc (Nat.le_refl _) _

set_option maxRecDepth 100000 in
set_option maxHeartbeats 8000000 in
theorem u16 (g o n c : Nat) (b0 b1 : UInt8) (w : World) (hn : 2 ≤ n) (c0 : w.cell? ⟨g, o, none⟩ = some (.int .u8 b0.toNat))
    (c1 : w.cell? ⟨g, o + 1, none⟩ = some (.int .u8 b1.toNat)) :
    Calls Try.prog 22 #[.agg #[], .slice (some ⟨g, o, none⟩) n c] w fun e w' => e = .returned (.int .u16 (leNat [b0, b1])) ∧ Below w.heap.size w w' := by
  have hv : ((leNat [b0, b1] : Nat) : Int) = (b0.toNat : Int) + (b1.toNat : Int) * 256 := by
    simp only [leNat]
    push_cast
    omega
  have d0 := cell_later (below_alloc w (Obj.cells #[] 46)) c0
  have h0 : b0.toNat < 256 := b0.toNat_lt
  have q0 : 0 < n := by omega
  have d1 := cell_later (below_alloc w (Obj.cells #[] 46)) c1
  have h1 : b1.toNat < 256 := b1.toNat_lt
  have q1 : (1 : Int) < (n : Int) := by omega
  clear c0 c1
  go_enter Try.func22, Try.ntmps22
  go_wp2
  go_quiet (fail)
  go_wp2
  go_ret
  refine ⟨?_, (below_alloc _ _).trans ⟨rfl, rfl, rfl, Nat.le_refl _, fun _ _ => rfl⟩⟩
  simp (disch := omega) only [u16_wrap_id, u16_or8]
  rw [hv]
  rfl

set_option maxRecDepth 100000 in
set_option maxHeartbeats 8000000 in
theorem u64 (g o n c : Nat) (b0 b1 b2 b3 b4 b5 b6 b7 : UInt8) (w : World) (hn : 8 ≤ n) (c0 : w.cell? ⟨g, o, none⟩ = some (.int .u8 b0.toNat))
    (c1 : w.cell? ⟨g, o + 1, none⟩ = some (.int .u8 b1.toNat))
    (c2 : w.cell? ⟨g, o + 2, none⟩ = some (.int .u8 b2.toNat))
    (c3 : w.cell? ⟨g, o + 3, none⟩ = some (.int .u8 b3.toNat))
    (c4 : w.cell? ⟨g, o + 4, none⟩ = some (.int .u8 b4.toNat))
    (c5 : w.cell? ⟨g, o + 5, none⟩ = some (.int .u8 b5.toNat))
    (c6 : w.cell? ⟨g, o + 6, none⟩ = some (.int .u8 b6.toNat))
    (c7 : w.cell? ⟨g, o + 7, none⟩ = some (.int .u8 b7.toNat)) :
    Calls Try.prog 23 #[.agg #[], .slice (some ⟨g, o, none⟩) n c] w fun e w' => e = .returned (.int .u64 (leNat [b0, b1, b2, b3, b4, b5, b6, b7])) ∧ Below w.heap.size w w' := by
  have hv : ((leNat [b0, b1, b2, b3, b4, b5, b6, b7] : Nat) : Int) = (b0.toNat : Int) + (b1.toNat : Int) * 256 + (b2.toNat : Int) * 65536 + (b3.toNat : Int) * 16777216 + (b4.toNat : Int) * 4294967296 + (b5.toNat : Int) * 1099511627776 + (b6.toNat : Int) * 281474976710656 + (b7.toNat : Int) * 72057594037927936 := by
    simp only [leNat]
    push_cast
    omega
  have d0 := cell_later (below_alloc w (Obj.cells #[] 46)) c0
  have h0 : b0.toNat < 256 := b0.toNat_lt
  have q0 : 0 < n := by omega
  have d1 := cell_later (below_alloc w (Obj.cells #[] 46)) c1
  have h1 : b1.toNat < 256 := b1.toNat_lt
  have q1 : (1 : Int) < (n : Int) := by omega
  have d2 := cell_later (below_alloc w (Obj.cells #[] 46)) c2
  have h2 : b2.toNat < 256 := b2.toNat_lt
  have q2 : (2 : Int) < (n : Int) := by omega
  have d3 := cell_later (below_alloc w (Obj.cells #[] 46)) c3
  have h3 : b3.toNat < 256 := b3.toNat_lt
  have q3 : (3 : Int) < (n : Int) := by omega
  have d4 := cell_later (below_alloc w (Obj.cells #[] 46)) c4
  have h4 : b4.toNat < 256 := b4.toNat_lt
  have q4 : (4 : Int) < (n : Int) := by omega
  have d5 := cell_later (below_alloc w (Obj.cells #[] 46)) c5
  have h5 : b5.toNat < 256 := b5.toNat_lt
  have q5 : (5 : Int) < (n : Int) := by omega
  have d6 := cell_later (below_alloc w (Obj.cells #[] 46)) c6
  have h6 : b6.toNat < 256 := b6.toNat_lt
  have q6 : (6 : Int) < (n : Int) := by omega
  have d7 := cell_later (below_alloc w (Obj.cells #[] 46)) c7
  have h7 : b7.toNat < 256 := b7.toNat_lt
  have q7 : (7 : Int) < (n : Int) := by omega
  clear c0 c1 c2 c3 c4 c5 c6 c7
  go_enter Try.func23, Try.ntmps23
  go_wp2
  go_quiet (fail)
  go_wp2
  go_ret
  refine ⟨?_, (below_alloc _ _).trans ⟨rfl, rfl, rfl, Nat.le_refl _, fun _ _ => rfl⟩⟩
  simp (disch := omega) only [u64_wrap_id, u64_or8, u64_or16, u64_or24, u64_or32, u64_or40, u64_or48, u64_or56]
  rw [hv]
  rfl
end Go.Proofs.Qxb6605732a
