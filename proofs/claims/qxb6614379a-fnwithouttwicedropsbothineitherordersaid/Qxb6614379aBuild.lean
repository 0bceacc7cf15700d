import Derived.Test.Qxb6614379aApp
namespace Go.Proofs.Qxb6614379a
open Go.RowKit
set_option linter.unusedVariables false
set_option linter.unusedSimpArgs false

theorem append_any (B e : Nat) (wn : ByteArray) (L : Acs) (x : At) (w : World) (hE : ElemAt w B e wn L) (hm : L.length ≤ 10000) :
    Calls Try.prog 42 #[.pointer (some ⟨e, 0, none⟩), .string x.sp, .string x.lo, .string x.pf, .string x.va] w fun r w' => r = .returned (.tuple #[]) ∧ (∃ p, ElemAt w' B e wn (L ++ [(x, p)])) ∧ Below B w w' := by
  obtain ⟨h, t, la, ns, body, h1, h2, h3, h4, h5⟩ := hE
  rcases h5 with ⟨rfl, rfl⟩ | ⟨bb, v, rfl, e2, e3, e4⟩
  · cases hs : x.sp.toList.isEmpty with
    | true => exact app_e0 e h t B la ns wn x w hs h1 h2 h3 h4
    | false => exact app_n0 e h t B la ns wn x w hs h1 h2 h3 h4
  · cases hs : x.sp.toList.isEmpty with
    | true => exact app_e1 e h t bb B la ns wn v x L w hs h1 e3 h2 h3 h4 e2 e4 hm
    | false => exact app_n1 e h t bb B la ns wn v x L w hs h1 e3 h2 h3 h4 e2 e4 hm

theorem new_any (wn : ByteArray) (la : Int) (u : ByteArray) (w : World) :
    Calls Try.prog 21 #[.string wn, .int .i64 la, .string u] w fun r w' => ∃ e, r = .returned (.pointer (some ⟨e, 0, none⟩)) ∧ ElemAt w' w.heap.size e wn [] ∧ Below w.heap.size w w' := by
  go_enter Try.func21, Try.ntmps21
  go_wp2
  go_ret
  refine ⟨_, rfl, ⟨w.heap.size + 1 + 1, w.heap.size + 1, la, some ⟨w.heap.size, 0, none⟩, none, ?_, ?_, ?_, by omega, .inl ⟨rfl, rfl⟩⟩, ?_⟩
  · exact Has.new _ _ (by simp)
  · exact (Has.new [.pointer (some ⟨w.heap.size + 1, 0, none⟩), .pointer none] 75 (by simp)).alloc _
  · exact ((Has.new [.string wn, .int .i64 la, .pointer (some ⟨w.heap.size, 0, none⟩)] 72 (by simp)).alloc _).alloc _
  · exact ((((Below.refl _ _).alloc (Nat.le_refl _) _).alloc (by simp) _).alloc (by simp; omega) _).alloc (by simp; omega) _

def atD : At := ⟨ByteArray.empty, ByteArray.empty, ByteArray.empty, ByteArray.empty⟩
/-- a slice of attributes that came in -/
def AttrsAt (w : World) (a : Option Addr) (xs : List At) : Prop :=
  xs.length = 0 ∨ ∃ b off, a = some ⟨b, off, none⟩ ∧ b < w.heap.size ∧ ∀ i, i < xs.length →
    w.cell? ⟨b, off + i * 4, none⟩ = some (.string (xs.getD i atD).sp) ∧ w.cell? ⟨b, off + i * 4 + 1, none⟩ = some (.string (xs.getD i atD).lo) ∧
    w.cell? ⟨b, off + i * 4 + 2, none⟩ = some (.string (xs.getD i atD).pf) ∧ w.cell? ⟨b, off + i * 4 + 3, none⟩ = some (.string (xs.getD i atD).va)
theorem AttrsAt.later {w w' : World} {a : Option Addr} {xs : List At} (h : AttrsAt w a xs) (hb : Below w.heap.size w w') : AttrsAt w' a xs := by
  rcases h with h | ⟨b, off, rfl, hl, hc⟩
  · exact .inl h
  · refine .inr ⟨b, off, rfl, Nat.lt_of_lt_of_le hl hb.size, fun i hi => ?_⟩
    rw [hb.cell (p := ⟨b, _, none⟩) hl, hb.cell (p := ⟨b, _, none⟩) hl, hb.cell (p := ⟨b, _, none⟩) hl, hb.cell (p := ⟨b, _, none⟩) hl]
    exact hc i hi

set_option maxRecDepth 100000 in
set_option maxHeartbeats 1000000 in
theorem build_any (wn : ByteArray) (la : Int) (u : ByteArray) (a : Option Addr) (cap : Nat) (xs : List At) (w : World) (hrow : AttrsAt w a xs) (hm : xs.length ≤ 10000) :
    Calls Try.prog 30 #[.string wn, .int .i64 la, .string u, .slice a xs.length cap] w fun r w' => ∃ e L, r = .returned (.pointer (some ⟨e, 0, none⟩)) ∧ L.map (·.1) = xs ∧ ElemAt w' w.heap.size e wn L ∧ Below w.heap.size w w' := by
  have Hrow : Hid (AttrsAt w a xs) := hrow
  clear hrow
  go_enter Try.func30, Try.ntmps30
  go_wp2_with fail
  refine (new_any wn la u w).mono ?_
  rintro r w1 ⟨e, rfl, hE, hb⟩
  have HE : Hid (ElemAt w1 w.heap.size e wn []) := hE
  clear hE
  go_wp2_with fail
  go_loopw [10] (fun i wr => ∃ (k : Nat) (L : Acs), k ≤ xs.length ∧ i = .int .i64 k ∧ L.map (·.1) = xs.take k ∧ ElemAt wr w.heap.size e wn L ∧ Below w.heap.size w wr) (fun i _ => xs.length - (intOf i).toNat)
  case atStart => exact ⟨0, [], Nat.zero_le _, rfl, rfl, HE.out, hb⟩
  case round =>
    clear HE hb w1
    obtain ⟨k, L, hk, rfl, hL, hE, hbel⟩ := hrel
    have HL : Hid (L.map (·.1) = xs.take k) := hL
    have HE : Hid (ElemAt wr w.heap.size e wn L) := hE
    clear hL hE
    by_cases hlt : k < xs.length
    · rcases Hrow.out with h | ⟨b, off, rfl, hbl, hcc⟩
      · omega
      obtain ⟨c0, c1, c2, c3⟩ := hcc k hlt
      clear hcc
      have hLl : L.length ≤ 10000 := by have := congrArg List.length HL.out; simp at this; omega
      have Hx : Hid (xs.take (k + 1) = xs.take k ++ [xs.getD k atD]) := by
        show _ = _
        rw [List.take_succ_eq_append_getElem hlt]; simp [List.getElem?_eq_getElem hlt]
      have HC : Hid (∀ w', Below w.heap.size w w' → w'.cell? ⟨b, off + k * 4, none⟩ = some (.string (xs.getD k atD).sp) ∧ w'.cell? ⟨b, off + k * 4 + 1, none⟩ = some (.string (xs.getD k atD).lo) ∧ w'.cell? ⟨b, off + k * 4 + 2, none⟩ = some (.string (xs.getD k atD).pf) ∧ w'.cell? ⟨b, off + k * 4 + 3, none⟩ = some (.string (xs.getD k atD).va)) := fun w' hb' => by
        rw [hb'.cell (p := ⟨b, _, none⟩) hbl, hb'.cell (p := ⟨b, _, none⟩) hbl, hb'.cell (p := ⟨b, _, none⟩) hbl, hb'.cell (p := ⟨b, _, none⟩) hbl]
        exact ⟨c0, c1, c2, c3⟩
      clear c0 c1 c2 c3
      generalize xs.getD k atD = x at *
      have hap := append_any w.heap.size e wn L x wr.drew (HE.out.later ((Below.refl _ _).drew)) hLl
      have i0 : (0 : Int) ≤ (k : Int) := by omega
      have i1 : (k : Int) < (xs.length : Int) := by omega
      go_wp2_with fail
      refine wp_region_gate 21 22 (fun w' => w'.cell? ⟨b, off + k * 4, none⟩ = some (.string x.sp) ∧ w'.cell? ⟨b, off + k * 4 + 1, none⟩ = some (.string x.lo) ∧ w'.cell? ⟨b, off + k * 4 + 2, none⟩ = some (.string x.pf) ∧ w'.cell? ⟨b, off + k * 4 + 3, none⟩ = some (.string x.va)) (by kernel_rfl) (by kernel_rfl) (fun c a d u w h => by cases d <;> exact h) (HC.out _ hbel.drew) ?_
      simp only [List.take_succ_cons, List.take_zero, List.drop_succ_cons, List.drop_zero]
      iterate 21
        apply wpHeld_step
        · rfl
        · intro w' hS
          obtain ⟨s0, s1, s2, s3⟩ := hS
          go_simp
          rfl
        simp only [Act.put, List.setIfInBounds_toArray, List.set_cons_zero, List.set_cons_succ]
      show wpGate _ _ _ _ _ _ _ _ _
      refine wpGate_step rfl (fun K hK => ?_)
      go_simp
      refine hap.mono ?_
      rintro r w2 ⟨rfl, ⟨p, hE2⟩, hb2⟩
      have hbel2 := hbel.drew.trans hb2
      refine hK _ _ (fun _ => HC.out _ hbel2) ?_
      clear hK K hap
      refine wpGate_nil ?_
      have HE2 : Hid (ElemAt w2 w.heap.size e wn (L ++ [(x, p)])) := hE2
      clear hE2
      go_wp2
      go_roundw
      case rel => exact ⟨k + 1, L ++ [(x, p)], hlt, by go_num, by rw [List.map_append, HL.out, Hx.out]; rfl, HE2.out, hbel2⟩
      case measure => simp [intOf]; omega
    · obtain rfl : k = xs.length := by omega
      rw [List.take_length] at HL
      go_wp2
      go_ret
      exact ⟨e, L, rfl, HL.out, HE.out, hbel⟩

end Go.Proofs.Qxb6614379a
