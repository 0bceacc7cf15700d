import Derived.Test.Qxb6614379aStackMain
import Derived.ProofKit
import Derived.OpenShut
import Derived.ShutString
import Derived.ChangeOld
import Derived.Below
import Derived.Deep.SlicePairs
namespace Go.Proofs.Qxb6614379a.fnStacks
open Go.ChangeShapes Go.WideShapes Go.ChangeAt Go.RowKit
open Go.ChangeMaps (open_string shut_string)
set_option linter.unusedVariables false
set_option linter.unusedSimpArgs false

theorem own : ownKnob Try.prog.godebug = none := by kernel_rfl
theorem laidOut : laidOutB Try.prog = true := by kernel_rfl
theorem cells29 : Try.prog.cellsOf 29 = 2 := by kernel_rfl
theorem cells9 : Try.prog.cellsOf 9 = 1 := by kernel_rfl
theorem cells4 : Try.prog.cellsOf 4 = 1 := by kernel_rfl

set_option maxRecDepth 100000 in
set_option maxHeartbeats 1000000 in
theorem long (a : Option Addr) (cap : Nat) (xs : List Pu) (u : ByteArray) (w : World) (hx : xs.length ≤ maxLen) (hus : u.size ≤ maxLen) (hrow : PushesAt w a xs) (hl : 1024 < xs.length ∨ 65536 < u.size) :
    Calls Try.prog 3 #[.slice a xs.length cap, .string u] w fun e w' => e = .returned (.bool true) ∧ w' = w := by
  have h17 := bytes9 a cap xs u w hx hrow
  clear hrow
  unfold maxLen at hx hus
  by_cases hn : xs.length ≤ 1024
  · have hu : 65536 < u.size := by omega
    clear hl
    go_enter Try.func3, Try.ntmps3
    go_wp2_with fail
    refine h17.mono ?_
    rintro e w' ⟨⟨b, rfl⟩, hw⟩
    obtain rfl := hw.symm
    clear h17
    cases b with
    | false =>
      go_wp2
      go_ret
      exact ⟨rfl, rfl⟩
    | true =>
      go_wp2
      go_ret
      exact ⟨rfl, rfl⟩
  · clear hl
    go_enter Try.func3, Try.ntmps3
    go_wp2_with fail
    refine h17.mono ?_
    rintro e w' ⟨⟨b, rfl⟩, hw⟩
    obtain rfl := hw.symm
    clear h17
    cases b with
    | false =>
      go_wp2
      go_ret
      exact ⟨rfl, rfl⟩
    | true =>
      go_wp2
      go_ret
      exact ⟨rfl, rfl⟩

theorem walk (a : Option Addr) (cap : Nat) (xs : List Pu) (u : ByteArray) (w : World) (hx : xs.length ≤ maxLen) (hus : u.size ≤ maxLen) (hrow : PushesAt w a xs) :
    Calls Try.prog 3 #[.slice a xs.length cap, .string u] w fun e w' => e = .returned (.bool true) ∧ Below w.heap.size w w' := by
  by_cases hl : 1024 < xs.length ∨ 65536 < u.size
  · exact (long a cap xs u w hx hus hrow hl).mono fun e w' ⟨he, hw⟩ => ⟨he, by subst hw; exact Below.refl _ _⟩
  · exact stacks_main a cap xs u w hx hus hrow (by omega) (by omega)

def strOf : Value → ByteArray | .string s => s | _ => ByteArray.empty

/-- what the reading of the steps tells the walk -/
theorem rows_of {H : Type} {enc : TypeId × Value → H} {W : World} {base : Nat} {spare : Nat → Bool} {held : Bool} {a : Option Addr} {len cap fuel : Nat} {x : DataW H × List MemPlace}
    (h : DataW.trod enc Try.prog W base spare held fuel 22 [.slice a len cap] = some x) :
    ∃ xs : List Pu, xs.length = len ∧ len ≤ maxLen ∧ PushesAt W a xs := by
  rcases Go.Deep.open_slice_pairs Try.underlying22 Try.underlying29 cells29 rfl rfl cells9 cells9 h with ⟨hcs, _⟩ | ⟨b, len', cap', m, n, V0, V1, D0, D1, P0, P1, hcs, _, hl, hm, hmm, _, hx⟩
  · simp at hcs
    obtain ⟨rfl, rfl, rfl⟩ := hcs
    exact ⟨[], rfl, by unfold maxLen; omega, .inl rfl⟩
  · simp at hcs
    obtain ⟨rfl, rfl, rfl⟩ := hcs
    have hlm : len ≤ m := by rw [hmm]; split <;> omega
    have each : ∀ i, i < len → V0 i = .string (strOf (V0 i)) ∧ V1 i = .string (strOf (V1 i)) := fun i hi => by
      obtain ⟨_, _, t0, t1⟩ := hx i (by omega)
      obtain ⟨n0, e0, _⟩ := DataW.trod_string Try.underlying9 t0
      obtain ⟨n1, e1, _⟩ := DataW.trod_string Try.underlying9 t1
      simp at e0 e1
      rw [e0, e1]
      exact ⟨rfl, rfl⟩
    have hget : ∀ i, i < len → ((List.range len).map fun i => (strOf (V0 i), strOf (V1 i))).getD i (ByteArray.empty, ByteArray.empty) = (strOf (V0 i), strOf (V1 i)) := fun i hi => by
      simp [List.getD, hi]
    refine ⟨(List.range len).map fun i => (strOf (V0 i), strOf (V1 i)), by simp, by omega, ?_⟩
    by_cases h0 : len = 0
    · left; simp [h0]
    · right
      obtain ⟨c0, _, _, _⟩ := hx 0 (by omega)
      have hsp : b.spot = none := by
        simp only [Nat.zero_mul, Addr.add, if_true] at c0
        unfold World.cell? at c0
        split at c0
        · split at c0
          · cases c0
          · rename_i hh; simpa using hh
        · cases c0
      obtain ⟨bb, bo, bs⟩ := b
      simp only at hsp
      subst hsp
      refine ⟨bb, bo, rfl, World.block_lt_of_cell? W _ c0, fun i hi => ?_⟩
      simp only [List.length_map, List.length_range] at hi
      obtain ⟨k0, k1, _, _⟩ := hx i (by omega)
      obtain ⟨e0, e1⟩ := each i hi
      unfold px ur
      rw [hget i hi, ← e0, ← e1]
      refine ⟨?_, ?_⟩
      · rw [← k0, add_plain]
      · rw [← k1, add_plain, Nat.add_assoc]

/-! ### The row's step -/
set_option maxRecDepth 100000 in
theorem lifted (os : Os) (started : os.Started) (H : Type) (enc : TypeId × Value → H) :
    ReturnsInHanded {} Try.checked os 3 .any (Rows.fnResolverStacksFollowPushesSpec.pre6 enc Try.prog Try.f3 Rows.fnResolverStacksFollowPushesRow.domain false) (Rows.fnResolverStacksFollowPushesSpec.post enc Try.prog Try.f3 false true false false) := by
  refine returnsInHanded_of_change (C := Try.checked) own started (by kernel_rfl) Try.func3
    (ChangeSpec.witness6 (enc := enc) (C := Try.checked) false ⟨#[], #[.slice none 0 0, .string ⟨#[]⟩], []⟩ 8 (by kernel_rfl) (by kernel_rfl) (by kernel_rfl) (by kernel_rfl)) ?_
  intro W base args ds gs before hval0 hW hcnd _
  have hval : ∀ (j : Nat) t v, Try.f3.params[j]? = some t → args[j]? = some v → Value.okWide Try.prog W .any base t v := hval0
  have hW' := hW
  obtain ⟨p, q, hA0, hV, rfl, hfz, hnd⟩ := hW
  have hA : DataW.TrodAll enc Try.prog W 0 (fun _ => true) true Try.f3.params.toList args.toList ds p := hA0
  rw [Try.params3] at hA hval
  obtain ⟨v0, vs0, d0, ds0, p0, q0, hargs, rfl, rfl, h0, r0⟩ := trodAll_cons hA
  obtain ⟨v1, vs1, d1, ds1, p1, q1, rfl, rfl, rfl, h1, r1⟩ := trodAll_cons r0
  obtain ⟨rfl, rfl, rfl⟩ := trodAll_nil r1
  obtain rfl : args = #[v0, v1] := by cases args; simp_all
  obtain ⟨rfl, rfl⟩ := trodVars_none hV
  obtain ⟨a0, len0, cap0, rfl⟩ := okWide_slice Try.underlying22 (hval 0 22 v0 rfl rfl)
  obtain ⟨s1, rfl, rfl, rfl, hs1⟩ := open_string Try.underlying9 (hval 1 9 v1 rfl rfl) h1
  have k0 := h0
  have lt0 : ∀ x ∈ p0, x.block < W.heap.size := by obtain ⟨m, hm⟩ := k0; exact DataW.trod_lt m _ _ _ hm
  obtain ⟨xs, hxl, hml, hrow⟩ : ∃ xs : List Pu, xs.length = len0 ∧ len0 ≤ maxLen ∧ PushesAt W a0 xs := by
    obtain ⟨fuel, hf⟩ := h0
    exact rows_of (by simpa [Value.cells] using hf)
  subst hxl
  clear hA0 hval0
  refine (walk a0 cap0 xs s1 W hml hs1 hrow).mono fun e W' ⟨he, bel⟩ => ?_
  subst he
  exact ⟨_, rfl, _, _, _, [], _, [], hW', trodAll_mk1 (shut_bool Try.underlying4 _), (trodAll_cons_mk (Below.trod laidOut (by kernel_rfl) (of_decide_eq_true (by kernel_rfl)) k0 bel lt0) (trodAll_cons_mk (shut_string Try.underlying9 hs1) trodAll_mk0)), rfl, bel.frame _, fun h => by cases h⟩

theorem over : Rows.fnResolverStacksFollowPushesRow.holds Try.pinned (OpenSpec.ofChange Rows.fnResolverStacksFollowPushesSpec) :=
  OpenClaim.holds_of_wide 3 Try.f3 rfl rfl rfl rfl rfl rfl rfl ⟨rfl, rfl, rfl, rfl, rfl⟩ rfl rfl rfl rfl rfl (by kernel_rfl) Try.func3 (by kernel_rfl)
    (of_decide_eq_true (by kernel_rfl)) (by unfold Func.isWrapper; first | (rw [if_pos (by decide +kernel)]; kernel_rfl) | (rw [if_neg (by decide +kernel)]; exact ⟨rfl, rfl⟩))
    (fun os started H enc _ => lifted os started H enc)

/-- THE STATEMENT -/
theorem proved : Rows.FnResolverStacksFollowPushesSaid := over
end Go.Proofs.Qxb6614379a.fnStacks
