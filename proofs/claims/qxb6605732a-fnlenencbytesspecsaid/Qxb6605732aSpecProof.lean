import Derived.Test.Qxb6605732aSpecMain
import Derived.Deep.SlicePairs
import Derived.ProofKit
import Derived.OpenShut
import Derived.ShutString
import Derived.ChangeOld
import Derived.Below
namespace Go.Proofs.Qxb6605732a.fnLenencBytesSpec
open Go.ChangeShapes Go.WideShapes Go.ChangeAt Go.RowKit
open Go.ChangeMaps (open_string shut_string)
set_option linter.unusedVariables false
set_option linter.unusedSimpArgs false

theorem own : ownKnob Try.prog.godebug = none := by kernel_rfl
theorem laidOut : laidOutB Try.prog = true := by kernel_rfl

/-- WHAT THE WALK IS TOLD OF A SLICE OF INTEGERS THAT CAME IN: it is nil; or it leads to a row of 'cap' cells, the numbers 'zs' (the first 'len' are its elements, the rest its spare room), each fitting its kind. -/
def IsRow (k : IntKind) (w : World) (a : Option Addr) (len cap : Nat) (zs : List Int) : Prop :=
  (a = none ∧ len = 0 ∧ cap = 0 ∧ zs = []) ∨
  ∃ x, a = some x ∧ len ≤ cap ∧ cap ≤ maxLen ∧ zs.length = cap ∧ (∀ i, i < zs.length → w.cell? (x.add i) = some (.int k (zs.getD i 0))) ∧ ∀ n ∈ zs, (Lit.int k n).wf = true

theorem arg_of {w : World} {a : Option Addr} {len cap : Nat} {zs : List Int} (h : IsRow .u8 w a len cap zs) : len ≤ maxLen ∧ ∃ l : List UInt8, l.length = len ∧ ArgAt w a len l := by
  rcases h with ⟨rfl, rfl, rfl, rfl⟩ | ⟨x, rfl, hl, hm, hz, hc, hw⟩
  · exact ⟨by unfold maxLen; omega, [], rfl, rfl, fun _ => rfl, .inl rfl⟩
  · refine ⟨by omega, (zs.take len).map (fun z => z.toNat.toUInt8), by rw [List.length_map, List.length_take]; omega, by rw [List.length_map, List.length_take]; omega, (fun h => by cases h), ?_⟩
    by_cases h0 : len = 0
    · exact .inl h0
    right
    have c0 := hc 0 (by omega)
    have hsp : x.spot = none := by
      simp only [Addr.add, if_true] at c0
      unfold World.cell? at c0
      split at c0
      · split at c0
        · cases c0
        · rename_i hh; simpa using hh
      · cases c0
    obtain ⟨bb, bo, bs⟩ := x
    simp only at hsp
    subst hsp
    refine ⟨bb, bo, rfl, World.block_lt_of_cell? w _ c0, fun i hi => ?_⟩
    have ci := hc i (by omega)
    rw [add_plain] at ci
    rw [ci]
    have hw' := hw (zs.getD i 0) (by
      simp only [List.getD, List.getElem?_eq_getElem (by omega : i < zs.length), Option.getD_some]
      exact List.getElem_mem _)
    have wfb : ∀ z : Int, (Lit.int .u8 z).wf = true → 0 ≤ z ∧ z ≤ 255 := fun z hz => by
      simp [Lit.wf, IntKind.min, IntKind.max, IntKind.bits, IntKind.signed] at hz
      omega
    have hb := wfb _ hw'
    have hg : ((zs.take len).map (fun z => z.toNat.toUInt8)).getD i 0 = (zs.getD i 0).toNat.toUInt8 := by
      have h1 : i < zs.length := by omega
      simp [List.getD, List.getElem?_take, hi, List.getElem?_eq_getElem h1]
    rw [hg]
    congr 2
    have : (zs.getD i 0).toNat < 256 := by omega
    rw [Nat.toUInt8, UInt8.toNat_ofNat', Nat.mod_eq_of_lt (by omega)]
    omega

set_option maxRecDepth 100000 in
set_option maxHeartbeats 1000000 in
theorem long (a : Option Addr) (n cap : Nat) (ok : Bool) (w : World) (hm : 1048576 < n) (hn : n ≤ maxLen) :
    Calls Try.prog 3 #[.slice a n cap, .bool ok] w fun e w' => e = .returned (.bool true) ∧ w' = w := by
  unfold maxLen at hn
  go_enter Try.func3, Try.ntmps3
  go_wp2
  go_ret
  exact ⟨rfl, rfl⟩

theorem walk (a0 : Option Addr) (len0 cap0 : Nat) (z0 : List Int) (a1 : Bool) (w : World) (w0 : IsRow .u8 w a0 len0 cap0 z0) :
    Calls Try.prog 3 #[.slice a0 len0 cap0, .bool a1] w fun e w' => e = .returned (.bool true) ∧ Below w.heap.size w w' := by
  obtain ⟨hlm, l, rfl, hl⟩ := arg_of w0
  by_cases hs : 1048576 < l.length
  · exact (long a0 _ cap0 a1 w hs hlm).mono fun e w' ⟨he, hw⟩ => ⟨he, by subst hw; exact Below.refl _ _⟩
  · exact spec_main a0 cap0 l a1 w hl (by omega)

/-! ### The row's step -/
set_option maxRecDepth 100000 in
theorem lifted (os : Os) (started : os.Started) (H : Type) (enc : TypeId × Value → H) :
    ReturnsInHanded {} Try.checked os 3 .any (Rows.fnLenencBytesSpecSpec.pre6 enc Try.prog Try.f3 Rows.fnLenencBytesSpecRow.domain false) (Rows.fnLenencBytesSpecSpec.post enc Try.prog Try.f3 false true false false) := by
  refine returnsInHanded_of_change (C := Try.checked) own started (by kernel_rfl) Try.func3
    (ChangeSpec.witness6 (enc := enc) (C := Try.checked) false ⟨#[], #[.slice none 0 0, .bool false], []⟩ 8 (by kernel_rfl) (by kernel_rfl) (by kernel_rfl) (by kernel_rfl)) ?_
  intro W base args ds gs before hval0 hW hcnd _
  have hval : ∀ (j : Nat) t v, Try.f3.params[j]? = some t → args[j]? = some v → Value.okWide Try.prog W .any base t v := hval0
  have hW' := hW
  obtain ⟨p, q, hA0, hV, rfl, hfz, hnd⟩ := hW
  have hA : DataW.TrodAll enc Try.prog W 0 (fun _ => true) true Try.f3.params.toList args.toList ds p := hA0
  rw [Try.params3] at hA hval
  obtain ⟨v0, vs0, d0, ds0, p0, q0, hargs, rfl, rfl, h0, r0⟩ := trodAll_cons hA
  obtain ⟨v1, vs1, d1, ds1, p1, q1, rfl, rfl, rfl, h1, r1⟩ := trodAll_cons r0
  obtain ⟨rfl, rfl, rfl⟩ := trodAll_nil r1
  obtain rfl : args = #[v0, v1] := by cases args; simp_all
  obtain ⟨rfl, rfl⟩ := trodVars_none hV
  obtain ⟨a0, len0, cap0, rfl⟩ := okWide_slice Try.underlying22 (hval 0 22 v0 rfl rfl)
  have k0 := h0
  have lt0 : ∀ x ∈ p0, x.block < W.heap.size := by obtain ⟨m, hm⟩ := k0; exact DataW.trod_lt m _ _ _ hm
  obtain ⟨z0, w0⟩ : ∃ zs, IsRow .u8 W a0 len0 cap0 zs := by
    obtain ⟨fuel, hf⟩ := h0
    rcases open_ints Try.underlying22 Try.underlying5 (by kernel_rfl) hf with ⟨hcs, _⟩ | ⟨x, l, c, zs, hcs, _, hl, hm, hz, _, hcell, hwz⟩
    · simp [Value.cells] at hcs
      obtain ⟨rfl, rfl, rfl⟩ := hcs
      exact ⟨[], .inl ⟨rfl, rfl, rfl, rfl⟩⟩
    · simp [Value.cells] at hcs
      obtain ⟨rfl, rfl, rfl⟩ := hcs
      exact ⟨zs, .inr ⟨_, rfl, hl, hm, by simpa using hz, hcell, hwz⟩⟩
  obtain ⟨a1, rfl, rfl, rfl⟩ := open_bool Try.underlying4 (hval 1 4 v1 rfl rfl) h1
  clear hA0 hval0
  refine (walk a0 len0 cap0 z0 a1 W w0).mono fun e W' ⟨he, bel⟩ => ?_
  subst he
  exact ⟨_, rfl, _, _, _, [], _, [], hW', trodAll_mk1 (shut_bool Try.underlying4 _), (trodAll_cons_mk (Below.trod laidOut (by kernel_rfl) (of_decide_eq_true (by kernel_rfl)) k0 bel lt0) (trodAll_cons_mk (shut_bool Try.underlying4 _) trodAll_mk0)), rfl, bel.frame _, fun h => by cases h⟩

theorem over : Rows.fnLenencBytesSpecRow.holds Try.pinned (OpenSpec.ofChange Rows.fnLenencBytesSpecSpec) :=
  OpenClaim.holds_of_wide 3 Try.f3 rfl rfl rfl rfl rfl rfl rfl ⟨rfl, rfl, rfl, rfl, rfl⟩ rfl rfl rfl rfl rfl (by kernel_rfl) Try.func3 (by kernel_rfl)
    (of_decide_eq_true (by kernel_rfl)) (by unfold Func.isWrapper; first | (rw [if_pos (by decide +kernel)]; kernel_rfl) | (rw [if_neg (by decide +kernel)]; exact ⟨rfl, rfl⟩))
    (fun os started H enc _ => lifted os started H enc)

/-- THE STATEMENT -/
theorem proved : Rows.FnLenencBytesSpecSaid := over
end Go.Proofs.Qxb6605732a.fnLenencBytesSpec
