import Derived.Test.Qxb6605732aBack
import Derived.Deep.SlicePairs
import Derived.ProofKit
import Derived.OpenShut
import Derived.ShutString
import Derived.ChangeOld
import Derived.Below
namespace Go.Proofs.Qxb6605732a.fnLenencBytesReadsWhatAppendWrote
open Go.ChangeShapes Go.WideShapes Go.ChangeAt Go.RowKit
open Go.ChangeMaps (open_string shut_string)
set_option linter.unusedVariables false
set_option linter.unusedSimpArgs false

theorem own : ownKnob Try.prog.godebug = none := by kernel_rfl
theorem laidOut : laidOutB Try.prog = true := by kernel_rfl

/-- WHAT THE WALK IS TOLD OF A SLICE OF INTEGERS THAT CAME IN: it is nil; or it leads to a row of 'cap' cells, the numbers 'zs' (the first 'len' are its elements, the rest its spare room), each fitting its kind. -/
def IsRow (k : IntKind) (w : World) (a : Option Addr) (len cap : Nat) (zs : List Int) : Prop :=
  (a = none ∧ len = 0 ∧ cap = 0 ∧ zs = []) ∨
  ∃ x, a = some x ∧ len ≤ cap ∧ cap ≤ maxLen ∧ zs.length = cap ∧ (∀ i, i < zs.length → w.cell? (x.add i) = some (.int k (zs.getD i 0))) ∧ ∀ n ∈ zs, (Lit.int k n).wf = true

theorem arg_of {w : World} {a : Option Addr} {len cap : Nat} {zs : List Int} (h : IsRow .u8 w a len cap zs) : len ≤ maxLen ∧ ∃ l : List UInt8, l.length = len ∧ ArgAt w a len l := by
  rcases h with ⟨rfl, rfl, rfl, rfl⟩ | ⟨x, rfl, hl, hm, hz, hc, hw⟩
  · exact ⟨by unfold maxLen; omega, [], rfl, rfl, fun _ => rfl, .inl rfl⟩
  · refine ⟨by omega, (zs.take len).map (fun z => z.toNat.toUInt8), by rw [List.length_map, List.length_take]; omega, by rw [List.length_map, List.length_take]; omega, (fun h => by cases h), ?_⟩
    by_cases h0 : len = 0
    · exact .inl h0
    right
    have c0 := hc 0 (by omega)
    have hsp : x.spot = none := by
      simp only [Addr.add, if_true] at c0
      unfold World.cell? at c0
      split at c0
      · split at c0
        · cases c0
        · rename_i hh; simpa using hh
      · cases c0
    obtain ⟨bb, bo, bs⟩ := x
    simp only at hsp
    subst hsp
    refine ⟨bb, bo, rfl, World.block_lt_of_cell? w _ c0, fun i hi => ?_⟩
    have ci := hc i (by omega)
    rw [add_plain] at ci
    rw [ci]
    have hw' := hw (zs.getD i 0) (by
      simp only [List.getD, List.getElem?_eq_getElem (by omega : i < zs.length), Option.getD_some]
      exact List.getElem_mem _)
    have wfb : ∀ z : Int, (Lit.int .u8 z).wf = true → 0 ≤ z ∧ z ≤ 255 := fun z hz => by
      simp [Lit.wf, IntKind.min, IntKind.max, IntKind.bits, IntKind.signed] at hz
      omega
    have hb := wfb _ hw'
    have hg : ((zs.take len).map (fun z => z.toNat.toUInt8)).getD i 0 = (zs.getD i 0).toNat.toUInt8 := by
      have h1 : i < zs.length := by omega
      simp [List.getD, List.getElem?_take, hi, List.getElem?_eq_getElem h1]
    rw [hg]
    congr 2
    have : (zs.getD i 0).toNat < 256 := by omega
    rw [Nat.toUInt8, UInt8.toNat_ofNat', Nat.mod_eq_of_lt (by omega)]
    omega

def RetBool (e : Ending) : Prop := ∃ b, e = .returned (.bool b)

set_option maxRecDepth 100000 in
set_option maxHeartbeats 1000000 in
theorem chk13 (s t : ByteArray) (a : Option Addr) (n cap : Nat) (w : World) (h1 : s.size ≤ maxLen) (h2 : t.size ≤ maxLen) (hn : n ≤ maxLen) :
    Calls Try.prog 13 #[.string s, .string t, .slice a n cap] w fun e w' => RetBool e ∧ w' = w := by
  unfold maxLen at h1 h2 hn
  go_enter Try.func13, Try.ntmps13
  go_wp2
  all_goals
    go_ret
    exact ⟨⟨_, rfl⟩, rfl⟩

set_option maxRecDepth 100000 in
set_option maxHeartbeats 1000000 in
theorem long (s t : ByteArray) (a : Option Addr) (n cap : Nat) (w : World) (h1 : s.size ≤ maxLen) (h2 : t.size ≤ maxLen) (hn : n ≤ maxLen) (hl : 262144 < s.size ∨ (s.size ≤ 262144 ∧ (262144 < t.size ∨ (t.size ≤ 262144 ∧ 262144 < n)))) :
    Calls Try.prog 4 #[.string s, .string t, .slice a n cap] w fun e w' => e = .returned (.bool true) ∧ w' = w := by
  have hc := chk13 s t a n cap w h1 h2 hn
  unfold maxLen at h1 h2 hn
  rcases hl with hl | ⟨hl', hl | ⟨hl'', hl⟩⟩
  all_goals
    go_enter Try.func4, Try.ntmps4
    go_wp2_with fail
    refine hc.mono ?_
    rintro e w' ⟨⟨b, rfl⟩, hw⟩
    obtain rfl := hw.symm
    clear hc
    cases b with
    | false =>
      go_wp2
      go_ret
      exact ⟨rfl, rfl⟩
    | true =>
      go_wp2
      go_ret
      exact ⟨rfl, rfl⟩

theorem walk (a0 : ByteArray) (a1 : ByteArray) (a2 : Option Addr) (len2 cap2 : Nat) (z2 : List Int) (w : World) (w0 : a0.size ≤ maxLen) (w1 : a1.size ≤ maxLen) (w2 : IsRow .u8 w a2 len2 cap2 z2) :
    Calls Try.prog 4 #[.string a0, .string a1, .slice a2 len2 cap2] w fun e w' => e = .returned (.bool true) ∧ Below w.heap.size w w' := by
  obtain ⟨hlm, l, rfl, hl⟩ := arg_of w2
  by_cases hs : 262144 < a0.size ∨ (a0.size ≤ 262144 ∧ (262144 < a1.size ∨ (a1.size ≤ 262144 ∧ 262144 < l.length)))
  · exact (long a0 a1 a2 _ cap2 w w0 w1 hlm hs).mono fun e w' ⟨he, hw⟩ => ⟨he, by subst hw; exact Below.refl _ _⟩
  · exact back_main a0 a1 a2 cap2 l w hl (by omega) (by omega) (by omega)

/-! ### The row's step -/
set_option maxRecDepth 100000 in
theorem lifted (os : Os) (started : os.Started) (H : Type) (enc : TypeId × Value → H) :
    ReturnsInHanded {} Try.checked os 4 .any (Rows.fnLenencBytesReadsWhatAppendWroteSpec.pre6 enc Try.prog Try.f4 Rows.fnLenencBytesReadsWhatAppendWroteRow.domain false) (Rows.fnLenencBytesReadsWhatAppendWroteSpec.post enc Try.prog Try.f4 false true false false) := by
  refine returnsInHanded_of_change (C := Try.checked) own started (by kernel_rfl) Try.func4
    (ChangeSpec.witness6 (enc := enc) (C := Try.checked) false ⟨#[], #[.string ByteArray.empty, .string ByteArray.empty, .slice none 0 0], []⟩ 8 (by kernel_rfl) (by kernel_rfl) (by kernel_rfl) (by kernel_rfl)) ?_
  intro W base args ds gs before hval0 hW hcnd _
  have hval : ∀ (j : Nat) t v, Try.f4.params[j]? = some t → args[j]? = some v → Value.okWide Try.prog W .any base t v := hval0
  have hW' := hW
  obtain ⟨p, q, hA0, hV, rfl, hfz, hnd⟩ := hW
  have hA : DataW.TrodAll enc Try.prog W 0 (fun _ => true) true Try.f4.params.toList args.toList ds p := hA0
  rw [Try.params4] at hA hval
  obtain ⟨v0, vs0, d0, ds0, p0, q0, hargs, rfl, rfl, h0, r0⟩ := trodAll_cons hA
  obtain ⟨v1, vs1, d1, ds1, p1, q1, rfl, rfl, rfl, h1, r1⟩ := trodAll_cons r0
  obtain ⟨v2, vs2, d2, ds2, p2, q2, rfl, rfl, rfl, h2, r2⟩ := trodAll_cons r1
  obtain ⟨rfl, rfl, rfl⟩ := trodAll_nil r2
  obtain rfl : args = #[v0, v1, v2] := by cases args; simp_all
  obtain ⟨rfl, rfl⟩ := trodVars_none hV
  obtain ⟨a0, rfl, rfl, rfl, w0⟩ := open_string Try.underlying9 (hval 0 9 v0 rfl rfl) h0
  obtain ⟨a1, rfl, rfl, rfl, w1⟩ := open_string Try.underlying9 (hval 1 9 v1 rfl rfl) h1
  obtain ⟨a2, len2, cap2, rfl⟩ := okWide_slice Try.underlying22 (hval 2 22 v2 rfl rfl)
  have k2 := h2
  have lt2 : ∀ x ∈ p2, x.block < W.heap.size := by obtain ⟨m, hm⟩ := k2; exact DataW.trod_lt m _ _ _ hm
  obtain ⟨z2, w2⟩ : ∃ zs, IsRow .u8 W a2 len2 cap2 zs := by
    obtain ⟨fuel, hf⟩ := h2
    rcases open_ints Try.underlying22 Try.underlying5 (by kernel_rfl) hf with ⟨hcs, _⟩ | ⟨x, l, c, zs, hcs, _, hl, hm, hz, _, hcell, hwz⟩
    · simp [Value.cells] at hcs
      obtain ⟨rfl, rfl, rfl⟩ := hcs
      exact ⟨[], .inl ⟨rfl, rfl, rfl, rfl⟩⟩
    · simp [Value.cells] at hcs
      obtain ⟨rfl, rfl, rfl⟩ := hcs
      exact ⟨zs, .inr ⟨_, rfl, hl, hm, by simpa using hz, hcell, hwz⟩⟩
  clear hA0 hval0
  refine (walk a0 a1 a2 len2 cap2 z2 W w0 w1 w2).mono fun e W' ⟨he, bel⟩ => ?_
  subst he
  exact ⟨_, rfl, _, _, _, [], _, [], hW', trodAll_mk1 (shut_bool Try.underlying4 _), (trodAll_cons_mk (shut_string Try.underlying9 w0) (trodAll_cons_mk (shut_string Try.underlying9 w1) (trodAll_cons_mk (Below.trod laidOut (by kernel_rfl) (of_decide_eq_true (by kernel_rfl)) k2 bel lt2) trodAll_mk0))), rfl, bel.frame _, fun h => by cases h⟩

theorem over : Rows.fnLenencBytesReadsWhatAppendWroteRow.holds Try.pinned (OpenSpec.ofChange Rows.fnLenencBytesReadsWhatAppendWroteSpec) :=
  OpenClaim.holds_of_wide 4 Try.f4 rfl rfl rfl rfl rfl rfl rfl ⟨rfl, rfl, rfl, rfl, rfl⟩ rfl rfl rfl rfl rfl (by kernel_rfl) Try.func4 (by kernel_rfl)
    (of_decide_eq_true (by kernel_rfl)) (by unfold Func.isWrapper; first | (rw [if_pos (by decide +kernel)]; kernel_rfl) | (rw [if_neg (by decide +kernel)]; exact ⟨rfl, rfl⟩))
    (fun os started H enc _ => lifted os started H enc)

/-- THE STATEMENT -/
theorem proved : Rows.FnLenencBytesReadsWhatAppendWroteSaid := over
end Go.Proofs.Qxb6605732a.fnLenencBytesReadsWhatAppendWrote
