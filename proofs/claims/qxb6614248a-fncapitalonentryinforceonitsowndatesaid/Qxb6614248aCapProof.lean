import Derived.Test.Qxb6614248aShort
import Derived.WalkKit
import Derived.ProofKit
import Derived.OpenShut
import Derived.ShutString
import Derived.ChangeOld
import Derived.Below
import Derived.Deep.SlicePairs
namespace Go.Proofs.Qxb6614248a.fnCapital
open Go.ChangeShapes Go.WideShapes Go.ChangeAt Go.RowKit
open Go.ChangeMaps (open_string shut_string)
set_option linter.unusedVariables false
set_option linter.unusedSimpArgs false

theorem own : ownKnob Try.prog.godebug = none := by kernel_rfl
theorem laidOut : laidOutB Try.prog = true := by kernel_rfl
theorem cells47 : Try.prog.cellsOf 47 = 2 := by kernel_rfl
theorem cells2 : Try.prog.cellsOf 2 = 1 := by kernel_rfl

/-- The walk, of whatever rows: it returns true and writes nothing that was there. -/
theorem walk (s1 s2 : ByteArray) (a : Option Addr) (cap : Nat) (xs : List (Int × Int)) (day : Int) (w : World) (h1 : s1.size ≤ maxLen) (h2 : s2.size ≤ maxLen) (h3 : xs.length ≤ maxLen)
    (hrow : RowsAt w a xs) (hnil : a = none → xs = []) (hr : ∀ i, -9223372036854775808 ≤ (xs.getD i (0, 0)).1 ∧ (xs.getD i (0, 0)).1 < 9223372036854775808)
    (hd0 : -9223372036854775808 ≤ day) (hd1 : day < 9223372036854775808) :
    Calls Try.prog 4 #[.string s1, .string s2, .slice a xs.length cap, .int .i64 day] w fun e w' => e = .returned (.bool true) ∧ Below w.heap.size w w' := by
  by_cases hl : ¬ (s1.size + s2.size + xs.length ≤ 1048576) ∨ 65536 < xs.length ∨ 1048576 < s1.size + s2.size + 16 * xs.length
  · exact (main_long s1 s2 a xs.length cap day w h1 h2 h3 hl).mono fun e w' ⟨he, hw⟩ => ⟨he, by subst hw; exact Below.refl _ _⟩
  · exact main_short s1 s2 a cap xs day w h1 h2 hrow hnil hr hd0 hd1 (by omega) (by omega) (by omega)

/-- what the reading of the rows tells the walk -/
theorem rows_of {H : Type} {enc : TypeId × Value → H} {W : World} {base : Nat} {spare : Nat → Bool} {held : Bool} {a : Option Addr} {len cap fuel : Nat} {x : DataW H × List MemPlace}
    (h : DataW.trod enc Try.prog W base spare held fuel 27 [.slice a len cap] = some x) :
    ∃ xs : List (Int × Int), xs.length = len ∧ len ≤ maxLen ∧ RowsAt W a xs ∧ (a = none → xs = []) ∧ ∀ i, -9223372036854775808 ≤ (xs.getD i (0, 0)).1 ∧ (xs.getD i (0, 0)).1 < 9223372036854775808 := by
  rcases Go.Deep.open_slice_pairs Try.underlying27 Try.underlying47 cells47 rfl rfl cells2 cells2 h with ⟨hcs, _⟩ | ⟨b, len', cap', m, n, V0, V1, D0, D1, P0, P1, hcs, _, hl, hm, hmm, _, hx⟩
  · simp at hcs
    obtain ⟨rfl, rfl, rfl⟩ := hcs
    exact ⟨[], rfl, by unfold maxLen; omega, .inl rfl, fun _ => rfl, fun i => by simp⟩
  · simp at hcs
    obtain ⟨rfl, rfl, rfl⟩ := hcs
    have hlm : len ≤ m := by rw [hmm]; split <;> omega
    have each : ∀ i, i < len → V0 i = .int .i64 (intOf (V0 i)) ∧ V1 i = .int .i64 (intOf (V1 i)) ∧ -9223372036854775808 ≤ intOf (V0 i) ∧ intOf (V0 i) ≤ 9223372036854775807 := fun i hi => by
      obtain ⟨_, _, t0, t1⟩ := hx i (by omega)
      obtain ⟨n0, e0, _, w0⟩ := DataW.trod_int Try.underlying2 t0
      obtain ⟨n1, e1, _, w1⟩ := DataW.trod_int Try.underlying2 t1
      simp at e0 e1
      rw [e0, e1]
      have := bounds_i64 w0
      exact ⟨rfl, rfl, this.1, this.2⟩
    have hget : ∀ i, i < len → ((List.range len).map fun i => (intOf (V0 i), intOf (V1 i))).getD i (0, 0) = (intOf (V0 i), intOf (V1 i)) := fun i hi => by
      simp [List.getD, hi]
    refine ⟨(List.range len).map fun i => (intOf (V0 i), intOf (V1 i)), by simp, by omega, ?_, fun h => (by cases h), fun i => ?_⟩
    · by_cases h0 : len = 0
      · left; simp [h0]
      · right
        obtain ⟨c0, _, _, _⟩ := hx 0 (by omega)
        have hsp : b.spot = none := by
          simp only [Nat.zero_mul, Addr.add, if_true] at c0
          unfold World.cell? at c0
          split at c0
          · split at c0
            · cases c0
            · rename_i hh; simpa using hh
          · cases c0
        obtain ⟨bb, bo, bs⟩ := b
        simp only at hsp
        subst hsp
        refine ⟨bb, bo, rfl, World.block_lt_of_cell? W _ c0, fun i hi => ?_⟩
        simp only [List.length_map, List.length_range] at hi
        obtain ⟨k0, k1, _, _⟩ := hx i (by omega)
        obtain ⟨e0, e1, _, _⟩ := each i hi
        rw [hget i hi, ← e0, ← e1]
        refine ⟨?_, ?_⟩
        · rw [← k0, add_plain]
        · rw [← k1, add_plain, Nat.add_assoc]
    · by_cases hi : i < len
      · rw [hget i hi]
        obtain ⟨_, _, b0, b1⟩ := each i hi
        exact ⟨b0, by show intOf (V0 i) < _; omega⟩
      · simp [List.getD, hi]

/-! ### The row's step -/
set_option maxRecDepth 100000 in
theorem lifted (os : Os) (started : os.Started) (H : Type) (enc : TypeId × Value → H) :
    ReturnsInHanded {} Try.checked os 4 .any (Rows.fnCapitalOnEntryInForceOnItsOwnDateSpec.pre6 enc Try.prog Try.f4 Rows.fnCapitalOnEntryInForceOnItsOwnDateRow.domain false) (Rows.fnCapitalOnEntryInForceOnItsOwnDateSpec.post enc Try.prog Try.f4 false true false false) := by
  refine returnsInHanded_of_change (C := Try.checked) own started (by kernel_rfl) Try.func4
    (ChangeSpec.witness6 (enc := enc) (C := Try.checked) false ⟨#[], #[.string ⟨#[]⟩, .string ⟨#[]⟩, .slice none 0 0, .int .i64 0], []⟩ 8 (by kernel_rfl) (by kernel_rfl) (by kernel_rfl) (by kernel_rfl)) ?_
  intro W base args ds gs before hval0 hW hcnd _
  have hval : ∀ (j : Nat) t v, Try.f4.params[j]? = some t → args[j]? = some v → Value.okWide Try.prog W .any base t v := hval0
  have hW' := hW
  obtain ⟨p, q, hA0, hV, rfl, hfz, hnd⟩ := hW
  have hA : DataW.TrodAll enc Try.prog W 0 (fun _ => true) true Try.f4.params.toList args.toList ds p := hA0
  rw [Try.params4] at hA hval
  obtain ⟨v0, vs0, d0, ds0, p0, q0, hargs, rfl, rfl, h0, r0⟩ := trodAll_cons hA
  obtain ⟨v1, vs1, d1, ds1, p1, q1, rfl, rfl, rfl, h1, r1⟩ := trodAll_cons r0
  obtain ⟨v2, vs2, d2, ds2, p2, q2, rfl, rfl, rfl, h2, r2⟩ := trodAll_cons r1
  obtain ⟨v3, vs3, d3, ds3, p3, q3, rfl, rfl, rfl, h3, r3⟩ := trodAll_cons r2
  obtain ⟨rfl, rfl, rfl⟩ := trodAll_nil r3
  obtain rfl : args = #[v0, v1, v2, v3] := by cases args; simp_all
  obtain ⟨rfl, rfl⟩ := trodVars_none hV
  obtain ⟨s1, rfl, rfl, rfl, hs1⟩ := open_string Try.underlying9 (hval 0 9 v0 rfl rfl) h0
  obtain ⟨s2, rfl, rfl, rfl, hs2⟩ := open_string Try.underlying9 (hval 1 9 v1 rfl rfl) h1
  obtain ⟨a2, len2, cap2, rfl⟩ := okWide_slice Try.underlying27 (hval 2 27 v2 rfl rfl)
  obtain ⟨day, rfl, rfl, rfl, wday⟩ := open_int Try.underlying2 (hval 3 2 v3 rfl rfl) h3
  have k2 := h2
  have lt2 : ∀ x ∈ p2, x.block < W.heap.size := by obtain ⟨m, hm⟩ := k2; exact DataW.trod_lt m _ _ _ hm
  obtain ⟨xs, hxl, hml, hrow, hnil, hr⟩ : ∃ xs : List (Int × Int), xs.length = len2 ∧ len2 ≤ maxLen ∧ RowsAt W a2 xs ∧ (a2 = none → xs = []) ∧ ∀ i, -9223372036854775808 ≤ (xs.getD i (0, 0)).1 ∧ (xs.getD i (0, 0)).1 < 9223372036854775808 := by
    obtain ⟨fuel, hf⟩ := h2
    exact rows_of (by simpa [Value.cells] using hf)
  subst hxl
  have bday := bounds_i64 wday
  clear hA0 hval0
  refine (walk s1 s2 a2 cap2 xs day W hs1 hs2 hml hrow hnil hr bday.1 (by omega)).mono fun e W' ⟨he, bel⟩ => ?_
  subst he
  exact ⟨_, rfl, _, _, _, [], _, [], hW', trodAll_mk1 (shut_bool Try.underlying4 _), (trodAll_cons_mk (shut_string Try.underlying9 hs1) (trodAll_cons_mk (shut_string Try.underlying9 hs2) (trodAll_cons_mk (Below.trod laidOut (by kernel_rfl) (of_decide_eq_true (by kernel_rfl)) k2 bel lt2) (trodAll_cons_mk (shut_int Try.underlying2 wday) trodAll_mk0)))), rfl, bel.frame _, fun h => by cases h⟩

theorem over : Rows.fnCapitalOnEntryInForceOnItsOwnDateRow.holds Try.pinned (OpenSpec.ofChange Rows.fnCapitalOnEntryInForceOnItsOwnDateSpec) :=
  OpenClaim.holds_of_wide 4 Try.f4 rfl rfl rfl rfl rfl rfl rfl ⟨rfl, rfl, rfl, rfl, rfl⟩ rfl rfl rfl rfl rfl (by kernel_rfl) Try.func4 (by kernel_rfl)
    (of_decide_eq_true (by kernel_rfl)) (by unfold Func.isWrapper; first | (rw [if_pos (by decide +kernel)]; kernel_rfl) | (rw [if_neg (by decide +kernel)]; exact ⟨rfl, rfl⟩))
    (fun os started H enc _ => lifted os started H enc)

/-- THE STATEMENT -/
theorem proved : Rows.FnCapitalOnEntryInForceOnItsOwnDateSaid := over
end Go.Proofs.Qxb6614248a.fnCapital
