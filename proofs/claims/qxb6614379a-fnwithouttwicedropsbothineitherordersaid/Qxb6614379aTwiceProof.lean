import Derived.Test.Qxb6614379aTwice
import Derived.ProofKit
import Derived.OpenShut
import Derived.ShutString
import Derived.ChangeOld
import Derived.Below
import Derived.Deep.SlicePairs
namespace Go.Proofs.Qxb6614379a.fnTwice
open Go.ChangeShapes Go.WideShapes Go.ChangeAt Go.RowKit
open Go.ChangeMaps (open_string shut_string)
set_option linter.unusedVariables false
set_option linter.unusedSimpArgs false

theorem own : ownKnob Try.prog.godebug = none := by kernel_rfl
theorem laidOut : laidOutB Try.prog = true := by kernel_rfl
theorem cells61 : Try.prog.cellsOf 61 = 4 := by kernel_rfl
theorem cells9 : Try.prog.cellsOf 9 = 1 := by kernel_rfl


set_option maxRecDepth 100000 in
set_option maxHeartbeats 1000000 in
theorem long (wn : ByteArray) (la : Int) (u : ByteArray) (a : Option Addr) (cap : Nat) (xs : List At) (i j : Int) (w : World) (hrow : AttrsAt w a xs) (h1 : wn.size ≤ maxLen) (h2 : u.size ≤ maxLen) (hx : xs.length ≤ maxLen) (hl : 65536 < wn.size ∨ (wn.size ≤ 65536 ∧ (65536 < u.size ∨ (u.size ≤ 65536 ∧ 4096 < xs.length)))) :
    Calls Try.prog 7 #[.string wn, .int .i64 la, .string u, .slice a xs.length cap, .int .i64 i, .int .i64 j] w fun e w' => e = .returned (.bool true) ∧ Below w.heap.size w w' := by
  have h28 := bytes28 wn la u a cap xs i j w hrow h1 h2 hx
  clear hrow
  unfold maxLen at h1 h2 hx
  rcases hl with hl | ⟨hl', hl | ⟨hl'', hl⟩⟩
  all_goals
    go_enter Try.func7, Try.ntmps7
    go_wp2_with fail
    refine h28.mono ?_
    rintro e w' ⟨⟨b, rfl⟩, hw⟩
    obtain rfl := hw.symm
    clear h28
    cases b with
    | false =>
      go_wp2
      go_ret
      exact ⟨rfl, Below.refl _ _⟩
    | true =>
      go_wp2
      go_ret
      exact ⟨rfl, Below.refl _ _⟩

set_option maxRecDepth 100000 in
set_option maxHeartbeats 1000000 in
theorem off (wn : ByteArray) (la : Int) (u : ByteArray) (a : Option Addr) (cap : Nat) (xs : List At) (i j : Int) (w : World) (hrow : AttrsAt w a xs) (h1 : wn.size ≤ 65536) (h2 : u.size ≤ 65536) (hx : xs.length ≤ 4096) (hl : i < 0 ∨ (0 ≤ i ∧ (j ≤ i ∨ (i < j ∧ (xs.length : Int) ≤ j)))) :
    Calls Try.prog 7 #[.string wn, .int .i64 la, .string u, .slice a xs.length cap, .int .i64 i, .int .i64 j] w fun e w' => e = .returned (.bool true) ∧ Below w.heap.size w w' := by
  have h28 := bytes28 wn la u a cap xs i j w hrow (by unfold maxLen; omega) (by unfold maxLen; omega) (by unfold maxLen; omega)
  have h29 := fit29 wn u a cap xs w hrow h1 h2 hx
  clear hrow
  rcases hl with hl | ⟨hl', hl | ⟨hl'', hl⟩⟩
  all_goals
    go_enter Try.func7, Try.ntmps7
    go_wp2_with fail
    refine h28.mono ?_
    rintro e w' ⟨⟨b, rfl⟩, hw⟩
    obtain rfl := hw.symm
    clear h28
    cases b with
    | false =>
      go_wp2
      go_ret
      exact ⟨rfl, Below.refl _ _⟩
    | true =>
      go_wp2_with fail
      refine h29.mono ?_
      rintro e w2 ⟨⟨b, rfl⟩, n29, hw29⟩
      have Bw : Below w.heap.size w w2 := by rw [hw29]; exact below_drewN (Below.refl _ _) _
      clear hw29 h29
      cases b with
      | false =>
        go_wp2
        go_ret
        exact ⟨rfl, Bw⟩
      | true =>
        go_wp2_with fail
        refine (qn20 wn la w2 h1).mono ?_
        rintro e w' ⟨⟨b, rfl⟩, hw'⟩
        obtain rfl := hw'.symm
        cases b with
        | false =>
          go_wp2
          go_ret
          exact ⟨rfl, Bw⟩
        | true =>
          go_wp2
          go_ret
          exact ⟨rfl, Bw⟩

theorem walk (wn : ByteArray) (la : Int) (u : ByteArray) (a : Option Addr) (cap : Nat) (xs : List At) (i j : Int) (w : World) (hrow : AttrsAt w a xs) (h1 : wn.size ≤ maxLen) (h2 : u.size ≤ maxLen) (hx : xs.length ≤ maxLen) :
    Calls Try.prog 7 #[.string wn, .int .i64 la, .string u, .slice a xs.length cap, .int .i64 i, .int .i64 j] w fun e w' => e = .returned (.bool true) ∧ Below w.heap.size w w' := by
  by_cases hl : 65536 < wn.size ∨ (wn.size ≤ 65536 ∧ (65536 < u.size ∨ (u.size ≤ 65536 ∧ 4096 < xs.length)))
  · exact long wn la u a cap xs i j w hrow h1 h2 hx hl
  by_cases ho : i < 0 ∨ (0 ≤ i ∧ (j ≤ i ∨ (i < j ∧ (xs.length : Int) ≤ j)))
  · exact off wn la u a cap xs i j w hrow (by omega) (by omega) (by omega) ho
  obtain ⟨i', rfl⟩ : ∃ i' : Nat, i = i' := ⟨i.toNat, by omega⟩
  obtain ⟨j', rfl⟩ : ∃ j' : Nat, j = j' := ⟨j.toNat, by omega⟩
  exact twice_main wn la u a cap xs i' j' w hrow (by omega) (by omega) (by omega) (by omega) (by omega)

def strOf : Value → ByteArray | .string s => s | _ => ByteArray.empty


set_option maxRecDepth 100000 in
/-- what the reading of the attributes tells the walk -/
theorem rows_of {H : Type} {enc : TypeId × Value → H} {W : World} {base : Nat} {spare : Nat → Bool} {held : Bool} {a : Option Addr} {len cap fuel : Nat} {x : DataW H × List MemPlace}
    (h : DataW.trod enc Try.prog W base spare held fuel 53 [.slice a len cap] = some x) :
    ∃ xs : List At, xs.length = len ∧ len ≤ maxLen ∧ AttrsAt W a xs := by
  rcases Go.Deep.open_slice Try.underlying53 h with ⟨hcs, _⟩ | ⟨b, len', cap', m, n, D, Pl, hcs, _, hl, hm, hmm, _, hx⟩
  · simp at hcs
    obtain ⟨rfl, rfl, rfl⟩ := hcs
    exact ⟨[], rfl, by unfold maxLen; omega, .inl rfl⟩
  · simp at hcs
    obtain ⟨rfl, rfl, rfl⟩ := hcs
    have hlm : len ≤ m := by rw [hmm]; split <;> omega
    have each : ∀ i, i < len → ∃ q : At, W.cell? (b.add (i * 4)) = some (.string q.sp) ∧ W.cell? (b.add (i * 4 + 1)) = some (.string q.lo) ∧ W.cell? (b.add (i * 4 + 2)) = some (.string q.pf) ∧ W.cell? (b.add (i * 4 + 3)) = some (.string q.va) := fun i hi => by
      obtain ⟨cs', h1, h2⟩ := hx i (by omega)
      rw [cells61] at h1
      obtain ⟨_, hlen, hcell⟩ := World.cells?_some h1
      obtain ⟨ys, k, hk, _, _, hyl, hf⟩ := DataW.trod_struct Try.underlying61 h2
      match ys, hyl, cs', hlen with
      | [y0, y1, y2, y3], _, [v0, v1, v2, v3], _ =>
        have g0 := hf 0 _ rfl
        have g1 := hf 1 _ rfl
        have g2 := hf 2 _ rfl
        have g3 := hf 3 _ rfl
        simp only [cells9, List.drop, List.take, List.getElem?_cons_zero, List.getElem?_cons_succ] at g0 g1 g2 g3
        have e0 := hcell 0 (by omega)
        have e1 := hcell 1 (by omega)
        have e2 := hcell 2 (by omega)
        have e3 := hcell 3 (by omega)
        rw [Go.Deep.add_add] at e0 e1 e2 e3
        obtain ⟨n0, k0, _⟩ := DataW.trod_string Try.underlying9 g0
        obtain ⟨n1, k1, _⟩ := DataW.trod_string Try.underlying9 g1
        obtain ⟨n2, k2, _⟩ := DataW.trod_string Try.underlying9 g2
        obtain ⟨n3, k3, _⟩ := DataW.trod_string Try.underlying9 g3
        simp [cells9] at k0 k1 k2 k3
        subst k0 k1 k2 k3
        exact ⟨⟨n0, n1, n2, n3⟩, by simpa using e0, by simpa using e1, by simpa using e2, by simpa using e3⟩
    haveI : Inhabited At := ⟨atD⟩
    obtain ⟨q, hq⟩ := Go.Deep.choose_lt each
    have hget : ∀ i, i < len → ((List.range len).map q).getD i atD = q i := fun i hi => by
      simp [List.getD, hi]
    refine ⟨(List.range len).map q, by simp, by omega, ?_⟩
    by_cases h0 : len = 0
    · left; simp [h0]
    · right
      obtain ⟨c0, _⟩ := hq 0 (by omega)
      have hsp : b.spot = none := by
        simp only [Nat.zero_mul, Addr.add, if_true] at c0
        unfold World.cell? at c0
        split at c0
        · split at c0
          · cases c0
          · rename_i hh; simpa using hh
        · cases c0
      obtain ⟨bb, bo, bs⟩ := b
      simp only at hsp
      subst hsp
      refine ⟨bb, bo, rfl, World.block_lt_of_cell? W _ c0, fun i hi => ?_⟩
      simp only [List.length_map, List.length_range] at hi
      obtain ⟨k0, k1, k2, k3⟩ := hq i hi
      rw [hget i hi]
      refine ⟨?_, ?_, ?_, ?_⟩
      · rw [← k0, add_plain]
      · rw [← k1, add_plain, Nat.add_assoc]
      · rw [← k2, add_plain, Nat.add_assoc]
      · rw [← k3, add_plain, Nat.add_assoc]

/-! ### The row's step -/
set_option maxRecDepth 100000 in
theorem lifted (os : Os) (started : os.Started) (H : Type) (enc : TypeId × Value → H) :
    ReturnsInHanded {} Try.checked os 7 .any (Rows.fnWithoutTwiceDropsBothInEitherOrderSpec.pre6 enc Try.prog Try.f7 Rows.fnWithoutTwiceDropsBothInEitherOrderRow.domain false) (Rows.fnWithoutTwiceDropsBothInEitherOrderSpec.post enc Try.prog Try.f7 false true false false) := by
  refine returnsInHanded_of_change (C := Try.checked) own started (by kernel_rfl) Try.func7
    (ChangeSpec.witness6 (enc := enc) (C := Try.checked) false ⟨#[], #[.string ⟨#[]⟩, .int .i64 0, .string ⟨#[]⟩, .slice none 0 0, .int .i64 0, .int .i64 0], []⟩ 8 (by kernel_rfl) (by kernel_rfl) (by kernel_rfl) (by kernel_rfl)) ?_
  intro W base args ds gs before hval0 hW hcnd _
  have hval : ∀ (j : Nat) t v, Try.f7.params[j]? = some t → args[j]? = some v → Value.okWide Try.prog W .any base t v := hval0
  have hW' := hW
  obtain ⟨p, q, hA0, hV, rfl, hfz, hnd⟩ := hW
  have hA : DataW.TrodAll enc Try.prog W 0 (fun _ => true) true Try.f7.params.toList args.toList ds p := hA0
  rw [Try.params7] at hA hval
  obtain ⟨v0, vs0, d0, ds0, p0, q0, hargs, rfl, rfl, h0, r0⟩ := trodAll_cons hA
  obtain ⟨v1, vs1, d1, ds1, p1, q1, rfl, rfl, rfl, h1, r1⟩ := trodAll_cons r0
  obtain ⟨v2, vs2, d2, ds2, p2, q2, rfl, rfl, rfl, h2, r2⟩ := trodAll_cons r1
  obtain ⟨v3, vs3, d3, ds3, p3, q3, rfl, rfl, rfl, h3, r3⟩ := trodAll_cons r2
  obtain ⟨v4, vs4, d4, ds4, p4, q4, rfl, rfl, rfl, h4, r4⟩ := trodAll_cons r3
  obtain ⟨v5, vs5, d5, ds5, p5, q5, rfl, rfl, rfl, h5, r5⟩ := trodAll_cons r4
  obtain ⟨rfl, rfl, rfl⟩ := trodAll_nil r5
  obtain rfl : args = #[v0, v1, v2, v3, v4, v5] := by cases args; simp_all
  obtain ⟨rfl, rfl⟩ := trodVars_none hV
  obtain ⟨s0, rfl, rfl, rfl, hs0⟩ := open_string Try.underlying9 (hval 0 9 v0 rfl rfl) h0
  obtain ⟨n1, rfl, rfl, rfl, hn1⟩ := open_int Try.underlying3 (hval 1 3 v1 rfl rfl) h1
  obtain ⟨s2, rfl, rfl, rfl, hs2⟩ := open_string Try.underlying9 (hval 2 9 v2 rfl rfl) h2
  obtain ⟨a3, len3, cap3, rfl⟩ := okWide_slice Try.underlying53 (hval 3 53 v3 rfl rfl)
  obtain ⟨n4, rfl, rfl, rfl, hn4⟩ := open_int Try.underlying3 (hval 4 3 v4 rfl rfl) h4
  obtain ⟨n5, rfl, rfl, rfl, hn5⟩ := open_int Try.underlying3 (hval 5 3 v5 rfl rfl) h5
  have k3 := h3
  have lt3 : ∀ x ∈ p3, x.block < W.heap.size := by obtain ⟨m, hm⟩ := k3; exact DataW.trod_lt m _ _ _ hm
  obtain ⟨xs, hxl, hml, hrow⟩ : ∃ xs : List At, xs.length = len3 ∧ len3 ≤ maxLen ∧ AttrsAt W a3 xs := by
    obtain ⟨fuel, hf⟩ := h3
    exact rows_of (by simpa [Value.cells] using hf)
  subst hxl
  clear hA0 hval0
  refine (walk s0 n1 s2 a3 cap3 xs n4 n5 W hrow hs0 hs2 hml).mono fun e W' ⟨he, bel⟩ => ?_
  subst he
  exact ⟨_, rfl, _, _, _, [], _, [], hW', trodAll_mk1 (shut_bool Try.underlying4 _), (trodAll_cons_mk (shut_string Try.underlying9 hs0) (trodAll_cons_mk (shut_int Try.underlying3 hn1) (trodAll_cons_mk (shut_string Try.underlying9 hs2) (trodAll_cons_mk (Below.trod laidOut (by kernel_rfl) (of_decide_eq_true (by kernel_rfl)) k3 bel lt3) (trodAll_cons_mk (shut_int Try.underlying3 hn4) (trodAll_cons_mk (shut_int Try.underlying3 hn5) trodAll_mk0)))))), rfl, bel.frame _, fun h => by cases h⟩

theorem over : Rows.fnWithoutTwiceDropsBothInEitherOrderRow.holds Try.pinned (OpenSpec.ofChange Rows.fnWithoutTwiceDropsBothInEitherOrderSpec) :=
  OpenClaim.holds_of_wide 7 Try.f7 rfl rfl rfl rfl rfl rfl rfl ⟨rfl, rfl, rfl, rfl, rfl⟩ rfl rfl rfl rfl rfl (by kernel_rfl) Try.func7 (by kernel_rfl)
    (of_decide_eq_true (by kernel_rfl)) (by unfold Func.isWrapper; first | (rw [if_pos (by decide +kernel)]; kernel_rfl) | (rw [if_neg (by decide +kernel)]; exact ⟨rfl, rfl⟩))
    (fun os started H enc _ => lifted os started H enc)

/-- THE STATEMENT -/
theorem proved : Rows.FnWithoutTwiceDropsBothInEitherOrderSaid := over
end Go.Proofs.Qxb6614379a.fnTwice
