/-
  No cell of these rows narrows 'for every input' (looked for: loops, veiled, ifaces, maps, wideKeys, modest, calm, conditions, laid).
  DERIVED. THE GIVEN ROWS OF THIS SEAT. 2 by the template 'for every input the law returns true; each argument reads behind the call as it read before'; 0 by the template 'total and deterministic' (their statements: Qxb6614248aTotals.lean).
  GIVEN WITH THE SEED: the statements are not yours to turn. If you find one false, say at which input.
  Laid BY PROGRAM, IN A SANDBOX (cutbox-rows.mjs): the forced cells as the released guide's own fill.sh prints them over the translation 1bca8e4834c7f009… (all of the seat's roots in one cut). By AI agents, Wed Nov 11 2026. No macro, syntax, notation, axiom, sorry.
-/
import Derived.Test.Qxb6614248aChecked
import GoSem.Claim
import GoSem.ClaimJoined
import GoSem.ClaimMapViews
import Derived.JoinedTies
import Derived.KernelRfl
namespace Go.Proofs.Qxb6614248a
/- THE CELL 'sum', in the pinned program and in every row, IS THE sha256 OF THE DUMP (.gsa) THAT Qxb6614248aProg.lean LOADS. Nothing in Lean hashes anything: it is a label: what it is worth is what the hold of that sum in a sandbox is worth. -/
noncomputable def Try.pinned : Pinned := { name := "qxb6614248a", sum := "1bca8e4834c7f0090eced118cbe1cf64336e137686a7a9798a9df85685edf3ab", checked := Try.checked }
namespace Rows
def none {H : Type} : Left H := { results := [], args := [] }

/-- 'zzlaws_pkg_ledger_b1.FnGradedOfJoinedListsIsEitherPart': WHATEVER THE INPUT: true; the input reads as it did. -/
def fnGradedOfJoinedListsIsEitherPartSpec : ChangeSpec := { name := "fnGradedOfJoinedListsIsEitherPart", fn := fun _ => fun
  | [d1, d2, d3, d4, d5] => { results := [.lit (.bool true)], args := [d1, d2, d3, d4, d5] }
  | _ => none }
def fnGradedOfJoinedListsIsEitherPartRow : OpenClaim := { program := "qxb6614248a", sum := "1bca8e4834c7f0090eced118cbe1cf64336e137686a7a9798a9df85685edf3ab", func := "example.com/vestledger/vestledger/zzlaws_pkg_ledger_b1.FnGradedOfJoinedListsIsEitherPart", spec := "fnGradedOfJoinedListsIsEitherPart", plainKeys := false, apart := false }
def FnGradedOfJoinedListsIsEitherPartSaid : Prop := fnGradedOfJoinedListsIsEitherPartRow.holds Try.pinned (OpenSpec.ofChange fnGradedOfJoinedListsIsEitherPartSpec)

/-- ITS FALSE NEIGHBOUR: 'it returns false'. Refute it at one input. -/
def fnGradedOfJoinedListsIsEitherPartWrong : ChangeSpec := { name := "fnGradedOfJoinedListsIsEitherPart", fn := fun _ => fun
  | [d1, d2, d3, d4, d5] => { results := [.lit (.bool false)], args := [d1, d2, d3, d4, d5] }
  | _ => none }
def FnGradedOfJoinedListsIsEitherPartWrongFalsely : Prop := fnGradedOfJoinedListsIsEitherPartRow.holds Try.pinned (OpenSpec.ofChange fnGradedOfJoinedListsIsEitherPartWrong)

/-- 'zzlaws_pkg_ledger_b1.FnCapitalOnEntryInForceOnItsOwnDate': WHATEVER THE INPUT: true; the input reads as it did. -/
def fnCapitalOnEntryInForceOnItsOwnDateSpec : ChangeSpec := { name := "fnCapitalOnEntryInForceOnItsOwnDate", fn := fun _ => fun
  | [d1, d2, d3, d4] => { results := [.lit (.bool true)], args := [d1, d2, d3, d4] }
  | _ => none }
def fnCapitalOnEntryInForceOnItsOwnDateRow : OpenClaim := { program := "qxb6614248a", sum := "1bca8e4834c7f0090eced118cbe1cf64336e137686a7a9798a9df85685edf3ab", func := "example.com/vestledger/vestledger/zzlaws_pkg_ledger_b1.FnCapitalOnEntryInForceOnItsOwnDate", spec := "fnCapitalOnEntryInForceOnItsOwnDate", unfollowed := true, recurses := true, plainKeys := false, apart := false }
def FnCapitalOnEntryInForceOnItsOwnDateSaid : Prop := fnCapitalOnEntryInForceOnItsOwnDateRow.holds Try.pinned (OpenSpec.ofChange fnCapitalOnEntryInForceOnItsOwnDateSpec)

/-- ITS FALSE NEIGHBOUR: 'it returns false'. Refute it at one input. -/
def fnCapitalOnEntryInForceOnItsOwnDateWrong : ChangeSpec := { name := "fnCapitalOnEntryInForceOnItsOwnDate", fn := fun _ => fun
  | [d1, d2, d3, d4] => { results := [.lit (.bool false)], args := [d1, d2, d3, d4] }
  | _ => none }
def FnCapitalOnEntryInForceOnItsOwnDateWrongFalsely : Prop := fnCapitalOnEntryInForceOnItsOwnDateRow.holds Try.pinned (OpenSpec.ofChange fnCapitalOnEntryInForceOnItsOwnDateWrong)

end Rows
end Go.Proofs.Qxb6614248a
