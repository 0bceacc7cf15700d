/-
  No cell of these rows narrows 'for every input' (looked for: loops, veiled, ifaces, maps, wideKeys, modest, calm, conditions, laid).
  DERIVED. THE GIVEN ROWS OF THIS SEAT. 2 by the template 'for every input the law returns true; each argument reads behind the call as it read before'; 0 by the template 'total and deterministic' (their statements: Qxb6605732aTotals.lean).
  GIVEN WITH THE SEED: the statements are not yours to turn. If you find one false, say at which input.
  Laid BY PROGRAM, IN A SANDBOX (cutbox-rows.mjs): the forced cells as the released guide's own fill.sh prints them over the translation 4d1d4d4b5f65f48e… (all of the seat's roots in one cut). By AI agents, Wed Nov 11 2026. No macro, syntax, notation, axiom, sorry.
-/
import Derived.Test.Qxb6605732aChecked
import GoSem.Claim
import GoSem.ClaimJoined
import GoSem.ClaimMapViews
import Derived.JoinedTies
import Derived.KernelRfl
namespace Go.Proofs.Qxb6605732a
/- THE CELL 'sum', in the pinned program and in every row, IS THE sha256 OF THE DUMP (.gsa) THAT Qxb6605732aProg.lean LOADS. Nothing in Lean hashes anything: it is a label: what it is worth is what the hold of that sum in a sandbox is worth. -/
noncomputable def Try.pinned : Pinned := { name := "qxb6605732a", sum := "4d1d4d4b5f65f48e193f934ec101f2be20616a5504f2e2c0f747577bba314fc0", checked := Try.checked }
namespace Rows
def none {H : Type} : Left H := { results := [], args := [] }

/-- 'zzlaws_internal_protocol_b1.FnLenencBytesSpec': WHATEVER THE INPUT: true; the input reads as it did. -/
def fnLenencBytesSpecSpec : ChangeSpec := { name := "fnLenencBytesSpec", fn := fun _ => fun
  | [d1, d2] => { results := [.lit (.bool true)], args := [d1, d2] }
  | _ => none }
def fnLenencBytesSpecRow : OpenClaim := { program := "qxb6605732a", sum := "4d1d4d4b5f65f48e193f934ec101f2be20616a5504f2e2c0f747577bba314fc0", func := "example.com/palimpsest/palimpsest/zzlaws_internal_protocol_b1.FnLenencBytesSpec", spec := "fnLenencBytesSpec", named := ["encoding/binary.LittleEndian"], apart := false }
def FnLenencBytesSpecSaid : Prop := fnLenencBytesSpecRow.holds Try.pinned (OpenSpec.ofChange fnLenencBytesSpecSpec)

/-- ITS FALSE NEIGHBOUR: 'it returns false'. Refute it at one input. -/
def fnLenencBytesSpecWrong : ChangeSpec := { name := "fnLenencBytesSpec", fn := fun _ => fun
  | [d1, d2] => { results := [.lit (.bool false)], args := [d1, d2] }
  | _ => none }
def FnLenencBytesSpecWrongFalsely : Prop := fnLenencBytesSpecRow.holds Try.pinned (OpenSpec.ofChange fnLenencBytesSpecWrong)

/-- 'zzlaws_internal_protocol_b1.FnLenencBytesReadsWhatAppendWrote': WHATEVER THE INPUT: true; the input reads as it did. -/
def fnLenencBytesReadsWhatAppendWroteSpec : ChangeSpec := { name := "fnLenencBytesReadsWhatAppendWrote", fn := fun _ => fun
  | [d1, d2, d3] => { results := [.lit (.bool true)], args := [d1, d2, d3] }
  | _ => none }
def fnLenencBytesReadsWhatAppendWroteRow : OpenClaim := { program := "qxb6605732a", sum := "4d1d4d4b5f65f48e193f934ec101f2be20616a5504f2e2c0f747577bba314fc0", func := "example.com/palimpsest/palimpsest/zzlaws_internal_protocol_b1.FnLenencBytesReadsWhatAppendWrote", spec := "fnLenencBytesReadsWhatAppendWrote", named := ["encoding/binary.LittleEndian"], apart := false }
def FnLenencBytesReadsWhatAppendWroteSaid : Prop := fnLenencBytesReadsWhatAppendWroteRow.holds Try.pinned (OpenSpec.ofChange fnLenencBytesReadsWhatAppendWroteSpec)

/-- ITS FALSE NEIGHBOUR: 'it returns false'. Refute it at one input. -/
def fnLenencBytesReadsWhatAppendWroteWrong : ChangeSpec := { name := "fnLenencBytesReadsWhatAppendWrote", fn := fun _ => fun
  | [d1, d2, d3] => { results := [.lit (.bool false)], args := [d1, d2, d3] }
  | _ => none }
def FnLenencBytesReadsWhatAppendWroteWrongFalsely : Prop := fnLenencBytesReadsWhatAppendWroteRow.holds Try.pinned (OpenSpec.ofChange fnLenencBytesReadsWhatAppendWroteWrong)

end Rows
end Go.Proofs.Qxb6605732a
