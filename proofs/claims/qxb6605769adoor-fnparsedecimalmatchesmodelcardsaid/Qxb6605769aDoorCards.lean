/-
  DERIVED. GIVEN WITH THE SEED: THE CARDS: each row of Qxb6605769aDoorRows.lean that lists a variable, with what it lists TIED to the program's text (the seventh form; the later family's looks); each row that meets fmt, with fmt's text TOLD by the authors' own Lean function (tested against real Go, not proved from fmt's source: count such statements apart). THE CARD IS WHAT COUNTS. Prove the row's statement (the work); the ties are given (Qxb6605769aDoorTie.lean); close each card by the builder's one call (the guide's Derived/Test/ToyasCard.lean, 'card_holds'). Laid BY PROGRAM, IN A SANDBOX (cutbox-door.mjs). By AI agents, Wed Nov 11 2026. No macro, syntax, notation, axiom, sorry.
-/
import Derived.Test.Qxb6605769aDoorRows
import GoSem.ClaimSeven
namespace Go.Proofs.Qxb6605769aDoor
namespace Rows

/-- THE TIED CARD OF 'zzlaws_api_b1.FnParseDecimalMatchesModel'. -/
def fnParseDecimalMatchesModelCard : Claim7 := { stood := { row := fnParseDecimalMatchesModelRow, standIns := [], harness := (true, "14ac11c41f012df905246955791fed367939b91434849eb81c2cdc0a91166de3"), looks := true }, kinds := [], alts := [], laidByText := true, laidKinds := [.data, .data, .data, .sentinel, .sentinel], laidTests := true, laidLooks := .later }
def FnParseDecimalMatchesModelCardSaid : Prop := Claim7.holds Tryd.pinned (.plain (OpenSpec.ofChange fnParseDecimalMatchesModelSpec)) fnParseDecimalMatchesModelCard

/-- THE TIED CARD OF 'zzlaws_api_b1.FnParseDecimalReadsRendering'. -/
def fnParseDecimalReadsRenderingCard : Claim7 := { stood := { row := fnParseDecimalReadsRenderingRow, standIns := [], harness := (true, "14ac11c41f012df905246955791fed367939b91434849eb81c2cdc0a91166de3"), looks := true }, kinds := [], alts := [], laidByText := true, laidKinds := [.data, .data, .data, .sentinel, .sentinel], laidTests := true, laidLooks := .later }
def FnParseDecimalReadsRenderingCardSaid : Prop := Claim7.holds Tryd.pinned (.plain (OpenSpec.ofChange fnParseDecimalReadsRenderingSpec)) fnParseDecimalReadsRenderingCard
end Rows
end Go.Proofs.Qxb6605769aDoor
