/-
  DERIVED. GIVEN WITH THE SEED: THE CARDS: each row of Qxb6604296aDoorRows.lean that lists a variable, with what it lists TIED to the program's text (the seventh form; the later family's looks); each row that meets fmt, with fmt's text TOLD by the authors' own Lean function (tested against real Go, not proved from fmt's source: count such statements apart). THE CARD IS WHAT COUNTS. Prove the row's statement (the work); the ties are given (Qxb6604296aDoorTie.lean); close each card by the builder's one call (the guide's Derived/Test/ToyasCard.lean, 'card_holds'). Laid BY PROGRAM, IN A SANDBOX (cutbox-door.mjs). By AI agents, Wed Nov 11 2026. No macro, syntax, notation, axiom, sorry.
-/
import Derived.Test.Qxb6604296aDoorRows
import GoSem.ClaimSeven
namespace Go.Proofs.Qxb6604296aDoor
namespace Rows

/-- THE TIED CARD OF 'zzlaws_table_b1.FnParseDecimalMatchesScanModel'. -/
def fnParseDecimalMatchesScanModelCard : Claim7 := { stood := { row := fnParseDecimalMatchesScanModelRow, standIns := [], harness := (true, "b49e760f2fe4ba63ed89fc72d3c55e449177a0b08bc6e138939505f42bcfd20e"), looks := true }, kinds := [], alts := [], laidByText := true, laidKinds := [.data, .data, .data, .data, .sentinel, .sentinel, .pinned], laidTests := true, laidLooks := .later }
def FnParseDecimalMatchesScanModelCardSaid : Prop := Claim7.holds Tryd.pinned (.plain (OpenSpec.ofChange fnParseDecimalMatchesScanModelSpec)) fnParseDecimalMatchesScanModelCard
end Rows
end Go.Proofs.Qxb6604296aDoor
