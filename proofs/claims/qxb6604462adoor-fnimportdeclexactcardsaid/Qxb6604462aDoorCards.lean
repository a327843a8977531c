/-
  DERIVED. GIVEN WITH THE SEED: THE CARDS: each row of Qxb6604462aDoorRows.lean that lists a variable, with what it lists TIED to the program's text (the seventh form; the later family's looks); each row that meets fmt, with fmt's text TOLD by the authors' own Lean function (tested against real Go, not proved from fmt's source: count such statements apart). THE CARD IS WHAT COUNTS. Prove the row's statement (the work); the ties are given (Qxb6604462aDoorTie.lean); close each card by the builder's one call (the guide's Derived/Test/ToyasCard.lean, 'card_holds'). Laid BY PROGRAM, IN A SANDBOX (cutbox-door.mjs). By AI agents, Wed Nov 11 2026. No macro, syntax, notation, axiom, sorry.
-/
import Derived.Test.Qxb6604462aDoorRows
import GoSem.ClaimSeven
namespace Go.Proofs.Qxb6604462aDoor
namespace Rows

/-- THE TIED CARD OF 'zzlaws_internal_genfile_b1.FnImportDeclExact'. -/
def fnImportDeclExactCard : Claim7 := { stood := { row := fnImportDeclExactRow, standIns := [], harness := (true, "4e30814e433e41931de986def23e09b0ea86dee8c11c22098a4c397e9fd9c3d2"), looks := false }, kinds := [], alts := [], laidByText := true, laidKinds := [.data, .data, .data, .data, .pinned, .pinned, .pinned, .pinned, .pinned, .pinned], laidTests := true, laidLooks := .later }
def FnImportDeclExactCardSaid : Prop := Claim7.holds Tryd.pinned (.plain (OpenSpec.ofChange fnImportDeclExactSpec)) fnImportDeclExactCard
end Rows
end Go.Proofs.Qxb6604462aDoor
