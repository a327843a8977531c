/-
  DERIVED. GIVEN WITH THE SEED: THE CARDS: each row of Qxb6604708aDoorRows.lean that lists a variable, with what it lists TIED to the program's text (the seventh form; the later family's looks); each row that meets fmt, with fmt's text TOLD by the authors' own Lean function (tested against real Go, not proved from fmt's source: count such statements apart). THE CARD IS WHAT COUNTS. Prove the row's statement (the work); the ties are given (Qxb6604708aDoorTie.lean); close each card by the builder's one call (the guide's Derived/Test/ToyasCard.lean, 'card_holds'). Laid BY PROGRAM, IN A SANDBOX (cutbox-door.mjs). By AI agents, Wed Nov 11 2026. No macro, syntax, notation, axiom, sorry.
-/
import Derived.Test.Qxb6604708aDoorRows
import GoSem.ClaimSeven
namespace Go.Proofs.Qxb6604708aDoor
namespace Rows

/-- THE TIED CARD OF 'zzlaws_internal_jsonl_b1.FnNewReaderRoundTrip'. -/
def fnNewReaderRoundTripCard : Claim7 := { stood := { row := fnNewReaderRoundTripRow, standIns := [], harness := (true, "1926c899112e70ae2020ee924cb85764bd15e7395942214723ace67391746839"), looks := true }, kinds := [], alts := [], laidByText := true, laidKinds := [.sentinel, .sentinel, .sentinel, .sentinel], laidTests := true, laidLooks := .later }
def FnNewReaderRoundTripCardSaid : Prop := Claim7.holds Tryd.pinned (.plain (OpenSpec.ofChange fnNewReaderRoundTripSpec)) fnNewReaderRoundTripCard

/-- THE TIED CARD OF 'zzlaws_internal_jsonl_b1.FnReadLineExact'. -/
def fnReadLineExactCard : Claim7 := { stood := { row := fnReadLineExactRow, standIns := [], harness := (true, "1926c899112e70ae2020ee924cb85764bd15e7395942214723ace67391746839"), looks := true }, kinds := [], alts := [], laidByText := true, laidKinds := [.sentinel, .sentinel, .sentinel, .sentinel], laidTests := true, laidLooks := .later }
def FnReadLineExactCardSaid : Prop := Claim7.holds Tryd.pinned (.plain (OpenSpec.ofChange fnReadLineExactSpec)) fnReadLineExactCard

/-- THE TIED CARD OF 'zzlaws_internal_jsonl_b1.FnReadLineEndSticky'. -/
def fnReadLineEndStickyCard : Claim7 := { stood := { row := fnReadLineEndStickyRow, standIns := [], harness := (true, "1926c899112e70ae2020ee924cb85764bd15e7395942214723ace67391746839"), looks := true }, kinds := [], alts := [], laidByText := true, laidKinds := [.sentinel, .sentinel, .sentinel, .sentinel], laidTests := true, laidLooks := .later }
def FnReadLineEndStickyCardSaid : Prop := Claim7.holds Tryd.pinned (.plain (OpenSpec.ofChange fnReadLineEndStickySpec)) fnReadLineEndStickyCard

/-- THE TIED CARD OF 'zzlaws_internal_jsonl_b1.FnNextExact'. -/
def fnNextExactCard : Claim7 := { stood := { row := fnNextExactRow, standIns := [], harness := (true, "1926c899112e70ae2020ee924cb85764bd15e7395942214723ace67391746839"), looks := true }, kinds := [], alts := [], laidByText := true, laidKinds := [.data, .sentinel, .sentinel, .sentinel, .sentinel, .pinned], laidTests := true, laidLooks := .later }
def FnNextExactCardSaid : Prop := Claim7.holds Tryd.pinned (.plain (OpenSpec.ofChange fnNextExactSpec)) fnNextExactCard

/-- THE TIED CARD OF 'zzlaws_internal_jsonl_b1.FnNextBlankLineShift'. -/
def fnNextBlankLineShiftCard : Claim7 := { stood := { row := fnNextBlankLineShiftRow, standIns := [], harness := (true, "1926c899112e70ae2020ee924cb85764bd15e7395942214723ace67391746839"), looks := true }, kinds := [], alts := [], laidByText := true, laidKinds := [.data, .sentinel, .sentinel, .sentinel, .sentinel, .pinned], laidTests := true, laidLooks := .later }
def FnNextBlankLineShiftCardSaid : Prop := Claim7.holds Tryd.pinned (.plain (OpenSpec.ofChange fnNextBlankLineShiftSpec)) fnNextBlankLineShiftCard
end Rows
end Go.Proofs.Qxb6604708aDoor
