/-
  DERIVED. GIVEN WITH THE SEED: THE CARDS: each row of Qxb6604799aDoorRows.lean that lists a variable, with what it lists TIED to the program's text (the seventh form; the later family's looks); each row that meets fmt, with fmt's text TOLD by the authors' own Lean function (tested against real Go, not proved from fmt's source: count such statements apart). THE CARD IS WHAT COUNTS. Prove the row's statement (the work); the ties are given (Qxb6604799aDoorTie.lean); close each card by the builder's one call (the guide's Derived/Test/ToyasCard.lean, 'card_holds'). Laid BY PROGRAM, IN A SANDBOX (cutbox-door.mjs). By AI agents, Wed Nov 11 2026. No macro, syntax, notation, axiom, sorry.
-/
import Derived.Test.Qxb6604799aDoorRows
import GoSem.ClaimSeven
namespace Go.Proofs.Qxb6604799aDoor
namespace Rows

/-- THE TIED CARD OF 'zzlaws_internal_toml_b1.FnTimeOfDayReadsAWholeTimePrefix'. -/
def fnTimeOfDayReadsAWholeTimePrefixCard : Claim7 := { stood := { row := fnTimeOfDayReadsAWholeTimePrefixRow, standIns := [], harness := (true, "a9e6e61030e4987cfde1a1b906d699e3bda2c16d0a66a296208fb03bcc669b6a"), looks := true }, kinds := [], alts := [], laidByText := true, laidKinds := [.data, .data, .data, .data, .sentinel, .sentinel, .pinned], laidTests := true, laidLooks := .later }
def FnTimeOfDayReadsAWholeTimePrefixCardSaid : Prop := Claim7.holds Tryd.pinned (.plain (OpenSpec.ofChange fnTimeOfDayReadsAWholeTimePrefixSpec)) fnTimeOfDayReadsAWholeTimePrefixCard

/-- THE TIED CARD OF 'zzlaws_internal_toml_b1.FnDateTimeKindJoinsDateAndTime'. -/
def fnDateTimeKindJoinsDateAndTimeCard : Claim7 := { stood := { row := fnDateTimeKindJoinsDateAndTimeRow, standIns := [], harness := (true, "a9e6e61030e4987cfde1a1b906d699e3bda2c16d0a66a296208fb03bcc669b6a"), looks := true }, kinds := [], alts := [], laidByText := true, laidKinds := [.data, .data, .data, .data, .sentinel, .sentinel, .pinned], laidTests := true, laidLooks := .later }
def FnDateTimeKindJoinsDateAndTimeCardSaid : Prop := Claim7.holds Tryd.pinned (.plain (OpenSpec.ofChange fnDateTimeKindJoinsDateAndTimeSpec)) fnDateTimeKindJoinsDateAndTimeCard

/-- THE TIED CARD OF 'zzlaws_internal_toml_b1.FnDateTimeKindPartsAgree'. -/
def fnDateTimeKindPartsAgreeCard : Claim7 := { stood := { row := fnDateTimeKindPartsAgreeRow, standIns := [], harness := (true, "a9e6e61030e4987cfde1a1b906d699e3bda2c16d0a66a296208fb03bcc669b6a"), looks := true }, kinds := [], alts := [], laidByText := true, laidKinds := [.data, .data, .data, .data, .sentinel, .sentinel, .pinned], laidTests := true, laidLooks := .later }
def FnDateTimeKindPartsAgreeCardSaid : Prop := Claim7.holds Tryd.pinned (.plain (OpenSpec.ofChange fnDateTimeKindPartsAgreeSpec)) fnDateTimeKindPartsAgreeCard
end Rows
end Go.Proofs.Qxb6604799aDoor
