/-
  DERIVED. GIVEN WITH THE SEED: THE CARDS: each row of Qxb6618041aDoorRows.lean that lists a variable, with what it lists TIED to the program's text (the seventh form; the later family's looks); each row that meets fmt, with fmt's text TOLD by the authors' own Lean function (tested against real Go, not proved from fmt's source: count such statements apart). THE CARD IS WHAT COUNTS. Prove the row's statement (the work); the ties are given (Qxb6618041aDoorTie.lean); close each card by the builder's one call (the guide's Derived/Test/ToyasCard.lean, 'card_holds'). Laid BY PROGRAM, IN A SANDBOX (cutbox-door.mjs). By AI agents, Wed Nov 11 2026. No macro, syntax, notation, axiom, sorry.
-/
import Derived.Test.Qxb6618041aDoorRows
import GoSem.ClaimSeven
namespace Go.Proofs.Qxb6618041aDoor
namespace Rows

/-- THE TIED CARD OF 'zzlaws_internal_journal_b1.FnNumberRoundTrip'. -/
def fnNumberRoundTripCard : Claim7 := { stood := { row := fnNumberRoundTripRow, standIns := [], harness := (true, "8aeee23342804a48f387fd65811000baec88b8ca97562c75775cff41c0767813"), looks := true }, kinds := [], alts := [], laidByText := true, laidKinds := [.data, .data, .data, .sentinel, .sentinel], laidTests := true, laidLooks := .later }
def FnNumberRoundTripCardSaid : Prop := Claim7.holds Tryd.pinned (.plain (OpenSpec.ofChange fnNumberRoundTripSpec)) fnNumberRoundTripCard

/-- THE TIED CARD OF 'zzlaws_internal_journal_b1.FnNumberDotMarksFileBeingBegun'. -/
def fnNumberDotMarksFileBeingBegunCard : Claim7 := { stood := { row := fnNumberDotMarksFileBeingBegunRow, standIns := [], harness := (true, "8aeee23342804a48f387fd65811000baec88b8ca97562c75775cff41c0767813"), looks := true }, kinds := [], alts := [], laidByText := true, laidKinds := [.data, .data, .data, .sentinel, .sentinel], laidTests := true, laidLooks := .later }
def FnNumberDotMarksFileBeingBegunCardSaid : Prop := Claim7.holds Tryd.pinned (.plain (OpenSpec.ofChange fnNumberDotMarksFileBeingBegunSpec)) fnNumberDotMarksFileBeingBegunCard

/-- THE TIED CARD OF 'zzlaws_internal_journal_b1.FnNumberNameOrderIsNumberOrder'. -/
def fnNumberNameOrderIsNumberOrderCard : Claim7 := { stood := { row := fnNumberNameOrderIsNumberOrderRow, standIns := [], harness := (true, "8aeee23342804a48f387fd65811000baec88b8ca97562c75775cff41c0767813"), looks := true }, kinds := [], alts := [], laidByText := true, laidKinds := [.data, .data, .data, .sentinel, .sentinel], laidTests := true, laidLooks := .later }
def FnNumberNameOrderIsNumberOrderCardSaid : Prop := Claim7.holds Tryd.pinned (.plain (OpenSpec.ofChange fnNumberNameOrderIsNumberOrderSpec)) fnNumberNameOrderIsNumberOrderCard
end Rows
end Go.Proofs.Qxb6618041aDoor
