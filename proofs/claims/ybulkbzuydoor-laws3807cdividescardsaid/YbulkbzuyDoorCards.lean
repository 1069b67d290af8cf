/-
  DERIVED. GIVEN WITH THE SEED: THE CARDS: each row of YbulkbzuyDoorRows.lean that lists a variable, with what it lists TIED to the program's text (the seventh form; the later family's looks); each row that meets fmt, with fmt's text TOLD by the authors' own Lean function (tested against real Go, not proved from fmt's source: count such statements apart). THE CARD IS WHAT COUNTS. Prove the row's statement (the work); the ties are given (YbulkbzuyDoorTie.lean); close each card by the builder's one call (the guide's Derived/Test/ToyasCard.lean, 'card_holds'). Laid BY PROGRAM, IN A SANDBOX (cutbox-door.mjs). By AI agents, Wed Nov 11 2026. No macro, syntax, notation, axiom, sorry.
-/
import Derived.Test.YbulkbzuyDoorRows
import GoSem.ClaimSeven
namespace Go.Proofs.YbulkbzuyDoor
namespace Rows

/-- THE TIED CARD OF 'scalewright.LawS3807CExact'. -/
def lawS3807CExactCard : Claim7 := { stood := { row := lawS3807CExactRow, standIns := [], harness := (true, "302a70b2b567cbf534b6247d3769e3699edb8f6b9b969cc7397db95b976b3b74"), looks := false }, kinds := [], alts := [], laidByText := true, laidKinds := [.widerDeep, .called], laidTests := true, laidLooks := .later }
def LawS3807CExactCardSaid : Prop := Claim7.holds Ybad.pinned (.plain (OpenSpec.ofChange lawS3807CExactSpec)) lawS3807CExactCard

/-- THE TIED CARD OF 'scalewright.LawS3807CDivides'. -/
def lawS3807CDividesCard : Claim7 := { stood := { row := lawS3807CDividesRow, standIns := [], harness := (true, "302a70b2b567cbf534b6247d3769e3699edb8f6b9b969cc7397db95b976b3b74"), looks := false }, kinds := [], alts := [], laidByText := true, laidKinds := [.widerDeep, .called], laidTests := true, laidLooks := .later }
def LawS3807CDividesCardSaid : Prop := Claim7.holds Ybad.pinned (.plain (OpenSpec.ofChange lawS3807CDividesSpec)) lawS3807CDividesCard
end Rows
end Go.Proofs.YbulkbzuyDoor
