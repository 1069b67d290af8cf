/-
  DERIVED. GIVEN WITH THE SEED: THE CARDS: each row of YbulkbzyeFmtRows.lean that lists a variable, with what it lists TIED to the program's text (the seventh form; the later family's looks); each row that meets fmt, with fmt's text TOLD by the authors' own Lean function (tested against real Go, not proved from fmt's source: count such statements apart). THE CARD IS WHAT COUNTS. Prove the row's statement (the work); the ties are given (YbulkbzyeFmtTie.lean); close each card by the builder's one call (the guide's Derived/Test/ToyasCard.lean, 'card_holds'). Laid BY PROGRAM, IN A SANDBOX (cutbox-door.mjs). By AI agents, Wed Nov 11 2026. No macro, syntax, notation, axiom, sorry.
-/
import Derived.Test.YbulkbzyeFmtRows
import GoSem.ClaimSeven
namespace Go.Proofs.YbulkbzyeFmt
namespace Rows

/-- THE TOLD AND TIED CARD OF 'server.LawS3813BClasses'. -/
def lawS3813BClassesCard : Claim7 := { stood := { row := lawS3813BClassesRow, standIns := [], harness := (true, "5b4c7969e4a5e0185e7e10db291ec0e8eac9e27545e2f7b8ce9d86d9a7b41e4c"), looks := true }, told := true, laidByText := true, laidKinds := [.handle, .called, .called, .called], laidTests := true, laidLooks := .later, goes := false }
def LawS3813BClassesToldSaid : Prop := Claim7.holds Ybaf.pinned (.plain (OpenSpec.ofChange lawS3813BClassesSpec)) lawS3813BClassesCard
/-- ITS FALSE NEIGHBOUR. Refute it at one input. -/
def LawS3813BClassesToldWrongFalsely : Prop := Claim7.holds Ybaf.pinned (.plain (OpenSpec.ofChange lawS3813BClassesWrong)) lawS3813BClassesCard
end Rows
end Go.Proofs.YbulkbzyeFmt
