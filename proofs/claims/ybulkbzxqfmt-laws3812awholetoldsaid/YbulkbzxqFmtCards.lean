/-
  DERIVED. GIVEN WITH THE SEED: THE CARDS: each row of YbulkbzxqFmtRows.lean that lists a variable, with what it lists TIED to the program's text (the seventh form; the later family's looks); each row that meets fmt, with fmt's text TOLD by the authors' own Lean function (tested against real Go, not proved from fmt's source: count such statements apart). THE CARD IS WHAT COUNTS. Prove the row's statement (the work); the ties are given (YbulkbzxqFmtTie.lean); close each card by the builder's one call (the guide's Derived/Test/ToyasCard.lean, 'card_holds'). Laid BY PROGRAM, IN A SANDBOX (cutbox-door.mjs). By AI agents, Wed Nov 11 2026. No macro, syntax, notation, axiom, sorry.
-/
import Derived.Test.YbulkbzxqFmtRows
import GoSem.ClaimSeven
namespace Go.Proofs.YbulkbzxqFmt
namespace Rows

/-- THE TOLD CARD OF 'coxswain.LawS3812AWhole'. -/
def lawS3812AWholeCard : Claim7 := { stood := { row := lawS3812AWholeRow, standIns := [], harness := (true, "22d127a2c9107a479d531708ed3e2dba24daa2d5f9a86f3bca25bf838cc68229"), looks := true }, told := true, goes := false }
def LawS3812AWholeToldSaid : Prop := Claim7.holds Ybaf.pinned (.plain (OpenSpec.ofChange lawS3812AWholeSpec)) lawS3812AWholeCard
/-- ITS FALSE NEIGHBOUR. Refute it at one input. -/
def LawS3812AWholeToldWrongFalsely : Prop := Claim7.holds Ybaf.pinned (.plain (OpenSpec.ofChange lawS3812AWholeWrong)) lawS3812AWholeCard

/-- THE TOLD CARD OF 'coxswain.LawS3812ALine'. -/
def lawS3812ALineCard : Claim7 := { stood := { row := lawS3812ALineRow, standIns := [], harness := (true, "22d127a2c9107a479d531708ed3e2dba24daa2d5f9a86f3bca25bf838cc68229"), looks := true }, told := true, goes := false }
def LawS3812ALineToldSaid : Prop := Claim7.holds Ybaf.pinned (.plain (OpenSpec.ofChange lawS3812ALineSpec)) lawS3812ALineCard
/-- ITS FALSE NEIGHBOUR. Refute it at one input. -/
def LawS3812ALineToldWrongFalsely : Prop := Claim7.holds Ybaf.pinned (.plain (OpenSpec.ofChange lawS3812ALineWrong)) lawS3812ALineCard
end Rows
end Go.Proofs.YbulkbzxqFmt
