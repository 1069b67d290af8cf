/-
  DERIVED. GIVEN WITH THE SEED: THE CARDS: each row of YbulkbzwoFmtRows.lean that lists a variable, with what it lists TIED to the program's text (the seventh form; the later family's looks); each row that meets fmt, with fmt's text TOLD by the authors' own Lean function (tested against real Go, not proved from fmt's source: count such statements apart). THE CARD IS WHAT COUNTS. Prove the row's statement (the work); the ties are given (YbulkbzwoFmtTie.lean); close each card by the builder's one call (the guide's Derived/Test/ToyasCard.lean, 'card_holds'). Laid BY PROGRAM, IN A SANDBOX (cutbox-door.mjs). By AI agents, Wed Nov 11 2026. No macro, syntax, notation, axiom, sorry.
-/
import Derived.Test.YbulkbzwoFmtRows
import GoSem.ClaimSeven
namespace Go.Proofs.YbulkbzwoFmt
namespace Rows

/-- THE TOLD CARD OF 'market.LawS3810CFlagsGap'. -/
def lawS3810CFlagsGapCard : Claim7 := { stood := { row := lawS3810CFlagsGapRow, standIns := [], harness := (true, "5c6d748436c63f0033aa4e7b721686853cf544dd9c76ebec926a153d8bd7b47c"), looks := false }, told := true, goes := false }
def LawS3810CFlagsGapToldSaid : Prop := Claim7.holds Ybaf.pinned (.plain (OpenSpec.ofChange lawS3810CFlagsGapSpec)) lawS3810CFlagsGapCard
/-- ITS FALSE NEIGHBOUR. Refute it at one input. -/
def LawS3810CFlagsGapToldWrongFalsely : Prop := Claim7.holds Ybaf.pinned (.plain (OpenSpec.ofChange lawS3810CFlagsGapWrong)) lawS3810CFlagsGapCard

/-- THE TOLD CARD OF 'market.LawS3810CNilQuiet'. -/
def lawS3810CNilQuietCard : Claim7 := { stood := { row := lawS3810CNilQuietRow, standIns := [], harness := (true, "5c6d748436c63f0033aa4e7b721686853cf544dd9c76ebec926a153d8bd7b47c"), looks := false }, told := true, goes := false }
def LawS3810CNilQuietToldSaid : Prop := Claim7.holds Ybaf.pinned (.plain (OpenSpec.ofChange lawS3810CNilQuietSpec)) lawS3810CNilQuietCard
/-- ITS FALSE NEIGHBOUR. Refute it at one input. -/
def LawS3810CNilQuietToldWrongFalsely : Prop := Claim7.holds Ybaf.pinned (.plain (OpenSpec.ofChange lawS3810CNilQuietWrong)) lawS3810CNilQuietCard
end Rows
end Go.Proofs.YbulkbzwoFmt
