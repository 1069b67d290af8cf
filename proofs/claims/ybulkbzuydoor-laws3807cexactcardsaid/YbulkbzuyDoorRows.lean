/-
  NARROWER THAN 'FOR EVERY INPUT', by the rows' own cells (each row's printed sentence says how): LawS3807CExact: laid · LawS3807CDivides: laid.
  DERIVED. THE GIVEN ROWS OF THIS SEAT. 2 by the template 'for every input the law returns true; each argument reads behind the call as it read before'; 0 by the template 'total and deterministic' (their statements: YbulkbzuyDoorTotals.lean).
  GIVEN WITH THE SEED: the statements are not yours to turn. If you find one false, say at which input.
  Laid BY PROGRAM, IN A SANDBOX (cutbox-rows.mjs): the forced cells as the released guide's own fill.sh prints them over the translation 46a88da2bbc2a5c2… (all of the seat's roots in one cut). By AI agents, Wed Nov 11 2026. No macro, syntax, notation, axiom, sorry.
-/
import Derived.Test.YbulkbzuyDoorChecked
import GoSem.Claim
import GoSem.ClaimJoined
import GoSem.ClaimMapViews
import Derived.JoinedTies
import Derived.KernelRfl
namespace Go.Proofs.YbulkbzuyDoor
/- THE CELL 'sum', in the pinned program and in every row, IS THE sha256 OF THE DUMP (.gsa) THAT YbulkbzuyDoorProg.lean LOADS. Nothing in Lean hashes anything: it is a label: what it is worth is what the hold of that sum in a sandbox is worth. -/
noncomputable def Ybad.pinned : Pinned := { name := "ybulkbzuydoor", sum := "46a88da2bbc2a5c224db34bb5393da0ed688e4318a9f58c61ec880bbcb8ba2d6", checked := Ybad.checked }
namespace Rows
def none {H : Type} : Left H := { results := [], args := [] }

/- WHAT THE LISTED PACKAGE-LEVEL VARIABLES READ AS WHEN THE CALL BEGINS. Each datum BY PROGRAM (the guide's laid-datum.mjs) off the statement by which the dump's own 'gosem.cut.vars' lays the variable. In a bare row this is a premise. The card (YbulkbzuyDoorCards.lean) ties it to the program's text. -/
def laid_example_com_scalewright_scalewright_fieldFacts {H : Type} : DataW H := .agg [.agg [.lit (.int .i64 4), .lit (.int .u8 0), .lit (.string [89, 89, 89, 89]), .lit (.int .i64 1), .lit (.int .i64 9999), .lit (.int .i64 46), .lit (.int .i64 14), .lit (.int .i64 0)], .agg [.lit (.int .i64 2), .lit (.int .u8 45), .lit (.string [77, 77]), .lit (.int .i64 1), .lit (.int .i64 12), .lit (.int .i64 42), .lit (.int .i64 4), .lit (.int .i64 12)], .agg [.lit (.int .i64 2), .lit (.int .u8 45), .lit (.string [68, 68]), .lit (.int .i64 1), .lit (.int .i64 31), .lit (.int .i64 37), .lit (.int .i64 5), .lit (.int .i64 0)], .agg [.lit (.int .i64 2), .lit (.int .u8 32), .lit (.string [104, 104]), .lit (.int .i64 0), .lit (.int .i64 23), .lit (.int .i64 32), .lit (.int .i64 5), .lit (.int .i64 24)], .agg [.lit (.int .i64 2), .lit (.int .u8 58), .lit (.string [109, 109]), .lit (.int .i64 0), .lit (.int .i64 59), .lit (.int .i64 26), .lit (.int .i64 6), .lit (.int .i64 60)], .agg [.lit (.int .i64 2), .lit (.int .u8 58), .lit (.string [115, 115]), .lit (.int .i64 0), .lit (.int .i64 59), .lit (.int .i64 20), .lit (.int .i64 6), .lit (.int .i64 60)]]
def laid_example_com_scalewright_scalewright_pow10 {H : Type} : DataW H := .agg [.lit (.int .u64 1), .lit (.int .u64 10), .lit (.int .u64 100), .lit (.int .u64 1000), .lit (.int .u64 10000), .lit (.int .u64 100000), .lit (.int .u64 1000000), .lit (.int .u64 10000000), .lit (.int .u64 100000000), .lit (.int .u64 1000000000), .lit (.int .u64 10000000000), .lit (.int .u64 100000000000), .lit (.int .u64 1000000000000), .lit (.int .u64 10000000000000), .lit (.int .u64 100000000000000), .lit (.int .u64 1000000000000000), .lit (.int .u64 10000000000000000), .lit (.int .u64 100000000000000000), .lit (.int .u64 1000000000000000000)]

/-- 'scalewright.LawS3807CExact': WHATEVER THE INPUT: true; the input reads as it did. -/
def lawS3807CExactSpec : ChangeSpec := { name := "lawS3807CExact", vars := ["example.com/scalewright/scalewright.pow10", "example.com/scalewright/scalewright.fieldFacts"], fn := fun _ => fun
  | [d1, d2, d3, d4, d5, d6, g1, g2] => { results := [.lit (.bool true)], args := [d1, d2, d3, d4, d5, d6], vars := [g1, g2] }
  | _ => none }
def lawS3807CExactRow : OpenClaim := { program := "ybulkbzuydoor", sum := "46a88da2bbc2a5c224db34bb5393da0ed688e4318a9f58c61ec880bbcb8ba2d6", func := "example.com/scalewright/scalewright.LawS3807CExact", spec := "lawS3807CExact", named := ["example.com/scalewright/scalewright.pow10", "example.com/scalewright/scalewright.fieldFacts"], apart := false, laid := [("example.com/scalewright/scalewright.fieldFacts", laid_example_com_scalewright_scalewright_fieldFacts), ("example.com/scalewright/scalewright.pow10", laid_example_com_scalewright_scalewright_pow10)] }
def LawS3807CExactSaid : Prop := lawS3807CExactRow.holds Ybad.pinned (OpenSpec.ofChange lawS3807CExactSpec)

/-- ITS FALSE NEIGHBOUR: 'it returns false'. Refute it at one input. -/
def lawS3807CExactWrong : ChangeSpec := { name := "lawS3807CExact", vars := ["example.com/scalewright/scalewright.pow10", "example.com/scalewright/scalewright.fieldFacts"], fn := fun _ => fun
  | [d1, d2, d3, d4, d5, d6, g1, g2] => { results := [.lit (.bool false)], args := [d1, d2, d3, d4, d5, d6], vars := [g1, g2] }
  | _ => none }
def LawS3807CExactWrongFalsely : Prop := lawS3807CExactRow.holds Ybad.pinned (OpenSpec.ofChange lawS3807CExactWrong)

/-- 'scalewright.LawS3807CDivides': WHATEVER THE INPUT: true; the input reads as it did. -/
def lawS3807CDividesSpec : ChangeSpec := { name := "lawS3807CDivides", vars := ["example.com/scalewright/scalewright.pow10", "example.com/scalewright/scalewright.fieldFacts"], fn := fun _ => fun
  | [d1, d2, d3, g1, g2] => { results := [.lit (.bool true)], args := [d1, d2, d3], vars := [g1, g2] }
  | _ => none }
def lawS3807CDividesRow : OpenClaim := { program := "ybulkbzuydoor", sum := "46a88da2bbc2a5c224db34bb5393da0ed688e4318a9f58c61ec880bbcb8ba2d6", func := "example.com/scalewright/scalewright.LawS3807CDivides", spec := "lawS3807CDivides", named := ["example.com/scalewright/scalewright.pow10", "example.com/scalewright/scalewright.fieldFacts"], apart := false, laid := [("example.com/scalewright/scalewright.fieldFacts", laid_example_com_scalewright_scalewright_fieldFacts), ("example.com/scalewright/scalewright.pow10", laid_example_com_scalewright_scalewright_pow10)] }
def LawS3807CDividesSaid : Prop := lawS3807CDividesRow.holds Ybad.pinned (OpenSpec.ofChange lawS3807CDividesSpec)

/-- ITS FALSE NEIGHBOUR: 'it returns false'. Refute it at one input. -/
def lawS3807CDividesWrong : ChangeSpec := { name := "lawS3807CDivides", vars := ["example.com/scalewright/scalewright.pow10", "example.com/scalewright/scalewright.fieldFacts"], fn := fun _ => fun
  | [d1, d2, d3, g1, g2] => { results := [.lit (.bool false)], args := [d1, d2, d3], vars := [g1, g2] }
  | _ => none }
def LawS3807CDividesWrongFalsely : Prop := lawS3807CDividesRow.holds Ybad.pinned (OpenSpec.ofChange lawS3807CDividesWrong)

end Rows
end Go.Proofs.YbulkbzuyDoor
