/-
  No cell of these rows narrows 'for every input' (looked for: loops, veiled, ifaces, maps, wideKeys, modest, calm, conditions, laid).
  DERIVED. THE GIVEN ROWS OF THIS SEAT. 1 by the template 'for every input the law returns true; each argument reads behind the call as it read before'; 0 by the template 'total and deterministic' (their statements: YbulkbzuyTotals.lean).
  GIVEN WITH THE SEED: the statements are not yours to turn. If you find one false, say at which input.
  Laid BY PROGRAM, IN A SANDBOX (cutbox-rows.mjs): the forced cells as the released guide's own fill.sh prints them over the translation d54864263cb4e26b… (all of the seat's roots in one cut). By AI agents, Wed Nov 11 2026. No macro, syntax, notation, axiom, sorry.
-/
import Derived.Test.YbulkbzuyChecked
import GoSem.Claim
import GoSem.ClaimJoined
import GoSem.ClaimMapViews
import Derived.JoinedTies
import Derived.KernelRfl
namespace Go.Proofs.Ybulkbzuy
/- THE CELL 'sum', in the pinned program and in every row, IS THE sha256 OF THE DUMP (.gsa) THAT YbulkbzuyProg.lean LOADS. Nothing in Lean hashes anything: it is a label: what it is worth is what the hold of that sum in a sandbox is worth. -/
noncomputable def Yba.pinned : Pinned := { name := "ybulkbzuy", sum := "d54864263cb4e26b7fc4669ee6385f7a2ab26dddfd76edfc503df5cd666e9b61", checked := Yba.checked }
namespace Rows
def none {H : Type} : Left H := { results := [], args := [] }

/-- 'scalewright.LawS3807AClone': WHATEVER THE INPUT: true; the input reads as it did. -/
def lawS3807ACloneSpec : ChangeSpec := { name := "lawS3807AClone", fn := fun _ => fun
  | [d1, d2, d3, d4, d5, d6, d7, d8, d9] => { results := [.lit (.bool true)], args := [d1, d2, d3, d4, d5, d6, d7, d8, d9] }
  | _ => none }
def lawS3807ACloneRow : OpenClaim := { program := "ybulkbzuy", sum := "d54864263cb4e26b7fc4669ee6385f7a2ab26dddfd76edfc503df5cd666e9b61", func := "example.com/scalewright/scalewright.LawS3807AClone", spec := "lawS3807AClone", apart := false }
def LawS3807ACloneSaid : Prop := lawS3807ACloneRow.holds Yba.pinned (OpenSpec.ofChange lawS3807ACloneSpec)

/-- ITS FALSE NEIGHBOUR: 'it returns false'. Refute it at one input. -/
def lawS3807ACloneWrong : ChangeSpec := { name := "lawS3807AClone", fn := fun _ => fun
  | [d1, d2, d3, d4, d5, d6, d7, d8, d9] => { results := [.lit (.bool false)], args := [d1, d2, d3, d4, d5, d6, d7, d8, d9] }
  | _ => none }
def LawS3807ACloneWrongFalsely : Prop := lawS3807ACloneRow.holds Yba.pinned (OpenSpec.ofChange lawS3807ACloneWrong)

end Rows
end Go.Proofs.Ybulkbzuy
