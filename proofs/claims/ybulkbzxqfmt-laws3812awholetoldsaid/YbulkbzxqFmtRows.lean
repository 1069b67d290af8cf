/-
  No cell of these rows narrows 'for every input' (looked for: loops, veiled, ifaces, maps, wideKeys, modest, calm, conditions, laid).
  DERIVED. THE GIVEN ROWS OF THIS SEAT. 2 by the template 'for every input the law returns true; each argument reads behind the call as it read before'; 0 by the template 'total and deterministic' (their statements: YbulkbzxqFmtTotals.lean).
  GIVEN WITH THE SEED: the statements are not yours to turn. If you find one false, say at which input.
  Laid BY PROGRAM, IN A SANDBOX (cutbox-rows.mjs): the forced cells as the released guide's own fill.sh prints them over the translation 6fff6227951f5415… (all of the seat's roots in one cut). By AI agents, Wed Nov 11 2026. No macro, syntax, notation, axiom, sorry.
-/
import Derived.Test.YbulkbzxqFmtChecked
import GoSem.Claim
import GoSem.ClaimJoined
import GoSem.ClaimMapViews
import Derived.JoinedTies
import Derived.KernelRfl
namespace Go.Proofs.YbulkbzxqFmt
/- THE CELL 'sum', in the pinned program and in every row, IS THE sha256 OF THE DUMP (.gsa) THAT YbulkbzxqFmtProg.lean LOADS. Nothing in Lean hashes anything: it is a label: what it is worth is what the hold of that sum in a sandbox is worth. -/
noncomputable def Ybaf.pinned : Pinned := { name := "ybulkbzxqfmt", sum := "6fff6227951f54150822ffeadfe343d8286f44d69675f3cf4a7c5d51ada0c21e", checked := Ybaf.checked }
namespace Rows
def none {H : Type} : Left H := { results := [], args := [] }

/-- 'coxswain.LawS3812AWhole': WHATEVER THE INPUT: true; the input reads as it did. -/
def lawS3812AWholeSpec : ChangeSpec := { name := "lawS3812AWhole", fn := fun _ => fun
  | [d1, d2] => { results := [.lit (.bool true)], args := [d1, d2] }
  | _ => none }
def lawS3812AWholeRow : OpenClaim := { program := "ybulkbzxqfmt", sum := "6fff6227951f54150822ffeadfe343d8286f44d69675f3cf4a7c5d51ada0c21e", func := "example.com/coxswain/coxswain.LawS3812AWhole", spec := "lawS3812AWhole", stops := ["fmt.Sprintf, its operands' methods called"], inPlace := ["fmt.Sprintf"], unfollowed := true, recurses := true, apart := false }
/-- NO THEOREM (fmt's text is open here; it may be false): for the released tool's asking of the row's closed facts alone. THE STATEMENT IS 'LawS3812AWholeToldSaid' (YbulkbzxqFmtCards.lean). -/
def LawS3812AWholeFormAsk : Prop := lawS3812AWholeRow.holds Ybaf.pinned (OpenSpec.ofChange lawS3812AWholeSpec)

/-- ITS FALSE NEIGHBOUR: 'it returns false'. Refute it at one input. -/
def lawS3812AWholeWrong : ChangeSpec := { name := "lawS3812AWhole", fn := fun _ => fun
  | [d1, d2] => { results := [.lit (.bool false)], args := [d1, d2] }
  | _ => none }
def LawS3812AWholeWrongFormAsk : Prop := lawS3812AWholeRow.holds Ybaf.pinned (OpenSpec.ofChange lawS3812AWholeWrong)

/-- 'coxswain.LawS3812ALine': WHATEVER THE INPUT: true; the input reads as it did. -/
def lawS3812ALineSpec : ChangeSpec := { name := "lawS3812ALine", fn := fun _ => fun
  | [d1, d2, d3] => { results := [.lit (.bool true)], args := [d1, d2, d3] }
  | _ => none }
def lawS3812ALineRow : OpenClaim := { program := "ybulkbzxqfmt", sum := "6fff6227951f54150822ffeadfe343d8286f44d69675f3cf4a7c5d51ada0c21e", func := "example.com/coxswain/coxswain.LawS3812ALine", spec := "lawS3812ALine", stops := ["fmt.Sprintf, its operands' methods called"], inPlace := ["fmt.Sprintf"], unfollowed := true, recurses := true, apart := false }
/-- NO THEOREM (fmt's text is open here; it may be false): for the released tool's asking of the row's closed facts alone. THE STATEMENT IS 'LawS3812ALineToldSaid' (YbulkbzxqFmtCards.lean). -/
def LawS3812ALineFormAsk : Prop := lawS3812ALineRow.holds Ybaf.pinned (OpenSpec.ofChange lawS3812ALineSpec)

/-- ITS FALSE NEIGHBOUR: 'it returns false'. Refute it at one input. -/
def lawS3812ALineWrong : ChangeSpec := { name := "lawS3812ALine", fn := fun _ => fun
  | [d1, d2, d3] => { results := [.lit (.bool false)], args := [d1, d2, d3] }
  | _ => none }
def LawS3812ALineWrongFormAsk : Prop := lawS3812ALineRow.holds Ybaf.pinned (OpenSpec.ofChange lawS3812ALineWrong)

end Rows
end Go.Proofs.YbulkbzxqFmt
