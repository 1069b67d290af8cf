/-
  No cell of these rows narrows 'for every input' (looked for: loops, veiled, ifaces, maps, wideKeys, modest, calm, conditions, laid).
  DERIVED. THE GIVEN ROWS OF THIS SEAT. 2 by the template 'for every input the law returns true; each argument reads behind the call as it read before'; 0 by the template 'total and deterministic' (their statements: YbulkbzwoFmtTotals.lean).
  GIVEN WITH THE SEED: the statements are not yours to turn. If you find one false, say at which input.
  Laid BY PROGRAM, IN A SANDBOX (cutbox-rows.mjs): the forced cells as the released guide's own fill.sh prints them over the translation 51af121e0ab58aa9… (all of the seat's roots in one cut). By AI agents, Wed Nov 11 2026. No macro, syntax, notation, axiom, sorry.
-/
import Derived.Test.YbulkbzwoFmtChecked
import GoSem.Claim
import GoSem.ClaimJoined
import GoSem.ClaimMapViews
import Derived.JoinedTies
import Derived.KernelRfl
namespace Go.Proofs.YbulkbzwoFmt
/- THE CELL 'sum', in the pinned program and in every row, IS THE sha256 OF THE DUMP (.gsa) THAT YbulkbzwoFmtProg.lean LOADS. Nothing in Lean hashes anything: it is a label: what it is worth is what the hold of that sum in a sandbox is worth. -/
noncomputable def Ybaf.pinned : Pinned := { name := "ybulkbzwofmt", sum := "51af121e0ab58aa96dbe6adbfbadabe6e382623046e5ad74ed77bc7e0f87fda3", checked := Ybaf.checked }
namespace Rows
def none {H : Type} : Left H := { results := [], args := [] }

/-- 'market.LawS3810CFlagsGap': WHATEVER THE INPUT: true; the input reads as it did. -/
def lawS3810CFlagsGapSpec : ChangeSpec := { name := "lawS3810CFlagsGap", fn := fun _ => fun
  | [d1, d2, d3] => { results := [.lit (.bool true)], args := [d1, d2, d3] }
  | _ => none }
def lawS3810CFlagsGapRow : OpenClaim := { program := "ybulkbzwofmt", sum := "51af121e0ab58aa96dbe6adbfbadabe6e382623046e5ad74ed77bc7e0f87fda3", func := "example.com/indexloom/indexloom/pkg/market.LawS3810CFlagsGap", spec := "lawS3810CFlagsGap", stops := ["fmt.errorf"], inPlace := ["fmt.errorf"], unfollowed := true, recurses := true, apart := false }
/-- NO THEOREM (fmt's text is open here; it may be false): for the released tool's asking of the row's closed facts alone. THE STATEMENT IS 'LawS3810CFlagsGapToldSaid' (YbulkbzwoFmtCards.lean). -/
def LawS3810CFlagsGapFormAsk : Prop := lawS3810CFlagsGapRow.holds Ybaf.pinned (OpenSpec.ofChange lawS3810CFlagsGapSpec)

/-- ITS FALSE NEIGHBOUR: 'it returns false'. Refute it at one input. -/
def lawS3810CFlagsGapWrong : ChangeSpec := { name := "lawS3810CFlagsGap", fn := fun _ => fun
  | [d1, d2, d3] => { results := [.lit (.bool false)], args := [d1, d2, d3] }
  | _ => none }
def LawS3810CFlagsGapWrongFormAsk : Prop := lawS3810CFlagsGapRow.holds Ybaf.pinned (OpenSpec.ofChange lawS3810CFlagsGapWrong)

/-- 'market.LawS3810CNilQuiet': WHATEVER THE INPUT: true; the input reads as it did. -/
def lawS3810CNilQuietSpec : ChangeSpec := { name := "lawS3810CNilQuiet", fn := fun _ => fun
  | [d1, d2] => { results := [.lit (.bool true)], args := [d1, d2] }
  | _ => none }
def lawS3810CNilQuietRow : OpenClaim := { program := "ybulkbzwofmt", sum := "51af121e0ab58aa96dbe6adbfbadabe6e382623046e5ad74ed77bc7e0f87fda3", func := "example.com/indexloom/indexloom/pkg/market.LawS3810CNilQuiet", spec := "lawS3810CNilQuiet", stops := ["fmt.errorf"], inPlace := ["fmt.errorf"], unfollowed := true, recurses := true, apart := false }
/-- NO THEOREM (fmt's text is open here; it may be false): for the released tool's asking of the row's closed facts alone. THE STATEMENT IS 'LawS3810CNilQuietToldSaid' (YbulkbzwoFmtCards.lean). -/
def LawS3810CNilQuietFormAsk : Prop := lawS3810CNilQuietRow.holds Ybaf.pinned (OpenSpec.ofChange lawS3810CNilQuietSpec)

/-- ITS FALSE NEIGHBOUR: 'it returns false'. Refute it at one input. -/
def lawS3810CNilQuietWrong : ChangeSpec := { name := "lawS3810CNilQuiet", fn := fun _ => fun
  | [d1, d2] => { results := [.lit (.bool false)], args := [d1, d2] }
  | _ => none }
def LawS3810CNilQuietWrongFormAsk : Prop := lawS3810CNilQuietRow.holds Ybaf.pinned (OpenSpec.ofChange lawS3810CNilQuietWrong)

end Rows
end Go.Proofs.YbulkbzwoFmt
