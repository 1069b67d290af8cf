/-
  NARROWER THAN 'FOR EVERY INPUT', by the rows' own cells (each row's printed sentence says how): LawS3813BClasses: ifaces, laid.
  DERIVED. THE GIVEN ROWS OF THIS SEAT. 1 by the template 'for every input the law returns true; each argument reads behind the call as it read before'; 0 by the template 'total and deterministic' (their statements: YbulkbzyeFmtTotals.lean).
  GIVEN WITH THE SEED: the statements are not yours to turn. If you find one false, say at which input.
  Laid BY PROGRAM, IN A SANDBOX (cutbox-rows.mjs): the forced cells as the released guide's own fill.sh prints them over the translation be2fa070e24047ea… (all of the seat's roots in one cut). By AI agents, Wed Nov 11 2026. No macro, syntax, notation, axiom, sorry.
-/
import Derived.Test.YbulkbzyeFmtChecked
import GoSem.Claim
import GoSem.ClaimJoined
import GoSem.ClaimMapViews
import Derived.JoinedTies
import Derived.KernelRfl
namespace Go.Proofs.YbulkbzyeFmt
/- THE CELL 'sum', in the pinned program and in every row, IS THE sha256 OF THE DUMP (.gsa) THAT YbulkbzyeFmtProg.lean LOADS. Nothing in Lean hashes anything: it is a label: what it is worth is what the hold of that sum in a sandbox is worth. -/
noncomputable def Ybaf.pinned : Pinned := { name := "ybulkbzyefmt", sum := "be2fa070e24047ea7de9013689ac29e9c2c11dd2920194235d0731e0530e37a7", checked := Ybaf.checked }
namespace Rows
def none {H : Type} : Left H := { results := [], args := [] }

/- WHAT THE LISTED PACKAGE-LEVEL VARIABLES READ AS WHEN THE CALL BEGINS. Each datum BY PROGRAM (the guide's laid-datum.mjs) off the statement by which the dump's own 'gosem.cut.vars' lays the variable. In a bare row this is a premise. The card (YbulkbzyeFmtCards.lean) ties it to the program's text. -/
def laid_errors_errorType {H : Type} : DataW H := .iface "internal/reflectlite.rtype" (.agg [.ptr (.lit (.string [101, 114, 114, 111, 114]))])
def laid_io_EOF {H : Type} : DataW H := .iface "*errors.errorString" (.ptr (.agg [.lit (.string [69, 79, 70])]))
def laid_io_ErrUnexpectedEOF {H : Type} : DataW H := .iface "*errors.errorString" (.ptr (.agg [.lit (.string [117, 110, 101, 120, 112, 101, 99, 116, 101, 100, 32, 69, 79, 70])]))
def laid_example_com_rankd_rankd_server_errTruncated {H : Type} : DataW H := .iface "*errors.errorString" (.ptr (.agg [.lit (.string [98, 111, 100, 121, 32, 101, 110, 100, 115, 32, 98, 101, 102, 111, 114, 101, 32, 105, 116, 115, 32, 74, 83, 79, 78, 32, 118, 97, 108, 117, 101, 32, 100, 111, 101, 115])]))

/-- 'server.LawS3813BClasses': WHATEVER THE INPUT: true; the input reads as it did. -/
def lawS3813BClassesSpec : ChangeSpec := { name := "lawS3813BClasses", vars := ["example.com/rankd/rankd/server.errTruncated"], fn := fun _ => fun
  | [d1, d2, d3, d4, g1] => { results := [.lit (.bool true)], args := [d1, d2, d3, d4], vars := [g1] }
  | _ => none }
def lawS3813BClassesRow : OpenClaim := { program := "ybulkbzyefmt", sum := "be2fa070e24047ea7de9013689ac29e9c2c11dd2920194235d0731e0530e37a7", func := "example.com/rankd/rankd/server.LawS3813BClasses", spec := "lawS3813BClasses", stops := ["fmt.errorf, its operands' methods called"], inPlace := ["fmt.errorf", "internal/reflectlite.ValueOf", "(internal/reflectlite.Value).Type", "(internal/reflectlite.Value).IsNil", "internal/reflectlite.TypeOf", "(internal/reflectlite.Value).Elem", "(internal/reflectlite.Value).Set"], unfollowed := true, recurses := true, named := ["io.EOF", "io.ErrUnexpectedEOF", "example.com/rankd/rankd/server.errTruncated", "errors.errorType"], ifaces := true, apart := false, laid := [("errors.errorType", laid_errors_errorType), ("io.EOF", laid_io_EOF), ("io.ErrUnexpectedEOF", laid_io_ErrUnexpectedEOF), ("example.com/rankd/rankd/server.errTruncated", laid_example_com_rankd_rankd_server_errTruncated)] }
/-- NO THEOREM (fmt's text is open here; it may be false): for the released tool's asking of the row's closed facts alone. THE STATEMENT IS 'LawS3813BClassesToldSaid' (YbulkbzyeFmtCards.lean). -/
def LawS3813BClassesFormAsk : Prop := lawS3813BClassesRow.holds Ybaf.pinned (OpenSpec.ofChange lawS3813BClassesSpec)

/-- ITS FALSE NEIGHBOUR: 'it returns false'. Refute it at one input. -/
def lawS3813BClassesWrong : ChangeSpec := { name := "lawS3813BClasses", vars := ["example.com/rankd/rankd/server.errTruncated"], fn := fun _ => fun
  | [d1, d2, d3, d4, g1] => { results := [.lit (.bool false)], args := [d1, d2, d3, d4], vars := [g1] }
  | _ => none }
def LawS3813BClassesWrongFormAsk : Prop := lawS3813BClassesRow.holds Ybaf.pinned (OpenSpec.ofChange lawS3813BClassesWrong)

end Rows
end Go.Proofs.YbulkbzyeFmt
