/-
  No cell of these rows narrows 'for every input' (looked for: loops, veiled, ifaces, maps, wideKeys, modest, calm, conditions, laid).
  DERIVED. THE GIVEN ROWS OF THIS SEAT. 2 by the template 'for every input the law returns true; each argument reads behind the call as it read before'; 0 by the template 'total and deterministic' (their statements: YbulkbzxqTotals.lean).
  GIVEN WITH THE SEED: the statements are not yours to turn. If you find one false, say at which input.
  Laid BY PROGRAM, IN A SANDBOX (cutbox-rows.mjs): the forced cells as the released guide's own fill.sh prints them over the translation 744dacaf300c436e… (all of the seat's roots in one cut). By AI agents, Wed Nov 11 2026. No macro, syntax, notation, axiom, sorry.
-/
import Derived.Test.YbulkbzxqChecked
import GoSem.Claim
import GoSem.ClaimJoined
import GoSem.ClaimMapViews
import Derived.JoinedTies
import Derived.KernelRfl
namespace Go.Proofs.Ybulkbzxq
/- THE CELL 'sum', in the pinned program and in every row, IS THE sha256 OF THE DUMP (.gsa) THAT YbulkbzxqProg.lean LOADS. Nothing in Lean hashes anything: it is a label: what it is worth is what the hold of that sum in a sandbox is worth. -/
noncomputable def Yba.pinned : Pinned := { name := "ybulkbzxq", sum := "744dacaf300c436eaafebd992e6626372d7c36c9a051b9043e585319cd2d6fbc", checked := Yba.checked }
namespace Rows
def none {H : Type} : Left H := { results := [], args := [] }

/-- 'coxswain.LawS3812BCounts': WHATEVER THE INPUT: true; the input reads as it did. -/
def lawS3812BCountsSpec : ChangeSpec := { name := "lawS3812BCounts", fn := fun _ => fun
  | [d1, d2, d3] => { results := [.lit (.bool true)], args := [d1, d2, d3] }
  | _ => none }
def lawS3812BCountsRow : OpenClaim := { program := "ybulkbzxq", sum := "744dacaf300c436eaafebd992e6626372d7c36c9a051b9043e585319cd2d6fbc", func := "example.com/coxswain/coxswain.LawS3812BCounts", spec := "lawS3812BCounts", inPlace := ["(*internal/sync.Mutex).Lock", "internal/race.Disable", "sync/atomic.CompareAndSwapInt32", "internal/race.Enable", "internal/race.Acquire", "(*internal/sync.Mutex).lockSlow", "internal/sync.runtime_canSpin", "internal/sync.runtime_doSpin", "internal/sync.throw", "internal/sync.runtime_nanotime", "internal/sync.runtime_SemacquireMutex", "sync/atomic.AddInt32", "(*internal/sync.Mutex).Unlock", "internal/race.ReleaseMerge", "(*internal/sync.Mutex).unlockSlow", "internal/sync.fatal", "internal/sync.runtime_Semrelease"], apart := false }
def LawS3812BCountsSaid : Prop := lawS3812BCountsRow.holds Yba.pinned (OpenSpec.ofChange lawS3812BCountsSpec)

/-- ITS FALSE NEIGHBOUR: 'it returns false'. Refute it at one input. -/
def lawS3812BCountsWrong : ChangeSpec := { name := "lawS3812BCounts", fn := fun _ => fun
  | [d1, d2, d3] => { results := [.lit (.bool false)], args := [d1, d2, d3] }
  | _ => none }
def LawS3812BCountsWrongFalsely : Prop := lawS3812BCountsRow.holds Yba.pinned (OpenSpec.ofChange lawS3812BCountsWrong)

/-- 'coxswain.LawS3812BWakes': WHATEVER THE INPUT: true; the input reads as it did. -/
def lawS3812BWakesSpec : ChangeSpec := { name := "lawS3812BWakes", fn := fun _ => fun
  | [d] => { results := [.lit (.bool true)], args := [d] }
  | _ => none }
def lawS3812BWakesRow : OpenClaim := { program := "ybulkbzxq", sum := "744dacaf300c436eaafebd992e6626372d7c36c9a051b9043e585319cd2d6fbc", func := "example.com/coxswain/coxswain.LawS3812BWakes", spec := "lawS3812BWakes", inPlace := ["(*internal/sync.Mutex).Lock", "internal/race.Disable", "sync/atomic.CompareAndSwapInt32", "internal/race.Enable", "internal/race.Acquire", "(*internal/sync.Mutex).lockSlow", "internal/sync.runtime_canSpin", "internal/sync.runtime_doSpin", "internal/sync.throw", "internal/sync.runtime_nanotime", "internal/sync.runtime_SemacquireMutex", "sync/atomic.AddInt32", "(*internal/sync.Mutex).Unlock", "internal/race.ReleaseMerge", "(*internal/sync.Mutex).unlockSlow", "internal/sync.fatal", "internal/sync.runtime_Semrelease"], apart := false }
def LawS3812BWakesSaid : Prop := lawS3812BWakesRow.holds Yba.pinned (OpenSpec.ofChange lawS3812BWakesSpec)

/-- ITS FALSE NEIGHBOUR: 'it returns false'. Refute it at one input. -/
def lawS3812BWakesWrong : ChangeSpec := { name := "lawS3812BWakes", fn := fun _ => fun
  | [d] => { results := [.lit (.bool false)], args := [d] }
  | _ => none }
def LawS3812BWakesWrongFalsely : Prop := lawS3812BWakesRow.holds Yba.pinned (OpenSpec.ofChange lawS3812BWakesWrong)

end Rows
end Go.Proofs.Ybulkbzxq
