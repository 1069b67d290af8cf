/-
  DERIVED: THE SHELF's CONTRACTS AT THIS DUMP, IN PLAIN WORDS (tools/lay-plain.mjs out of 'YbafSrch.lean', which tools/lay-shelf.mjs wrote): THE SAME DECLARATIONS UNDER THE SAME NAMES: 'import', 'namespace', 'open', 'def', 'theorem' AND NOTHING ELSE: no command of the shelf's: FOR A HAND-IN. Each laying: the table of numbers ('.._ren') and one theorem, a field a fact of the dump's own or the kernel's comparison; each contract: ONE APPLICATION.
-/
import Derived.Shelf.SlSorted.Search
import Derived.Test.YbulkbzwoFmtProg
namespace Go.Proofs
open Go.Shelf
def Ybaf.laysO16_ren : Go.Shelf.Ren := ⟨fun | 16 => 26 | n => n, fun | 3 => 3 | 35 => 52 | 4 => 4 | 38 => 36 | n => n, fun | n => n⟩
theorem Ybaf.laysO16 : Go.Proofs.SlLaysO.n16 Ybaf.prog Ybaf.laysO16_ren := {
  mixed := by kernel_rfl
  f16 := Ybaf.func26.trans (congrArg some (by kernel_rfl))
  t3 := Ybaf.underlying3
  a3 := Ybaf.isAgg3
  z3 := Ybaf.sizeOf3
  v3 := Ybaf.zeroValue3
  t4 := Ybaf.underlying4
  a4 := Ybaf.isAgg4
  z4 := Ybaf.sizeOf4
  v4 := Ybaf.zeroValue4
  t35 := Ybaf.underlying52
  a35 := Ybaf.isAgg52
  z35 := Ybaf.sizeOf52
  v35 := Ybaf.zeroValue52
  t38 := Ybaf.underlying36
  a38 := Ybaf.isAgg36
  z38 := Ybaf.sizeOf36
  v38 := Ybaf.zeroValue36 }
open Go.RowKit Go.Lib Go.Sort in
theorem Ybaf.sort_Search (g : Nat) (cb : Array Value) (n : Nat) (p : Nat → Bool) (w : World) (eg : ∀ args w, (callFunc g args).run Ybaf.prog w = .ok (.enter g args) w) (hsz : n < 4611686018427387904)
    (hf : ∀ (m : Nat) (os : Array Obj) (i : Nat), i < n → Calls Ybaf.prog g (#[.int .i64 i] ++ cb) (grow (w.drewN m) os) fun e w' => e = .returned (.bool (p i)) ∧ ∃ q os', w' = grow ((grow (w.drewN m) os).drewN q) os')
    (hmono : ∀ a b, a ≤ b → b < n → p a = true → p b = true) :
    Calls Ybaf.prog 26 #[.int .i64 n, .func (.func g) #[] cb] w fun e w' => e = .returned (.int .i64 ((List.range n).countP (fun i => !p i) : Nat)) ∧ ∃ q os, w' = grow (w.drewN q) os := Any.sort_Search Ybaf.laysO16 g cb n p w eg hsz hf hmono
end Go.Proofs
