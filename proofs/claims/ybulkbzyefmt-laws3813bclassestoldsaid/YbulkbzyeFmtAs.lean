import Derived.Test.YbulkbzyeFmtG
namespace Go.Proofs
open Go.RowKit Go.Extern.Stop Go.Stop Go.Extern
theorem Ybaf.valueOf35 (t : Addr) (w : World) : (callFunc 10 #[.iface 35 (.pointer (some t))]).run Ybaf.prog w
    = .ok (.value (.agg #[.pointer (some ⟨4, 35, none⟩), .pointer (some ⟨w.heap.size, 0, none⟩), .int .u64 150])) (w.alloc (.cells #[.pointer (some t)] 35)) := by kernel_rfl
theorem Ybaf.rlType35 (a : Addr) (w : World) : (callFunc 11 #[.agg #[.pointer (some ⟨4, 35, none⟩), .pointer (some a), .int .u64 150]]).run Ybaf.prog w
    = .ok (.value (.iface 65 (.agg #[.pointer (some ⟨4, 35, none⟩)]))) w := by kernel_rfl
theorem Ybaf.mKind (h : Value) (w : World) : (Go.method 216 65 (.agg #[h]) "Kind").run Ybaf.prog w = .ok (36, h) w := by kernel_rfl
theorem Ybaf.mElem (h : Value) (w : World) : (Go.method 216 65 (.agg #[h]) "Elem").run Ybaf.prog w = .ok (50, .agg #[h]) w := by kernel_rfl
theorem Ybaf.mImplements (h : Value) (w : World) : (Go.method 216 65 (.agg #[h]) "Implements").run Ybaf.prog w = .ok (51, .agg #[h]) w := by kernel_rfl
theorem Ybaf.mAssignableTo (h : Value) (w : World) : (Go.method 216 65 (.agg #[h]) "AssignableTo").run Ybaf.prog w = .ok (48, .agg #[h]) w := by kernel_rfl
theorem Ybaf.kind35 (w : World) : (callFunc 36 #[.pointer (some ⟨4, 35, none⟩)]).run Ybaf.prog w = .ok (.value (.int .u8 22)) w := by kernel_rfl
theorem Ybaf.kind24 (w : World) : (callFunc 36 #[.pointer (some ⟨4, 24, none⟩)]).run Ybaf.prog w = .ok (.value (.int .u8 22)) w := by kernel_rfl
theorem Ybaf.elem35 (w : World) : (callFunc 50 #[.agg #[.pointer (some ⟨4, 35, none⟩)]]).run Ybaf.prog w = .ok (.value (.iface 65 (.agg #[.pointer (some ⟨4, 24, none⟩)]))) w := by kernel_rfl
theorem Ybaf.implements24 (w : World) : (callFunc 51 #[.agg #[.pointer (some ⟨4, 24, none⟩)], .iface 65 (.agg #[.pointer (some ⟨4, 23, none⟩)])]).run Ybaf.prog w = .ok (.value (.bool true)) w := by kernel_rfl
theorem Ybaf.assignable78 (w : World) : (callFunc 48 #[.agg #[.pointer (some ⟨4, 78, none⟩)], .iface 65 (.agg #[.pointer (some ⟨4, 24, none⟩)])]).run Ybaf.prog w = .ok (.value (.bool false)) w := by kernel_rfl
theorem Ybaf.parts35 (a : Addr) (w : World) : (ReflectliteValue.parts (.agg #[.pointer (some ⟨4, 35, none⟩), .pointer (some a), .int .u64 150])).run Ybaf.prog w = .ok (some (35, a, 150)) w := by kernel_rfl
theorem Ybaf.rlm (z : Sem Value) (f : TypeId → Addr → Nat → Nat → Sem Value) (v : Value) :
    ReflectliteValue.method z f #[v] = (do match ← ReflectliteValue.parts v with | none => z | some (t, a, fl) => f t a fl (fl % 32)) := rfl
theorem Ybaf.isNil35 (a p : Addr) (W : World) (ha : W.cell? a = some (.pointer (some p))) :
    (callFunc 12 #[.agg #[.pointer (some ⟨4, 35, none⟩), .pointer (some a), .int .u64 150]]).run Ybaf.prog W = .ok (.value (.bool false)) W := by
  rw [@run_callFunc_extern Ybaf.prog 12 _ (ReflectliteValue.method (ReflectliteValue.valueError "reflectlite.Value.IsNil" 0) ReflectliteValue.isNil) Ybaf.func12 (by kernel_rfl) (by kernel_rfl) (by kernel_rfl) (by kernel_rfl)]
  rw [Ybaf.rlm]
  simp only [Sem.run_bind, Ybaf.parts35, Result.andThen]
  simp [ReflectliteValue.isNil, loadVar, isAgg, underlying, Ybaf.underlying35, ha, Result.andThen]
end Go.Proofs
namespace Go.Proofs.YbulkbzyeFmt
open Go.RowKit Go.Extern.Stop Go.Stop Go.Extern

set_option maxHeartbeats 4000000 in
/-- errors.as at an error of errors.New's make and the target's element type *json.SyntaxError. -/
theorem as13 (a : Addr) (tv : Value) (w : World) (x0 x1 x2 : Value) :
    Calls Ybaf.prog 13 #[.iface 78 (.pointer (some a)), tv, .agg #[x0, x1, x2], .iface 65 (.agg #[.pointer (some ⟨4, 24, none⟩)])] w fun e w' => e = .returned (.bool false) ∧ w' = w.alloc (.cells #[x0, x1, x2] 44) := by
  have t78 := Ybaf.typeOf78
  have mA := Ybaf.mAssignableTo
  have s78 := Ybaf.assignable78
  have b78 := Ybaf.noAs78
  have c78 := Ybaf.noUnwraps78
  have d78 := Ybaf.unwrap78
  go_enter Ybaf.func13, Ybaf.ntmps13
  go_wp2
  refine wp_loop_rounds 1 ?_
  rw [rounds_succ]
  go_wp2
  go_ret
  exact ⟨rfl, rfl⟩

set_option maxHeartbeats 4000000 in
theorem as5 (a t : Addr) (w : World) (hg : w.cell? ⟨3, 0, none⟩ = some (.iface 65 (.agg #[.pointer (some ⟨4, 23, none⟩)]))) :
    Calls Ybaf.prog 5 #[.iface 78 (.pointer (some a)), .iface 35 (.pointer (some t))] w fun e w' => e = .returned (.bool false) ∧ Below w.heap.size w w' := by
  have f6 := Ybaf.valueOf35
  have f7 := Ybaf.rlType35
  have mK := Ybaf.mKind
  have mE := Ybaf.mElem
  have mI := Ybaf.mImplements
  have k35 := Ybaf.kind35
  have k24 := Ybaf.kind24
  have e35 := Ybaf.elem35
  have i24 := Ybaf.implements24
  have hb2 : Below w.heap.size w ((w.alloc (.cells #[.pointer (some t)] 35)).alloc (.cells #[.pointer (some ⟨4, 35, none⟩), .pointer (some ⟨w.heap.size, 0, none⟩), .int .u64 150] 44)) := ((Below.refl _ _).alloc (Nat.le_refl _) _).alloc (by simp) _
  have n8 := Ybaf.isNil35 ⟨w.heap.size, 0, none⟩ t ((w.alloc (.cells #[.pointer (some t)] 35)).alloc (.cells #[.pointer (some ⟨4, 35, none⟩), .pointer (some ⟨w.heap.size, 0, none⟩), .int .u64 150] 44)) (by simp)
  have hg2 := cell_later hb2 hg
  have HB : Hid _ := hb2
  clear hb2
  go_enter Ybaf.func5, Ybaf.ntmps5
  go_wp2_with fail
  refine (as13 a _ _ _ _ _).mono ?_
  rintro e w' ⟨rfl, rfl⟩
  go_wp2_with fail
  go_ret
  exact ⟨rfl, HB.out.alloc (by simp; omega) _⟩
end Go.Proofs.YbulkbzyeFmt
