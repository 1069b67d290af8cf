import Derived.Test.YbulkbzyeFmtE
namespace Go.Proofs
open Go.RowKit Go.Extern.Stop Go.Stop Go.Extern
theorem Ybaf.noIs78 (v : Value) (xT : TypeId) (w : World) : (Instr.typeAssert (.iface 78 v) xT 75 true).run Ybaf.prog w = .ok (.tuple #[.nilIface, .bool false]) w := run_typeAssert_lacksB Ybaf.underlying75 (by kernel_rfl) (by kernel_rfl) v xT w
theorem Ybaf.noAs78 (v : Value) (xT : TypeId) (w : World) : (Instr.typeAssert (.iface 78 v) xT 69 true).run Ybaf.prog w = .ok (.tuple #[.nilIface, .bool false]) w := run_typeAssert_lacksB Ybaf.underlying69 (by kernel_rfl) (by kernel_rfl) v xT w
theorem Ybaf.noUnwraps78 (v : Value) (xT : TypeId) (w : World) : (Instr.typeAssert (.iface 78 v) xT 72 true).run Ybaf.prog w = .ok (.tuple #[.nilIface, .bool false]) w := run_typeAssert_lacksB Ybaf.underlying72 (by kernel_rfl) (by kernel_rfl) v xT w
theorem Ybaf.unwrap78 (v : Value) (xT : TypeId) (w : World) : (Instr.typeAssert (.iface 78 v) xT 56 true).run Ybaf.prog w = .ok (.tuple #[.nilIface, .bool false]) w := run_typeAssert_lacksB Ybaf.underlying56 (by kernel_rfl) (by kernel_rfl) v xT w
theorem Ybaf.syn78 (v : Value) (xT : TypeId) (w : World) : (Instr.typeAssert (.iface 78 v) xT 24 true).run Ybaf.prog w = .ok (.tuple #[.pointer none, .bool false]) w := by kernel_rfl
theorem Ybaf.typeOf78 (v : Value) (w : World) : (callFunc 14 #[.iface 78 v]).run Ybaf.prog w = .ok (.value (.iface 65 (.agg #[.pointer (some ⟨4, 78, none⟩)]))) w := by kernel_rfl
theorem Ybaf.comparable78 (w : World) : (callFunc 49 #[.agg #[.pointer (some ⟨4, 78, none⟩)]]).run Ybaf.prog w = .ok (.value (.bool true)) w := by kernel_rfl
theorem Ybaf.isComp78 : (Ybaf.prog.info? 78).map (·.comparable) = some true := by kernel_rfl
theorem Ybaf.isSize78 : (Ybaf.prog.info? 80).map (fun i => decide (i.size = 0)) = some false := by kernel_rfl
theorem Ybaf.eq78 (a : Addr) (w : World) : (binOp .eql 23 (.iface 78 (.pointer (some a))) (.iface 78 (.pointer (some a)))).run Ybaf.prog w = .ok (.bool true) w := by
  obtain ⟨i, hi, hc⟩ := Option.map_eq_some_iff.1 Ybaf.isComp78
  obtain ⟨j, hj, _⟩ := Option.map_eq_some_iff.1 Ybaf.isSize78
  exact run_eql_iface_ptr_same w a Ybaf.underlying23 Ybaf.underlying78 hi hc hj
theorem Ybaf.ne78 {a b : Addr} {ca cb : Array Value} {ta tb : TypeId} (w : World) (hne : a ≠ b) (ha : w.heap[a.block]? = some (.cells ca ta (0, 0))) (hb : w.heap[b.block]? = some (.cells cb tb (0, 0))) : (binOp .eql 23 (.iface 78 (.pointer (some a))) (.iface 78 (.pointer (some b)))).run Ybaf.prog w = .ok (.bool false) w := by
  obtain ⟨i, hi, hc⟩ := Option.map_eq_some_iff.1 Ybaf.isComp78
  obtain ⟨j, hj, hs⟩ := Option.map_eq_some_iff.1 Ybaf.isSize78
  exact run_eql_iface_ptr_other (P := Ybaf.prog) w Ybaf.underlying23 Ybaf.underlying78 hi hc hj (by simpa using hs) hne ha hb
theorem Ybaf.ty78_63 (u v : Value) (w : World) : (binOp .eql 23 (.iface 78 u) (.iface 63 v)).run Ybaf.prog w = .ok (.bool false) w := run_eql_iface_types (P := Ybaf.prog) 78 63 u v Ybaf.underlying23 (by decide) w
theorem Ybaf.ty78_24 (u v : Value) (w : World) : (binOp .eql 23 (.iface 78 u) (.iface 24 v)).run Ybaf.prog w = .ok (.bool false) w := run_eql_iface_types (P := Ybaf.prog) 78 24 u v Ybaf.underlying23 (by decide) w
theorem Ybaf.ty78_27 (u v : Value) (w : World) : (binOp .eql 23 (.iface 78 u) (.iface 27 v)).run Ybaf.prog w = .ok (.bool false) w := run_eql_iface_types (P := Ybaf.prog) 78 27 u v Ybaf.underlying23 (by decide) w
theorem Ybaf.ty78_30 (u v : Value) (w : World) : (binOp .eql 23 (.iface 78 u) (.iface 30 v)).run Ybaf.prog w = .ok (.bool false) w := run_eql_iface_types (P := Ybaf.prog) 78 30 u v Ybaf.underlying23 (by decide) w
theorem Ybaf.noIs63 (v : Value) (xT : TypeId) (w : World) : (Instr.typeAssert (.iface 63 v) xT 75 true).run Ybaf.prog w = .ok (.tuple #[.nilIface, .bool false]) w := run_typeAssert_lacksB Ybaf.underlying75 (by kernel_rfl) (by kernel_rfl) v xT w
theorem Ybaf.noAs63 (v : Value) (xT : TypeId) (w : World) : (Instr.typeAssert (.iface 63 v) xT 69 true).run Ybaf.prog w = .ok (.tuple #[.nilIface, .bool false]) w := run_typeAssert_lacksB Ybaf.underlying69 (by kernel_rfl) (by kernel_rfl) v xT w
theorem Ybaf.noUnwraps63 (v : Value) (xT : TypeId) (w : World) : (Instr.typeAssert (.iface 63 v) xT 72 true).run Ybaf.prog w = .ok (.tuple #[.nilIface, .bool false]) w := run_typeAssert_lacksB Ybaf.underlying72 (by kernel_rfl) (by kernel_rfl) v xT w
theorem Ybaf.unwrap63 (v : Value) (xT : TypeId) (w : World) : (Instr.typeAssert (.iface 63 v) xT 56 true).run Ybaf.prog w = .ok (.tuple #[.iface 63 v, .bool true]) w := run_typeAssert_hasB Ybaf.underlying56 (by kernel_rfl) v xT w
theorem Ybaf.mUnwrap63 (v : Value) (w : World) : (Go.method 216 63 v "Unwrap").run Ybaf.prog w = .ok (46, v) w := by kernel_rfl
theorem Ybaf.syn63 (v : Value) (xT : TypeId) (w : World) : (Instr.typeAssert (.iface 63 v) xT 24 true).run Ybaf.prog w = .ok (.tuple #[.pointer none, .bool false]) w := by kernel_rfl
theorem Ybaf.typeOf63 (v : Value) (w : World) : (callFunc 14 #[.iface 63 v]).run Ybaf.prog w = .ok (.value (.iface 65 (.agg #[.pointer (some ⟨4, 63, none⟩)]))) w := by kernel_rfl
theorem Ybaf.comparable63 (w : World) : (callFunc 49 #[.agg #[.pointer (some ⟨4, 63, none⟩)]]).run Ybaf.prog w = .ok (.value (.bool true)) w := by kernel_rfl
theorem Ybaf.isComp63 : (Ybaf.prog.info? 63).map (·.comparable) = some true := by kernel_rfl
theorem Ybaf.isSize63 : (Ybaf.prog.info? 101).map (fun i => decide (i.size = 0)) = some false := by kernel_rfl
theorem Ybaf.eq63 (a : Addr) (w : World) : (binOp .eql 23 (.iface 63 (.pointer (some a))) (.iface 63 (.pointer (some a)))).run Ybaf.prog w = .ok (.bool true) w := by
  obtain ⟨i, hi, hc⟩ := Option.map_eq_some_iff.1 Ybaf.isComp63
  obtain ⟨j, hj, _⟩ := Option.map_eq_some_iff.1 Ybaf.isSize63
  exact run_eql_iface_ptr_same w a Ybaf.underlying23 Ybaf.underlying63 hi hc hj
theorem Ybaf.ne63 {a b : Addr} {ca cb : Array Value} {ta tb : TypeId} (w : World) (hne : a ≠ b) (ha : w.heap[a.block]? = some (.cells ca ta (0, 0))) (hb : w.heap[b.block]? = some (.cells cb tb (0, 0))) : (binOp .eql 23 (.iface 63 (.pointer (some a))) (.iface 63 (.pointer (some b)))).run Ybaf.prog w = .ok (.bool false) w := by
  obtain ⟨i, hi, hc⟩ := Option.map_eq_some_iff.1 Ybaf.isComp63
  obtain ⟨j, hj, hs⟩ := Option.map_eq_some_iff.1 Ybaf.isSize63
  exact run_eql_iface_ptr_other (P := Ybaf.prog) w Ybaf.underlying23 Ybaf.underlying63 hi hc hj (by simpa using hs) hne ha hb
theorem Ybaf.ty63_78 (u v : Value) (w : World) : (binOp .eql 23 (.iface 63 u) (.iface 78 v)).run Ybaf.prog w = .ok (.bool false) w := run_eql_iface_types (P := Ybaf.prog) 63 78 u v Ybaf.underlying23 (by decide) w
theorem Ybaf.ty63_24 (u v : Value) (w : World) : (binOp .eql 23 (.iface 63 u) (.iface 24 v)).run Ybaf.prog w = .ok (.bool false) w := run_eql_iface_types (P := Ybaf.prog) 63 24 u v Ybaf.underlying23 (by decide) w
theorem Ybaf.ty63_27 (u v : Value) (w : World) : (binOp .eql 23 (.iface 63 u) (.iface 27 v)).run Ybaf.prog w = .ok (.bool false) w := run_eql_iface_types (P := Ybaf.prog) 63 27 u v Ybaf.underlying23 (by decide) w
theorem Ybaf.ty63_30 (u v : Value) (w : World) : (binOp .eql 23 (.iface 63 u) (.iface 30 v)).run Ybaf.prog w = .ok (.bool false) w := run_eql_iface_types (P := Ybaf.prog) 63 30 u v Ybaf.underlying23 (by decide) w
theorem Ybaf.noIs24 (v : Value) (xT : TypeId) (w : World) : (Instr.typeAssert (.iface 24 v) xT 75 true).run Ybaf.prog w = .ok (.tuple #[.nilIface, .bool false]) w := run_typeAssert_lacksB Ybaf.underlying75 (by kernel_rfl) (by kernel_rfl) v xT w
theorem Ybaf.noAs24 (v : Value) (xT : TypeId) (w : World) : (Instr.typeAssert (.iface 24 v) xT 69 true).run Ybaf.prog w = .ok (.tuple #[.nilIface, .bool false]) w := run_typeAssert_lacksB Ybaf.underlying69 (by kernel_rfl) (by kernel_rfl) v xT w
theorem Ybaf.noUnwraps24 (v : Value) (xT : TypeId) (w : World) : (Instr.typeAssert (.iface 24 v) xT 72 true).run Ybaf.prog w = .ok (.tuple #[.nilIface, .bool false]) w := run_typeAssert_lacksB Ybaf.underlying72 (by kernel_rfl) (by kernel_rfl) v xT w
theorem Ybaf.unwrap24 (v : Value) (xT : TypeId) (w : World) : (Instr.typeAssert (.iface 24 v) xT 56 true).run Ybaf.prog w = .ok (.tuple #[.nilIface, .bool false]) w := run_typeAssert_lacksB Ybaf.underlying56 (by kernel_rfl) (by kernel_rfl) v xT w
theorem Ybaf.syn24 (v : Value) (xT : TypeId) (w : World) : (Instr.typeAssert (.iface 24 v) xT 24 true).run Ybaf.prog w = .ok (.tuple #[v, .bool true]) w := by kernel_rfl
theorem Ybaf.typeOf24 (v : Value) (w : World) : (callFunc 14 #[.iface 24 v]).run Ybaf.prog w = .ok (.value (.iface 65 (.agg #[.pointer (some ⟨4, 24, none⟩)]))) w := by kernel_rfl
theorem Ybaf.comparable24 (w : World) : (callFunc 49 #[.agg #[.pointer (some ⟨4, 24, none⟩)]]).run Ybaf.prog w = .ok (.value (.bool true)) w := by kernel_rfl
theorem Ybaf.isComp24 : (Ybaf.prog.info? 24).map (·.comparable) = some true := by kernel_rfl
theorem Ybaf.isSize24 : (Ybaf.prog.info? 26).map (fun i => decide (i.size = 0)) = some false := by kernel_rfl
theorem Ybaf.eq24 (a : Addr) (w : World) : (binOp .eql 23 (.iface 24 (.pointer (some a))) (.iface 24 (.pointer (some a)))).run Ybaf.prog w = .ok (.bool true) w := by
  obtain ⟨i, hi, hc⟩ := Option.map_eq_some_iff.1 Ybaf.isComp24
  obtain ⟨j, hj, _⟩ := Option.map_eq_some_iff.1 Ybaf.isSize24
  exact run_eql_iface_ptr_same w a Ybaf.underlying23 Ybaf.underlying24 hi hc hj
theorem Ybaf.ne24 {a b : Addr} {ca cb : Array Value} {ta tb : TypeId} (w : World) (hne : a ≠ b) (ha : w.heap[a.block]? = some (.cells ca ta (0, 0))) (hb : w.heap[b.block]? = some (.cells cb tb (0, 0))) : (binOp .eql 23 (.iface 24 (.pointer (some a))) (.iface 24 (.pointer (some b)))).run Ybaf.prog w = .ok (.bool false) w := by
  obtain ⟨i, hi, hc⟩ := Option.map_eq_some_iff.1 Ybaf.isComp24
  obtain ⟨j, hj, hs⟩ := Option.map_eq_some_iff.1 Ybaf.isSize24
  exact run_eql_iface_ptr_other (P := Ybaf.prog) w Ybaf.underlying23 Ybaf.underlying24 hi hc hj (by simpa using hs) hne ha hb
theorem Ybaf.ty24_78 (u v : Value) (w : World) : (binOp .eql 23 (.iface 24 u) (.iface 78 v)).run Ybaf.prog w = .ok (.bool false) w := run_eql_iface_types (P := Ybaf.prog) 24 78 u v Ybaf.underlying23 (by decide) w
theorem Ybaf.ty24_63 (u v : Value) (w : World) : (binOp .eql 23 (.iface 24 u) (.iface 63 v)).run Ybaf.prog w = .ok (.bool false) w := run_eql_iface_types (P := Ybaf.prog) 24 63 u v Ybaf.underlying23 (by decide) w
theorem Ybaf.ty24_27 (u v : Value) (w : World) : (binOp .eql 23 (.iface 24 u) (.iface 27 v)).run Ybaf.prog w = .ok (.bool false) w := run_eql_iface_types (P := Ybaf.prog) 24 27 u v Ybaf.underlying23 (by decide) w
theorem Ybaf.ty24_30 (u v : Value) (w : World) : (binOp .eql 23 (.iface 24 u) (.iface 30 v)).run Ybaf.prog w = .ok (.bool false) w := run_eql_iface_types (P := Ybaf.prog) 24 30 u v Ybaf.underlying23 (by decide) w
theorem Ybaf.noIs27 (v : Value) (xT : TypeId) (w : World) : (Instr.typeAssert (.iface 27 v) xT 75 true).run Ybaf.prog w = .ok (.tuple #[.nilIface, .bool false]) w := run_typeAssert_lacksB Ybaf.underlying75 (by kernel_rfl) (by kernel_rfl) v xT w
theorem Ybaf.noAs27 (v : Value) (xT : TypeId) (w : World) : (Instr.typeAssert (.iface 27 v) xT 69 true).run Ybaf.prog w = .ok (.tuple #[.nilIface, .bool false]) w := run_typeAssert_lacksB Ybaf.underlying69 (by kernel_rfl) (by kernel_rfl) v xT w
theorem Ybaf.noUnwraps27 (v : Value) (xT : TypeId) (w : World) : (Instr.typeAssert (.iface 27 v) xT 72 true).run Ybaf.prog w = .ok (.tuple #[.nilIface, .bool false]) w := run_typeAssert_lacksB Ybaf.underlying72 (by kernel_rfl) (by kernel_rfl) v xT w
theorem Ybaf.unwrap27 (v : Value) (xT : TypeId) (w : World) : (Instr.typeAssert (.iface 27 v) xT 56 true).run Ybaf.prog w = .ok (.tuple #[.nilIface, .bool false]) w := run_typeAssert_lacksB Ybaf.underlying56 (by kernel_rfl) (by kernel_rfl) v xT w
theorem Ybaf.syn27 (v : Value) (xT : TypeId) (w : World) : (Instr.typeAssert (.iface 27 v) xT 24 true).run Ybaf.prog w = .ok (.tuple #[.pointer none, .bool false]) w := by kernel_rfl
theorem Ybaf.typeOf27 (v : Value) (w : World) : (callFunc 14 #[.iface 27 v]).run Ybaf.prog w = .ok (.value (.iface 65 (.agg #[.pointer (some ⟨4, 27, none⟩)]))) w := by kernel_rfl
theorem Ybaf.comparable27 (w : World) : (callFunc 49 #[.agg #[.pointer (some ⟨4, 27, none⟩)]]).run Ybaf.prog w = .ok (.value (.bool true)) w := by kernel_rfl
theorem Ybaf.isComp27 : (Ybaf.prog.info? 27).map (·.comparable) = some true := by kernel_rfl
theorem Ybaf.isSize27 : (Ybaf.prog.info? 29).map (fun i => decide (i.size = 0)) = some false := by kernel_rfl
theorem Ybaf.eq27 (a : Addr) (w : World) : (binOp .eql 23 (.iface 27 (.pointer (some a))) (.iface 27 (.pointer (some a)))).run Ybaf.prog w = .ok (.bool true) w := by
  obtain ⟨i, hi, hc⟩ := Option.map_eq_some_iff.1 Ybaf.isComp27
  obtain ⟨j, hj, _⟩ := Option.map_eq_some_iff.1 Ybaf.isSize27
  exact run_eql_iface_ptr_same w a Ybaf.underlying23 Ybaf.underlying27 hi hc hj
theorem Ybaf.ne27 {a b : Addr} {ca cb : Array Value} {ta tb : TypeId} (w : World) (hne : a ≠ b) (ha : w.heap[a.block]? = some (.cells ca ta (0, 0))) (hb : w.heap[b.block]? = some (.cells cb tb (0, 0))) : (binOp .eql 23 (.iface 27 (.pointer (some a))) (.iface 27 (.pointer (some b)))).run Ybaf.prog w = .ok (.bool false) w := by
  obtain ⟨i, hi, hc⟩ := Option.map_eq_some_iff.1 Ybaf.isComp27
  obtain ⟨j, hj, hs⟩ := Option.map_eq_some_iff.1 Ybaf.isSize27
  exact run_eql_iface_ptr_other (P := Ybaf.prog) w Ybaf.underlying23 Ybaf.underlying27 hi hc hj (by simpa using hs) hne ha hb
theorem Ybaf.ty27_78 (u v : Value) (w : World) : (binOp .eql 23 (.iface 27 u) (.iface 78 v)).run Ybaf.prog w = .ok (.bool false) w := run_eql_iface_types (P := Ybaf.prog) 27 78 u v Ybaf.underlying23 (by decide) w
theorem Ybaf.ty27_63 (u v : Value) (w : World) : (binOp .eql 23 (.iface 27 u) (.iface 63 v)).run Ybaf.prog w = .ok (.bool false) w := run_eql_iface_types (P := Ybaf.prog) 27 63 u v Ybaf.underlying23 (by decide) w
theorem Ybaf.ty27_24 (u v : Value) (w : World) : (binOp .eql 23 (.iface 27 u) (.iface 24 v)).run Ybaf.prog w = .ok (.bool false) w := run_eql_iface_types (P := Ybaf.prog) 27 24 u v Ybaf.underlying23 (by decide) w
theorem Ybaf.ty27_30 (u v : Value) (w : World) : (binOp .eql 23 (.iface 27 u) (.iface 30 v)).run Ybaf.prog w = .ok (.bool false) w := run_eql_iface_types (P := Ybaf.prog) 27 30 u v Ybaf.underlying23 (by decide) w
theorem Ybaf.noIs30 (v : Value) (xT : TypeId) (w : World) : (Instr.typeAssert (.iface 30 v) xT 75 true).run Ybaf.prog w = .ok (.tuple #[.nilIface, .bool false]) w := run_typeAssert_lacksB Ybaf.underlying75 (by kernel_rfl) (by kernel_rfl) v xT w
theorem Ybaf.noAs30 (v : Value) (xT : TypeId) (w : World) : (Instr.typeAssert (.iface 30 v) xT 69 true).run Ybaf.prog w = .ok (.tuple #[.nilIface, .bool false]) w := run_typeAssert_lacksB Ybaf.underlying69 (by kernel_rfl) (by kernel_rfl) v xT w
theorem Ybaf.noUnwraps30 (v : Value) (xT : TypeId) (w : World) : (Instr.typeAssert (.iface 30 v) xT 72 true).run Ybaf.prog w = .ok (.tuple #[.nilIface, .bool false]) w := run_typeAssert_lacksB Ybaf.underlying72 (by kernel_rfl) (by kernel_rfl) v xT w
theorem Ybaf.unwrap30 (v : Value) (xT : TypeId) (w : World) : (Instr.typeAssert (.iface 30 v) xT 56 true).run Ybaf.prog w = .ok (.tuple #[.iface 30 v, .bool true]) w := run_typeAssert_hasB Ybaf.underlying56 (by kernel_rfl) v xT w
theorem Ybaf.mUnwrap30 (v : Value) (w : World) : (Go.method 216 30 v "Unwrap").run Ybaf.prog w = .ok (41, v) w := by kernel_rfl
theorem Ybaf.syn30 (v : Value) (xT : TypeId) (w : World) : (Instr.typeAssert (.iface 30 v) xT 24 true).run Ybaf.prog w = .ok (.tuple #[.pointer none, .bool false]) w := by kernel_rfl
theorem Ybaf.typeOf30 (v : Value) (w : World) : (callFunc 14 #[.iface 30 v]).run Ybaf.prog w = .ok (.value (.iface 65 (.agg #[.pointer (some ⟨4, 30, none⟩)]))) w := by kernel_rfl
theorem Ybaf.comparable30 (w : World) : (callFunc 49 #[.agg #[.pointer (some ⟨4, 30, none⟩)]]).run Ybaf.prog w = .ok (.value (.bool true)) w := by kernel_rfl
theorem Ybaf.isComp30 : (Ybaf.prog.info? 30).map (·.comparable) = some true := by kernel_rfl
theorem Ybaf.isSize30 : (Ybaf.prog.info? 32).map (fun i => decide (i.size = 0)) = some false := by kernel_rfl
theorem Ybaf.eq30 (a : Addr) (w : World) : (binOp .eql 23 (.iface 30 (.pointer (some a))) (.iface 30 (.pointer (some a)))).run Ybaf.prog w = .ok (.bool true) w := by
  obtain ⟨i, hi, hc⟩ := Option.map_eq_some_iff.1 Ybaf.isComp30
  obtain ⟨j, hj, _⟩ := Option.map_eq_some_iff.1 Ybaf.isSize30
  exact run_eql_iface_ptr_same w a Ybaf.underlying23 Ybaf.underlying30 hi hc hj
theorem Ybaf.ne30 {a b : Addr} {ca cb : Array Value} {ta tb : TypeId} (w : World) (hne : a ≠ b) (ha : w.heap[a.block]? = some (.cells ca ta (0, 0))) (hb : w.heap[b.block]? = some (.cells cb tb (0, 0))) : (binOp .eql 23 (.iface 30 (.pointer (some a))) (.iface 30 (.pointer (some b)))).run Ybaf.prog w = .ok (.bool false) w := by
  obtain ⟨i, hi, hc⟩ := Option.map_eq_some_iff.1 Ybaf.isComp30
  obtain ⟨j, hj, hs⟩ := Option.map_eq_some_iff.1 Ybaf.isSize30
  exact run_eql_iface_ptr_other (P := Ybaf.prog) w Ybaf.underlying23 Ybaf.underlying30 hi hc hj (by simpa using hs) hne ha hb
theorem Ybaf.ty30_78 (u v : Value) (w : World) : (binOp .eql 23 (.iface 30 u) (.iface 78 v)).run Ybaf.prog w = .ok (.bool false) w := run_eql_iface_types (P := Ybaf.prog) 30 78 u v Ybaf.underlying23 (by decide) w
theorem Ybaf.ty30_63 (u v : Value) (w : World) : (binOp .eql 23 (.iface 30 u) (.iface 63 v)).run Ybaf.prog w = .ok (.bool false) w := run_eql_iface_types (P := Ybaf.prog) 30 63 u v Ybaf.underlying23 (by decide) w
theorem Ybaf.ty30_24 (u v : Value) (w : World) : (binOp .eql 23 (.iface 30 u) (.iface 24 v)).run Ybaf.prog w = .ok (.bool false) w := run_eql_iface_types (P := Ybaf.prog) 30 24 u v Ybaf.underlying23 (by decide) w
theorem Ybaf.ty30_27 (u v : Value) (w : World) : (binOp .eql 23 (.iface 30 u) (.iface 27 v)).run Ybaf.prog w = .ok (.bool false) w := run_eql_iface_types (P := Ybaf.prog) 30 27 u v Ybaf.underlying23 (by decide) w
theorem Ybaf.mComparable (v : Value) (w : World) : (Go.method 216 65 v "Comparable").run Ybaf.prog w = .ok (49, v) w := by kernel_rfl
end Go.Proofs
