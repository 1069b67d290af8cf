import Derived.Test.YbulkbzxqCounts
namespace Go.Proofs.Ybulkbzxq
open Go.RowKit Go.Conc Go.MuLone

theorem chan_new (w : World) (o o2 : Obj) : ((w.alloc o).alloc o2).heap[w.heap.size]? = some o := by
  rw [Below.heap_alloc _ _ _ (by simp)]
  exact heap_alloc_new w _
theorem blk_new (w : World) (o o2 : Obj) : ((w.alloc o).alloc o2).heap[w.heap.size + 1]? = some o2 := by
  have := heap_alloc_new (w.alloc o) o2
  simpa only [World.size_alloc] using this
theorem bel_new (w : World) (o2 : Obj) : Below w.heap.size w ((w.alloc (.chan 1 #[] false 0 0 false)).alloc o2) :=
  ((Below.refl _ _).alloc (Nat.le_refl _) _).alloc (by simp) _
theorem bel_sent (w : World) (o2 : Obj) : Below w.heap.size w (((w.alloc (.chan 1 #[] false 0 0 false)).alloc o2).setChan w.heap.size 1 (#[].push (.agg #[])) false (0 + 1) 0 false) :=
  below_setChan (bel_new w o2) (Nat.le_refl _) _ _ _ _ _ _
theorem tly_new {a0 : Int} {w : World} {zs : List Int} (h : IntKind.u64.wrap (a0 + ((0 : Nat) : Int)) = a0) :
    Tly ((w.alloc (.chan 1 #[] false 0 0 false)).alloc (.cells #[.int .i32 0, .int .u32 0, .int .u64 a0, .int .i64 0, .chan (some w.heap.size)] 34)) (w.heap.size + 1) w.heap.size 34 (IntKind.u64.wrap (a0 + ((0 : Nat) : Int))) (.int .i64 (lat zs 0)) false := by
  rw [h]
  exact ⟨blk_new _ _ _, 0, 0, chan_new _ _ _⟩
theorem tly_sent {a0 : Int} {w : World} {zs : List Int} (h : IntKind.u64.wrap (a0 + ((0 : Nat) : Int)) = a0) :
    Tly (((w.alloc (.chan 1 #[] false 0 0 false)).alloc (.cells #[.int .i32 0, .int .u32 0, .int .u64 a0, .int .i64 0, .chan (some w.heap.size)] 34)).setChan w.heap.size 1 (#[].push (.agg #[])) false (0 + 1) 0 false) (w.heap.size + 1) w.heap.size 34 (IntKind.u64.wrap (a0 + ((0 : Nat) : Int))) (.int .i64 (lat zs 0)) true := by
  rw [h]
  refine ⟨?_, 1, 0, ?_⟩
  · rw [setChan_other _ _ _ _ _ _ _ _ _ (by omega)]; exact blk_new _ _ _
  · exact heap_setChan _ _ _ _ _ _ _ _ (by simp; omega)

set_option maxHeartbeats 2000000 in
set_option maxRecDepth 100000 in
theorem counts_true (a0 : Int) (a1 : Option Addr) (n c1 : Nat) (zs : List Int) (w : World) (hn : n ≤ 1024) (ha : IntKind.u64.wrap (a0 + ((0 : Nat) : Int)) = a0) (hr : RowOf w a1 n zs) :
    Calls Yba.prog 3 #[.int .u64 a0, .slice a1 n c1, .bool true] w fun e w' => e = .returned (.bool true) ∧ Below w.heap.size w w' := by
  have HA : Hid (IntKind.u64.wrap (a0 + ((0 : Nat) : Int)) = a0) := ha
  have HR : Hid (RowOf w a1 n zs) := hr
  clear ha hr
  have hbd := bd
  have hmk := mk1
  have t1 : decide (1024 < (n : Int)) = false := by simp; omega
  refine calls_of_wpN Yba.func3 rfl ?_
  simp only [Yba.ntmps3, List.size_toArray, List.length_cons, List.length_nil, Nat.reduceAdd, Nat.reduceSub, Array.replicate_succ,
     Array.replicate_zero, List.push_toArray, List.append_toArray, List.nil_append, List.cons_append]
  refine wpN_seq_k fun K hK => ?_
  refine wpN_of_wp ?_
  go_wp2_with fail
  refine wpN_seq_k fun K hK => ?_
  refine wpN_of_wp ?_
  go_wp2_with fail
  refine wpN_seq_k fun K hK => ?_
  refine wpN_of_wp ?_
  go_wp2_with fail
  refine wpN_seq_k fun K hK => ?_
  refine wpN_seq_k fun K2 hK2 => ?_
  refine wpN_of_wp ?_
  go_wp2_with fail
  refine wpN_cond (t := true) rfl ?_
  simp only [if_true]
  refine wpN_of_lone fun bb kk cs hbb => ?_
  refine LoneTo.goes (n := 10) ?_
  s_reg
  s_in
  refine goes_oper_k rfl rfl hbb (fun KK hKK => ?_)
  go_simp
  refine hKK _ _ ⟨trivial, ?_⟩
  clear hKK KK
  s_in
  refine goes_oper_k rfl rfl hbb (fun KK hKK => ?_)
  go_simp
  refine hKK _ _ ⟨trivial, ?_⟩
  clear hKK KK
  s_in
  refine goes_oper_k rfl rfl hbb (fun KK hKK => ?_)
  go_simp
  refine hKK _ _ ⟨trivial, ?_⟩
  clear hKK KK
  s_in
  refine goes_oper_k rfl rfl hbb (fun KK hKK => ?_)
  go_simp
  refine hKK _ _ ⟨trivial, ?_⟩
  clear hKK KK
  s_in
  refine goes_oper_k rfl rfl hbb (fun KK hKK => ?_)
  go_simp
  refine hKK _ _ ⟨trivial, ?_⟩
  clear hKK KK
  s_stop
  refine LoneTo.step (step_lone_send_room (c := w.heap.size) (cap := 1) (buf := #[]) (s := 0) (r := 0) (tm := false) (stepG_comm (cases := #[scase w.heap.size (.agg #[]) (.tuple #[])]) (blocking := true) (shape := .send) (w' := (w.alloc (.chan 1 #[] false 0 0 false)).alloc (.cells #[.int .i32 0, .int .u32 0, .int .u64 a0, .int .i64 0, .chan (some w.heap.size)] 34)) rfl rfl hbb (by simp [execOp, scase, Act.eval])) (chan_new _ _ _) (by simp)) ?_
  rw [Frame.finish_at]
  walk_nrm
  refine LoneTo.goes (n := 10) ?_
  s_c stepG_region_end
  s_stop
  refine LoneTo.done ⟨_, rfl, ?_⟩
  refine hK _ _ ?_
  refine wpN_of_wp ?_
  exact ctail a0 a1 n c1 (w.heap.size + 1) w.heap.size true zs w _ _ _ _ _ _ _ _ _ _ _ _ _ _ _ _ _ _ _ _ _ _ _ _ _ _ _ _ _ _ _ _ _ _ _ _ _ _ _ _ _ _ _ _ _ _ _ _ _ _ _ _ _ _ _ _ _ _ _ _ _ _ _ _ _ hn (tly_sent HA.out) (by omega) (Nat.le_refl _) (bel_sent w _) HR.out

set_option maxHeartbeats 2000000 in
set_option maxRecDepth 100000 in
theorem counts_false (a0 : Int) (a1 : Option Addr) (n c1 : Nat) (zs : List Int) (w : World) (hn : n ≤ 1024) (ha : IntKind.u64.wrap (a0 + ((0 : Nat) : Int)) = a0) (hr : RowOf w a1 n zs) :
    Calls Yba.prog 3 #[.int .u64 a0, .slice a1 n c1, .bool false] w fun e w' => e = .returned (.bool true) ∧ Below w.heap.size w w' := by
  have HA : Hid (IntKind.u64.wrap (a0 + ((0 : Nat) : Int)) = a0) := ha
  have HR : Hid (RowOf w a1 n zs) := hr
  clear ha hr
  have hbd := bd
  have hmk := mk1
  have t1 : decide (1024 < (n : Int)) = false := by simp; omega
  refine calls_of_wpN Yba.func3 rfl ?_
  simp only [Yba.ntmps3, List.size_toArray, List.length_cons, List.length_nil, Nat.reduceAdd, Nat.reduceSub, Array.replicate_succ,
     Array.replicate_zero, List.push_toArray, List.append_toArray, List.nil_append, List.cons_append]
  refine wpN_seq_k fun K hK => ?_
  refine wpN_of_wp ?_
  go_wp2_with fail
  refine wpN_seq_k fun K hK => ?_
  refine wpN_of_wp ?_
  go_wp2_with fail
  refine wpN_seq_k fun K hK => ?_
  refine wpN_of_wp ?_
  go_wp2_with fail
  refine wpN_seq_k fun K hK => ?_
  refine wpN_seq_k fun K2 hK2 => ?_
  refine wpN_of_wp ?_
  go_wp2_with fail
  refine wpN_cond (t := false) rfl ?_
  simp only [Bool.false_eq_true, if_false]
  refine wpN_of_wp ?_
  go_wp2_with fail
  refine wpN_of_wp ?_
  exact ctail a0 a1 n c1 (w.heap.size + 1) w.heap.size false zs w _ _ _ _ _ _ _ _ _ _ _ _ _ _ _ _ _ _ _ _ _ _ _ _ _ _ _ _ _ _ _ _ _ _ _ _ _ _ _ _ _ _ _ _ _ _ _ _ _ _ _ _ _ _ _ _ _ _ _ _ _ _ _ _ _ hn (tly_new HA.out) (by omega) (Nat.le_refl _) (bel_new w _) HR.out

set_option maxRecDepth 100000 in
theorem counts_long (a0 : Int) (a1 : Option Addr) (n c1 : Nat) (pre : Bool) (w : World) (hn : 1024 < n) :
    Calls Yba.prog 3 #[.int .u64 a0, .slice a1 n c1, .bool pre] w fun e w' => e = .returned (.bool true) ∧ Below w.heap.size w w' := by
  have t1 : decide (1024 < (n : Int)) = true := by simp; omega
  go_enter Yba.func3, Yba.ntmps3
  go_wp2
  go_ret
  exact ⟨rfl, Below.refl _ _⟩
end Go.Proofs.Ybulkbzxq
