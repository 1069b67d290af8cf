import Derived.Test.YbulkbzxqN
namespace Go.Proofs.Ybulkbzxq
open Go.RowKit Go.Conc Go.MuLone

theorem bd (w : World) : (Instr.build 26 #[]).run Yba.prog w = .ok (.agg #[]) w := run_build w 26 #[] #[] (by kernel_rfl)

/-- the world behind the two stores under the lock. -/
def W1 (w : World) (b : Nat) (n : Int) (v : Value) : World :=
  (((w.setCell ⟨b, 0, none⟩ (.int .i32 1)).setCell ⟨b, 2, none⟩ (.int .u64 n)).setCell ⟨b, 3, none⟩ v).setCell ⟨b, 0, none⟩ (.int .i32 0)

set_option maxHeartbeats 1000000 in
set_option maxRecDepth 100000 in
theorem add5_room (b c : Nat) (n : Int) (v : Int) (l : Value) (s r : Nat) (w : World) (h0 : w.cell? ⟨b, 0, none⟩ = some (.int .i32 0)) (h2 : w.cell? ⟨b, 2, none⟩ = some (.int .u64 n)) (h3 : w.cell? ⟨b, 3, none⟩ = some l) (h4 : w.cell? ⟨b, 4, none⟩ = some (.chan (some c)))
    (f0 : w.frozen? ⟨b, 0, none⟩ = false) (f2 : w.frozen? ⟨b, 2, none⟩ = false) (f3 : w.frozen? ⟨b, 3, none⟩ = false) (hc : (W1 w b (IntKind.u64.wrap (n + 1)) (.int .i64 v)).heap[c]? = some (.chan 1 #[] false s r false)) :
    Calls Yba.prog 5 #[.pointer (some ⟨b, 0, none⟩), .int .i64 v] w fun e w' => e = .returned (.tuple #[]) ∧ w' = (W1 w b (IntKind.u64.wrap (n + 1)) (.int .i64 v)).setChan c 1 #[.agg #[]] false (s + 1) r false := by
  have hbd := bd
  have HC : Hid ((W1 w b (IntKind.u64.wrap (n + 1)) (.int .i64 v)).heap[c]? = some (.chan 1 #[] false s r false)) := hc
  clear hc
  refine calls_of_wpN Yba.func5 rfl ?_
  simp only [Yba.ntmps5, List.size_toArray, List.length_cons, List.length_nil, Nat.reduceAdd, Nat.reduceSub, Array.replicate_succ,
     Array.replicate_zero, List.push_toArray, List.append_toArray, List.nil_append, List.cons_append]
  refine wpN_seq_k fun K hK => ?_
  refine wpN_of_wp ?_
  go_wp2_with fail
  refine (lock_free Yba.muLib ⟨b, 0, none⟩ _ h0 f0).mono ?_
  rintro e w1 ⟨rfl, rfl⟩
  go_wp2_with fail
  refine wpN_seq_k fun K hK => ?_
  refine wpN_of_wp ?_
  go_wp2_with fail
  refine wpN_seq_k fun K hK => ?_
  refine wpN_of_wp ?_
  go_wp2_with fail
  refine wpN_seq_k fun K hK => ?_
  refine wpN_of_wp ?_
  go_wp2_with fail
  refine (unlock_held Yba.muLib ⟨b, 0, none⟩ _ ?u1 ?u2).mono ?_
  case u1 => go_simp
  case u2 => go_simp
  rintro e w1 ⟨rfl, rfl⟩
  go_wp2_with fail
  refine wpN_seq_k fun K hK => ?_
  refine wpN_of_wp ?_
  go_wp2_with fail
  refine wpN_seq_k fun K hK => ?_
  change WpN Yba.prog _ _ _ (W1 w b (IntKind.u64.wrap (n + 1)) (.int .i64 v))
  have hc := HC.out
  generalize W1 w b (IntKind.u64.wrap (n + 1)) (.int .i64 v) = w0 at *
  refine wpN_of_lone fun bb kk cs hbb => ?_
  refine LoneTo.goes (n := 10) ?_
  s_reg
  s_stop
  refine LoneTo.step (step_lone_select_send_room (c := c) (cap := 1) (buf := #[]) (s := s) (r := r) (tm := false) (stepG_comm (cases := #[scase c (.agg #[]) (.agg #[])]) (blocking := false) (shape := .select) (w' := w0) rfl rfl hbb (by simp [go_sem, execOp, scase, Act.eval])) hc (by simp)) ?_
  rw [Frame.finish_at]
  walk_nrm
  refine LoneTo.goes (n := 10) ?_
  s_in
  refine goes_oper_k rfl rfl hbb (fun KK hKK => ?_)
  go_simp
  refine hKK _ _ ⟨trivial, ?_⟩
  clear hKK KK
  s_in
  refine goes_oper_k rfl rfl hbb (fun KK hKK => ?_)
  go_simp
  refine hKK _ _ ⟨trivial, ?_⟩
  clear hKK KK
  s_c stepG_region_end
  s_stop
  refine LoneTo.done ⟨_, rfl, ?_⟩
  refine hK _ _ ?_
  refine wpN_of_wp ?_
  go_wp2
  go_end0
  exact ⟨rfl, rfl⟩

set_option maxHeartbeats 1000000 in
set_option maxRecDepth 100000 in
theorem add5_full (b c : Nat) (n : Int) (v : Int) (l : Value) (s r : Nat) (w : World) (h0 : w.cell? ⟨b, 0, none⟩ = some (.int .i32 0)) (h2 : w.cell? ⟨b, 2, none⟩ = some (.int .u64 n)) (h3 : w.cell? ⟨b, 3, none⟩ = some l) (h4 : w.cell? ⟨b, 4, none⟩ = some (.chan (some c)))
    (f0 : w.frozen? ⟨b, 0, none⟩ = false) (f2 : w.frozen? ⟨b, 2, none⟩ = false) (f3 : w.frozen? ⟨b, 3, none⟩ = false) (hc : (W1 w b (IntKind.u64.wrap (n + 1)) (.int .i64 v)).heap[c]? = some (.chan 1 #[.agg #[]] false s r false)) :
    Calls Yba.prog 5 #[.pointer (some ⟨b, 0, none⟩), .int .i64 v] w fun e w' => e = .returned (.tuple #[]) ∧ w' = W1 w b (IntKind.u64.wrap (n + 1)) (.int .i64 v) := by
  have hbd := bd
  have HC : Hid ((W1 w b (IntKind.u64.wrap (n + 1)) (.int .i64 v)).heap[c]? = some (.chan 1 #[.agg #[]] false s r false)) := hc
  clear hc
  refine calls_of_wpN Yba.func5 rfl ?_
  simp only [Yba.ntmps5, List.size_toArray, List.length_cons, List.length_nil, Nat.reduceAdd, Nat.reduceSub, Array.replicate_succ,
     Array.replicate_zero, List.push_toArray, List.append_toArray, List.nil_append, List.cons_append]
  refine wpN_seq_k fun K hK => ?_
  refine wpN_of_wp ?_
  go_wp2_with fail
  refine (lock_free Yba.muLib ⟨b, 0, none⟩ _ h0 f0).mono ?_
  rintro e w1 ⟨rfl, rfl⟩
  go_wp2_with fail
  refine wpN_seq_k fun K hK => ?_
  refine wpN_of_wp ?_
  go_wp2_with fail
  refine wpN_seq_k fun K hK => ?_
  refine wpN_of_wp ?_
  go_wp2_with fail
  refine wpN_seq_k fun K hK => ?_
  refine wpN_of_wp ?_
  go_wp2_with fail
  refine (unlock_held Yba.muLib ⟨b, 0, none⟩ _ ?u1 ?u2).mono ?_
  case u1 => go_simp
  case u2 => go_simp
  rintro e w1 ⟨rfl, rfl⟩
  go_wp2_with fail
  refine wpN_seq_k fun K hK => ?_
  refine wpN_of_wp ?_
  go_wp2_with fail
  refine wpN_seq_k fun K hK => ?_
  change WpN Yba.prog _ _ _ (W1 w b (IntKind.u64.wrap (n + 1)) (.int .i64 v))
  have hc := HC.out
  generalize W1 w b (IntKind.u64.wrap (n + 1)) (.int .i64 v) = w0 at *
  refine wpN_of_lone fun bb kk cs hbb => ?_
  refine LoneTo.goes (n := 10) ?_
  s_reg
  s_stop
  refine LoneTo.step (step_lone_select_send_full (c := c) (cap := 1) (buf := #[.agg #[]]) (s := s) (r := r) (tm := false) (stepG_comm (cases := #[scase c (.agg #[]) (.agg #[])]) (blocking := false) (shape := .select) (w' := w0) rfl rfl hbb (by simp [go_sem, execOp, scase, Act.eval])) hc (by simp)) ?_
  rw [Frame.finish_at]
  walk_nrm
  refine LoneTo.goes (n := 10) ?_
  s_in
  refine goes_oper_k rfl rfl hbb (fun KK hKK => ?_)
  go_simp
  refine hKK _ _ ⟨trivial, ?_⟩
  clear hKK KK
  s_in
  refine goes_oper_k rfl rfl hbb (fun KK hKK => ?_)
  go_simp
  refine hKK _ _ ⟨trivial, ?_⟩
  clear hKK KK
  s_c stepG_region_end
  s_stop
  refine LoneTo.done ⟨_, rfl, ?_⟩
  refine hK _ _ ?_
  refine wpN_of_wp ?_
  go_wp2
  go_end0
  exact ⟨rfl, rfl⟩

set_option maxHeartbeats 1000000 in
set_option maxRecDepth 100000 in
theorem add8_room (b c : Nat) (n : Int) (v : ByteArray) (l : Value) (s r : Nat) (w : World) (h0 : w.cell? ⟨b, 0, none⟩ = some (.int .i32 0)) (h2 : w.cell? ⟨b, 2, none⟩ = some (.int .u64 n)) (h3 : w.cell? ⟨b, 3, none⟩ = some l) (h4 : w.cell? ⟨b, 4, none⟩ = some (.chan (some c)))
    (f0 : w.frozen? ⟨b, 0, none⟩ = false) (f2 : w.frozen? ⟨b, 2, none⟩ = false) (f3 : w.frozen? ⟨b, 3, none⟩ = false) (hc : (W1 w b (IntKind.u64.wrap (n + 1)) (.string v)).heap[c]? = some (.chan 1 #[] false s r false)) :
    Calls Yba.prog 8 #[.pointer (some ⟨b, 0, none⟩), .string v] w fun e w' => e = .returned (.tuple #[]) ∧ w' = (W1 w b (IntKind.u64.wrap (n + 1)) (.string v)).setChan c 1 #[.agg #[]] false (s + 1) r false := by
  have hbd := bd
  have HC : Hid ((W1 w b (IntKind.u64.wrap (n + 1)) (.string v)).heap[c]? = some (.chan 1 #[] false s r false)) := hc
  clear hc
  refine calls_of_wpN Yba.func8 rfl ?_
  simp only [Yba.ntmps8, List.size_toArray, List.length_cons, List.length_nil, Nat.reduceAdd, Nat.reduceSub, Array.replicate_succ,
     Array.replicate_zero, List.push_toArray, List.append_toArray, List.nil_append, List.cons_append]
  refine wpN_seq_k fun K hK => ?_
  refine wpN_of_wp ?_
  go_wp2_with fail
  refine (lock_free Yba.muLib ⟨b, 0, none⟩ _ h0 f0).mono ?_
  rintro e w1 ⟨rfl, rfl⟩
  go_wp2_with fail
  refine wpN_seq_k fun K hK => ?_
  refine wpN_of_wp ?_
  go_wp2_with fail
  refine wpN_seq_k fun K hK => ?_
  refine wpN_of_wp ?_
  go_wp2_with fail
  refine wpN_seq_k fun K hK => ?_
  refine wpN_of_wp ?_
  go_wp2_with fail
  refine (unlock_held Yba.muLib ⟨b, 0, none⟩ _ ?u1 ?u2).mono ?_
  case u1 => go_simp
  case u2 => go_simp
  rintro e w1 ⟨rfl, rfl⟩
  go_wp2_with fail
  refine wpN_seq_k fun K hK => ?_
  refine wpN_of_wp ?_
  go_wp2_with fail
  refine wpN_seq_k fun K hK => ?_
  change WpN Yba.prog _ _ _ (W1 w b (IntKind.u64.wrap (n + 1)) (.string v))
  have hc := HC.out
  generalize W1 w b (IntKind.u64.wrap (n + 1)) (.string v) = w0 at *
  refine wpN_of_lone fun bb kk cs hbb => ?_
  refine LoneTo.goes (n := 10) ?_
  s_reg
  s_stop
  refine LoneTo.step (step_lone_select_send_room (c := c) (cap := 1) (buf := #[]) (s := s) (r := r) (tm := false) (stepG_comm (cases := #[scase c (.agg #[]) (.agg #[])]) (blocking := false) (shape := .select) (w' := w0) rfl rfl hbb (by simp [go_sem, execOp, scase, Act.eval])) hc (by simp)) ?_
  rw [Frame.finish_at]
  walk_nrm
  refine LoneTo.goes (n := 10) ?_
  s_in
  refine goes_oper_k rfl rfl hbb (fun KK hKK => ?_)
  go_simp
  refine hKK _ _ ⟨trivial, ?_⟩
  clear hKK KK
  s_in
  refine goes_oper_k rfl rfl hbb (fun KK hKK => ?_)
  go_simp
  refine hKK _ _ ⟨trivial, ?_⟩
  clear hKK KK
  s_c stepG_region_end
  s_stop
  refine LoneTo.done ⟨_, rfl, ?_⟩
  refine hK _ _ ?_
  refine wpN_of_wp ?_
  go_wp2
  go_end0
  exact ⟨rfl, rfl⟩

set_option maxHeartbeats 1000000 in
set_option maxRecDepth 100000 in
theorem add8_full (b c : Nat) (n : Int) (v : ByteArray) (l : Value) (s r : Nat) (w : World) (h0 : w.cell? ⟨b, 0, none⟩ = some (.int .i32 0)) (h2 : w.cell? ⟨b, 2, none⟩ = some (.int .u64 n)) (h3 : w.cell? ⟨b, 3, none⟩ = some l) (h4 : w.cell? ⟨b, 4, none⟩ = some (.chan (some c)))
    (f0 : w.frozen? ⟨b, 0, none⟩ = false) (f2 : w.frozen? ⟨b, 2, none⟩ = false) (f3 : w.frozen? ⟨b, 3, none⟩ = false) (hc : (W1 w b (IntKind.u64.wrap (n + 1)) (.string v)).heap[c]? = some (.chan 1 #[.agg #[]] false s r false)) :
    Calls Yba.prog 8 #[.pointer (some ⟨b, 0, none⟩), .string v] w fun e w' => e = .returned (.tuple #[]) ∧ w' = W1 w b (IntKind.u64.wrap (n + 1)) (.string v) := by
  have hbd := bd
  have HC : Hid ((W1 w b (IntKind.u64.wrap (n + 1)) (.string v)).heap[c]? = some (.chan 1 #[.agg #[]] false s r false)) := hc
  clear hc
  refine calls_of_wpN Yba.func8 rfl ?_
  simp only [Yba.ntmps8, List.size_toArray, List.length_cons, List.length_nil, Nat.reduceAdd, Nat.reduceSub, Array.replicate_succ,
     Array.replicate_zero, List.push_toArray, List.append_toArray, List.nil_append, List.cons_append]
  refine wpN_seq_k fun K hK => ?_
  refine wpN_of_wp ?_
  go_wp2_with fail
  refine (lock_free Yba.muLib ⟨b, 0, none⟩ _ h0 f0).mono ?_
  rintro e w1 ⟨rfl, rfl⟩
  go_wp2_with fail
  refine wpN_seq_k fun K hK => ?_
  refine wpN_of_wp ?_
  go_wp2_with fail
  refine wpN_seq_k fun K hK => ?_
  refine wpN_of_wp ?_
  go_wp2_with fail
  refine wpN_seq_k fun K hK => ?_
  refine wpN_of_wp ?_
  go_wp2_with fail
  refine (unlock_held Yba.muLib ⟨b, 0, none⟩ _ ?u1 ?u2).mono ?_
  case u1 => go_simp
  case u2 => go_simp
  rintro e w1 ⟨rfl, rfl⟩
  go_wp2_with fail
  refine wpN_seq_k fun K hK => ?_
  refine wpN_of_wp ?_
  go_wp2_with fail
  refine wpN_seq_k fun K hK => ?_
  change WpN Yba.prog _ _ _ (W1 w b (IntKind.u64.wrap (n + 1)) (.string v))
  have hc := HC.out
  generalize W1 w b (IntKind.u64.wrap (n + 1)) (.string v) = w0 at *
  refine wpN_of_lone fun bb kk cs hbb => ?_
  refine LoneTo.goes (n := 10) ?_
  s_reg
  s_stop
  refine LoneTo.step (step_lone_select_send_full (c := c) (cap := 1) (buf := #[.agg #[]]) (s := s) (r := r) (tm := false) (stepG_comm (cases := #[scase c (.agg #[]) (.agg #[])]) (blocking := false) (shape := .select) (w' := w0) rfl rfl hbb (by simp [go_sem, execOp, scase, Act.eval])) hc (by simp)) ?_
  rw [Frame.finish_at]
  walk_nrm
  refine LoneTo.goes (n := 10) ?_
  s_in
  refine goes_oper_k rfl rfl hbb (fun KK hKK => ?_)
  go_simp
  refine hKK _ _ ⟨trivial, ?_⟩
  clear hKK KK
  s_in
  refine goes_oper_k rfl rfl hbb (fun KK hKK => ?_)
  go_simp
  refine hKK _ _ ⟨trivial, ?_⟩
  clear hKK KK
  s_c stepG_region_end
  s_stop
  refine LoneTo.done ⟨_, rfl, ?_⟩
  refine hK _ _ ?_
  refine wpN_of_wp ?_
  go_wp2
  go_end0
  exact ⟨rfl, rfl⟩

set_option maxHeartbeats 1000000 in
theorem cnt6 (b : Nat) (n : Int) (w : World) (h0 : w.cell? ⟨b, 0, none⟩ = some (.int .i32 0)) (h2 : w.cell? ⟨b, 2, none⟩ = some (.int .u64 n)) (f0 : w.frozen? ⟨b, 0, none⟩ = false) :
    Calls Yba.prog 6 #[.pointer (some ⟨b, 0, none⟩)] w fun e w' => e = .returned (.int .u64 n) ∧ w' = (w.setCell ⟨b, 0, none⟩ (.int .i32 1)).setCell ⟨b, 0, none⟩ (.int .i32 0) := by
  go_enter_defers Yba.func6, Yba.ntmps6
  go_wp2_with (go_at_call 10; refine (lock_free Yba.muLib ⟨b, 0, none⟩ _ h0 f0).mono ?_; rintro e w' ⟨rfl, rfl⟩)
  refine leaves_cons (f := 11) (args := #[.pointer (some ⟨b, 0, none⟩)]) (by simp) (by simp [go_sem]) ?_
  refine (unlock_deferred Yba.muLib ⟨b, 0, none⟩ .returning _ ?_ ?_).mono ?_
  · exact World.cell?_setCell_same w ⟨b, 0, none⟩ (.int .i32 1) h0
  · simp [f0]
  rintro e u' w'' ⟨rfl, rfl, rfl⟩
  exact ⟨_, results_tmp rfl _ _ _, rfl, rfl⟩

set_option maxHeartbeats 1000000 in
theorem cnt9 (b : Nat) (n : Int) (w : World) (h0 : w.cell? ⟨b, 0, none⟩ = some (.int .i32 0)) (h2 : w.cell? ⟨b, 2, none⟩ = some (.int .u64 n)) (f0 : w.frozen? ⟨b, 0, none⟩ = false) :
    Calls Yba.prog 9 #[.pointer (some ⟨b, 0, none⟩)] w fun e w' => e = .returned (.int .u64 n) ∧ w' = (w.setCell ⟨b, 0, none⟩ (.int .i32 1)).setCell ⟨b, 0, none⟩ (.int .i32 0) := by
  go_enter_defers Yba.func9, Yba.ntmps9
  go_wp2_with (go_at_call 10; refine (lock_free Yba.muLib ⟨b, 0, none⟩ _ h0 f0).mono ?_; rintro e w' ⟨rfl, rfl⟩)
  refine leaves_cons (f := 11) (args := #[.pointer (some ⟨b, 0, none⟩)]) (by simp) (by simp [go_sem]) ?_
  refine (unlock_deferred Yba.muLib ⟨b, 0, none⟩ .returning _ ?_ ?_).mono ?_
  · exact World.cell?_setCell_same w ⟨b, 0, none⟩ (.int .i32 1) h0
  · simp [f0]
  rintro e u' w'' ⟨rfl, rfl, rfl⟩
  exact ⟨_, results_tmp rfl _ _ _, rfl, rfl⟩

end Go.Proofs.Ybulkbzxq
