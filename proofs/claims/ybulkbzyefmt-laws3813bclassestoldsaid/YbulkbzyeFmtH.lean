import Derived.Test.YbulkbzyeFmtG
namespace Go.Proofs.YbulkbzyeFmt
open Go.RowKit Go.Extern.Stop Go.Stop Go.Extern

set_option maxHeartbeats 4000000 in
theorem ast_hit (p : Option Addr) (pp : Value) (w : World)  :
    Calls Ybaf.prog 16 #[.iface 24 (.pointer p), pp] w fun e w' => e = .returned (.tuple #[.pointer p, .bool true]) ∧ w' = w := by
  have a24 := Ybaf.noIs24
  have b24 := Ybaf.noAs24
  have c24 := Ybaf.noUnwraps24
  have d24 := Ybaf.unwrap24
  have e24 := Ybaf.syn24
  go_enter Ybaf.func16, Ybaf.ntmps16
  go_wp2
  refine wp_loop_rounds 1 ?_
  rw [rounds_succ]
  go_wp2
  go_ret2
  exact ⟨rfl, rfl⟩

set_option maxHeartbeats 4000000 in
theorem ast_hit8 (p : Option Addr) (w : World)  :
    Calls Ybaf.prog 8 #[.iface 24 (.pointer p)] w fun e w' => e = .returned (.tuple #[.pointer p, .bool true]) ∧ w' = w.alloc (.cells #[.pointer none] 35) := by
  go_enter Ybaf.func8, Ybaf.ntmps8
  go_wp2_with fail
  refine (ast_hit p _ _).mono ?_
  rintro e w' ⟨rfl, rfl⟩
  go_wp2_with fail
  go_ret2
  exact ⟨rfl, rfl⟩

set_option maxHeartbeats 4000000 in
theorem ast_hitw (q : Nat) (p : Option Addr) (pp : Value) (w : World) (h : w.cell? ⟨q, 0, none⟩ = some (.iface 24 (.pointer p))) :
    Calls Ybaf.prog 16 #[.iface 30 (.pointer (some ⟨q, 0, none⟩)), pp] w fun e w' => e = .returned (.tuple #[.pointer p, .bool true]) ∧ w' = w := by
  have a24 := Ybaf.noIs24
  have b24 := Ybaf.noAs24
  have c24 := Ybaf.noUnwraps24
  have d24 := Ybaf.unwrap24
  have e24 := Ybaf.syn24
  have a30 := Ybaf.noIs30
  have b30 := Ybaf.noAs30
  have c30 := Ybaf.noUnwraps30
  have d30 := Ybaf.unwrap30
  have e30 := Ybaf.syn30
  have m30 := Ybaf.mUnwrap30
  go_enter Ybaf.func16, Ybaf.ntmps16
  go_wp2
  refine wp_loop_rounds 2 ?_
  rw [rounds_succ]
  go_wp2
  rw [rounds_succ]
  go_wp2
  go_ret2
  exact ⟨rfl, rfl⟩

set_option maxHeartbeats 4000000 in
theorem ast_hitw8 (q : Nat) (p : Option Addr) (w : World) (h : w.cell? ⟨q, 0, none⟩ = some (.iface 24 (.pointer p))) :
    Calls Ybaf.prog 8 #[.iface 30 (.pointer (some ⟨q, 0, none⟩))] w fun e w' => e = .returned (.tuple #[.pointer p, .bool true]) ∧ w' = w.alloc (.cells #[.pointer none] 35) := by
  go_enter Ybaf.func8, Ybaf.ntmps8
  go_wp2_with fail
  refine (ast_hitw q p _ _ (cell_later ((Below.refl _ w).alloc (Nat.le_refl _) _) h)).mono ?_
  rintro e w' ⟨rfl, rfl⟩
  go_wp2_with fail
  go_ret2
  exact ⟨rfl, rfl⟩

set_option maxHeartbeats 4000000 in
theorem ast_no27 (v : Value) (pp : Value) (w : World)  :
    Calls Ybaf.prog 16 #[.iface 27 v, pp] w fun e w' => e = .returned (.tuple #[.pointer none, .bool false]) ∧ w' = w := by
  have a27 := Ybaf.noIs27
  have b27 := Ybaf.noAs27
  have c27 := Ybaf.noUnwraps27
  have d27 := Ybaf.unwrap27
  have e27 := Ybaf.syn27
  go_enter Ybaf.func16, Ybaf.ntmps16
  go_wp2
  refine wp_loop_rounds 1 ?_
  rw [rounds_succ]
  go_wp2
  go_ret2
  exact ⟨rfl, rfl⟩

set_option maxHeartbeats 4000000 in
theorem ast_no278 (v : Value) (w : World)  :
    Calls Ybaf.prog 8 #[.iface 27 v] w fun e w' => e = .returned (.tuple #[.pointer none, .bool false]) ∧ w' = w.alloc (.cells #[.pointer none] 35) := by
  go_enter Ybaf.func8, Ybaf.ntmps8
  go_wp2_with fail
  refine (ast_no27 v _ _).mono ?_
  rintro e w' ⟨rfl, rfl⟩
  go_wp2_with fail
  go_ret2
  exact ⟨rfl, rfl⟩

set_option maxHeartbeats 4000000 in
theorem ast_now27 (q : Nat) (v : Value) (pp : Value) (w : World) (h : w.cell? ⟨q, 0, none⟩ = some (.iface 27 v)) :
    Calls Ybaf.prog 16 #[.iface 30 (.pointer (some ⟨q, 0, none⟩)), pp] w fun e w' => e = .returned (.tuple #[.pointer none, .bool false]) ∧ w' = w := by
  have a27 := Ybaf.noIs27
  have b27 := Ybaf.noAs27
  have c27 := Ybaf.noUnwraps27
  have d27 := Ybaf.unwrap27
  have e27 := Ybaf.syn27
  have a30 := Ybaf.noIs30
  have b30 := Ybaf.noAs30
  have c30 := Ybaf.noUnwraps30
  have d30 := Ybaf.unwrap30
  have e30 := Ybaf.syn30
  have m30 := Ybaf.mUnwrap30
  go_enter Ybaf.func16, Ybaf.ntmps16
  go_wp2
  refine wp_loop_rounds 2 ?_
  rw [rounds_succ]
  go_wp2
  rw [rounds_succ]
  go_wp2
  go_ret2
  exact ⟨rfl, rfl⟩

set_option maxHeartbeats 4000000 in
theorem ast_now278 (q : Nat) (v : Value) (w : World) (h : w.cell? ⟨q, 0, none⟩ = some (.iface 27 v)) :
    Calls Ybaf.prog 8 #[.iface 30 (.pointer (some ⟨q, 0, none⟩))] w fun e w' => e = .returned (.tuple #[.pointer none, .bool false]) ∧ w' = w.alloc (.cells #[.pointer none] 35) := by
  go_enter Ybaf.func8, Ybaf.ntmps8
  go_wp2_with fail
  refine (ast_now27 q v _ _ (cell_later ((Below.refl _ w).alloc (Nat.le_refl _) _) h)).mono ?_
  rintro e w' ⟨rfl, rfl⟩
  go_wp2_with fail
  go_ret2
  exact ⟨rfl, rfl⟩

set_option maxHeartbeats 4000000 in
theorem ast_now78 (q : Nat) (v : Value) (pp : Value) (w : World) (h : w.cell? ⟨q, 0, none⟩ = some (.iface 78 v)) :
    Calls Ybaf.prog 16 #[.iface 30 (.pointer (some ⟨q, 0, none⟩)), pp] w fun e w' => e = .returned (.tuple #[.pointer none, .bool false]) ∧ w' = w := by
  have a78 := Ybaf.noIs78
  have b78 := Ybaf.noAs78
  have c78 := Ybaf.noUnwraps78
  have d78 := Ybaf.unwrap78
  have e78 := Ybaf.syn78
  have a30 := Ybaf.noIs30
  have b30 := Ybaf.noAs30
  have c30 := Ybaf.noUnwraps30
  have d30 := Ybaf.unwrap30
  have e30 := Ybaf.syn30
  have m30 := Ybaf.mUnwrap30
  go_enter Ybaf.func16, Ybaf.ntmps16
  go_wp2
  refine wp_loop_rounds 2 ?_
  rw [rounds_succ]
  go_wp2
  rw [rounds_succ]
  go_wp2
  go_ret2
  exact ⟨rfl, rfl⟩

set_option maxHeartbeats 4000000 in
theorem ast_now788 (q : Nat) (v : Value) (w : World) (h : w.cell? ⟨q, 0, none⟩ = some (.iface 78 v)) :
    Calls Ybaf.prog 8 #[.iface 30 (.pointer (some ⟨q, 0, none⟩))] w fun e w' => e = .returned (.tuple #[.pointer none, .bool false]) ∧ w' = w.alloc (.cells #[.pointer none] 35) := by
  go_enter Ybaf.func8, Ybaf.ntmps8
  go_wp2_with fail
  refine (ast_now78 q v _ _ (cell_later ((Below.refl _ w).alloc (Nat.le_refl _) _) h)).mono ?_
  rintro e w' ⟨rfl, rfl⟩
  go_wp2_with fail
  go_ret2
  exact ⟨rfl, rfl⟩

set_option maxHeartbeats 4000000 in
theorem is_no (a p : Addr) (w : World)  :
    Calls Ybaf.prog 6 #[.iface 78 (.pointer (some a)), .iface 24 (.pointer (some p))] w fun e w' => e = .returned (.bool false) ∧ w' = w := by
  have mC := Ybaf.mComparable
  have tO := Ybaf.typeOf24
  have cO := Ybaf.comparable24
  have a78 := Ybaf.noIs78
  have b78 := Ybaf.noAs78
  have c78 := Ybaf.noUnwraps78
  have d78 := Ybaf.unwrap78
  have e78 := Ybaf.syn78
  have q1 := Ybaf.ty78_24
  go_enter Ybaf.func6, Ybaf.ntmps6
  go_wp2
  refine wp_loop_rounds 1 ?_
  rw [rounds_succ]
  go_wp2
  go_ret
  exact ⟨rfl, rfl⟩

set_option maxHeartbeats 4000000 in
theorem is_in27 (r : Nat) (p : Addr) (w : World) (h : w.cell? ⟨r, 1, none⟩ = some (.iface 27 (.pointer (some p)))) :
    Calls Ybaf.prog 6 #[.iface 63 (.pointer (some ⟨r, 0, none⟩)), .iface 27 (.pointer (some p))] w fun e w' => e = .returned (.bool true) ∧ w' = w := by
  have mC := Ybaf.mComparable
  have tO := Ybaf.typeOf27
  have cO := Ybaf.comparable27
  have a63 := Ybaf.noIs63
  have b63 := Ybaf.noAs63
  have c63 := Ybaf.noUnwraps63
  have d63 := Ybaf.unwrap63
  have e63 := Ybaf.syn63
  have m63 := Ybaf.mUnwrap63
  have a27 := Ybaf.noIs27
  have b27 := Ybaf.noAs27
  have c27 := Ybaf.noUnwraps27
  have d27 := Ybaf.unwrap27
  have e27 := Ybaf.syn27
  have q1 := Ybaf.ty63_27
  have q2 := Ybaf.eq27
  go_enter Ybaf.func6, Ybaf.ntmps6
  go_wp2
  refine wp_loop_rounds 2 ?_
  rw [rounds_succ]
  go_wp2
  rw [rounds_succ]
  go_wp2
  go_ret
  exact ⟨rfl, rfl⟩

set_option maxHeartbeats 4000000 in
theorem is_in30 (r : Nat) (p : Addr) (w : World) (h : w.cell? ⟨r, 1, none⟩ = some (.iface 30 (.pointer (some p)))) :
    Calls Ybaf.prog 6 #[.iface 63 (.pointer (some ⟨r, 0, none⟩)), .iface 30 (.pointer (some p))] w fun e w' => e = .returned (.bool true) ∧ w' = w := by
  have mC := Ybaf.mComparable
  have tO := Ybaf.typeOf30
  have cO := Ybaf.comparable30
  have a63 := Ybaf.noIs63
  have b63 := Ybaf.noAs63
  have c63 := Ybaf.noUnwraps63
  have d63 := Ybaf.unwrap63
  have e63 := Ybaf.syn63
  have m63 := Ybaf.mUnwrap63
  have a30 := Ybaf.noIs30
  have b30 := Ybaf.noAs30
  have c30 := Ybaf.noUnwraps30
  have d30 := Ybaf.unwrap30
  have e30 := Ybaf.syn30
  have m30 := Ybaf.mUnwrap30
  have q1 := Ybaf.ty63_30
  have q2 := Ybaf.eq30
  go_enter Ybaf.func6, Ybaf.ntmps6
  go_wp2
  refine wp_loop_rounds 2 ?_
  rw [rounds_succ]
  go_wp2
  rw [rounds_succ]
  go_wp2
  go_ret
  exact ⟨rfl, rfl⟩

set_option maxHeartbeats 4000000 in
theorem is_deep27 (r q : Nat) (p : Addr) (w : World) (h : w.cell? ⟨r, 1, none⟩ = some (.iface 30 (.pointer (some ⟨q, 0, none⟩)))) (h2 : w.cell? ⟨q, 0, none⟩ = some (.iface 27 (.pointer (some p)))) :
    Calls Ybaf.prog 6 #[.iface 63 (.pointer (some ⟨r, 0, none⟩)), .iface 27 (.pointer (some p))] w fun e w' => e = .returned (.bool true) ∧ w' = w := by
  have mC := Ybaf.mComparable
  have tO := Ybaf.typeOf27
  have cO := Ybaf.comparable27
  have a63 := Ybaf.noIs63
  have b63 := Ybaf.noAs63
  have c63 := Ybaf.noUnwraps63
  have d63 := Ybaf.unwrap63
  have e63 := Ybaf.syn63
  have m63 := Ybaf.mUnwrap63
  have a30 := Ybaf.noIs30
  have b30 := Ybaf.noAs30
  have c30 := Ybaf.noUnwraps30
  have d30 := Ybaf.unwrap30
  have e30 := Ybaf.syn30
  have m30 := Ybaf.mUnwrap30
  have a27 := Ybaf.noIs27
  have b27 := Ybaf.noAs27
  have c27 := Ybaf.noUnwraps27
  have d27 := Ybaf.unwrap27
  have e27 := Ybaf.syn27
  have q1 := Ybaf.ty63_27
  have q2 := Ybaf.ty30_27
  have q3 := Ybaf.eq27
  go_enter Ybaf.func6, Ybaf.ntmps6
  go_wp2
  refine wp_loop_rounds 3 ?_
  rw [rounds_succ]
  go_wp2
  rw [rounds_succ]
  go_wp2
  rw [rounds_succ]
  go_wp2
  go_ret
  exact ⟨rfl, rfl⟩

set_option maxHeartbeats 4000000 in
theorem is_deep78 (r q : Nat) (p : Addr) (w : World) (h : w.cell? ⟨r, 1, none⟩ = some (.iface 30 (.pointer (some ⟨q, 0, none⟩)))) (h2 : w.cell? ⟨q, 0, none⟩ = some (.iface 78 (.pointer (some p)))) :
    Calls Ybaf.prog 6 #[.iface 63 (.pointer (some ⟨r, 0, none⟩)), .iface 78 (.pointer (some p))] w fun e w' => e = .returned (.bool true) ∧ w' = w := by
  have mC := Ybaf.mComparable
  have tO := Ybaf.typeOf78
  have cO := Ybaf.comparable78
  have a63 := Ybaf.noIs63
  have b63 := Ybaf.noAs63
  have c63 := Ybaf.noUnwraps63
  have d63 := Ybaf.unwrap63
  have e63 := Ybaf.syn63
  have m63 := Ybaf.mUnwrap63
  have a30 := Ybaf.noIs30
  have b30 := Ybaf.noAs30
  have c30 := Ybaf.noUnwraps30
  have d30 := Ybaf.unwrap30
  have e30 := Ybaf.syn30
  have m30 := Ybaf.mUnwrap30
  have a78 := Ybaf.noIs78
  have b78 := Ybaf.noAs78
  have c78 := Ybaf.noUnwraps78
  have d78 := Ybaf.unwrap78
  have e78 := Ybaf.syn78
  have q1 := Ybaf.ty63_78
  have q2 := Ybaf.ty30_78
  have q3 := Ybaf.eq78
  go_enter Ybaf.func6, Ybaf.ntmps6
  go_wp2
  refine wp_loop_rounds 3 ?_
  rw [rounds_succ]
  go_wp2
  rw [rounds_succ]
  go_wp2
  rw [rounds_succ]
  go_wp2
  go_ret
  exact ⟨rfl, rfl⟩

theorem unwrap7 (r : Nat) (x : Value) (w : World) (h : w.cell? ⟨r, 1, none⟩ = some x) :
    Calls Ybaf.prog 7 #[.iface 63 (.pointer (some ⟨r, 0, none⟩))] w fun e w' => e = .returned x ∧ w' = w := by
  have d63 := Ybaf.unwrap63
  have m63 := Ybaf.mUnwrap63
  go_enter Ybaf.func7, Ybaf.ntmps7
  go_wp2
  go_ret
  exact ⟨rfl, rfl⟩

end Go.Proofs.YbulkbzyeFmt
