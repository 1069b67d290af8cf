import Derived.Test.YbulkbzyeFmtH
namespace Go.Proofs.YbulkbzyeFmt
open Go.RowKit Go.Extern.Stop Go.Stop Go.Extern

theorem body_eof (p0 pT : Addr) (w : World) (g0 : w.cell? ⟨0, 0, none⟩ = some (.iface 78 (.pointer (some p0)))) (g2 : w.cell? ⟨2, 0, none⟩ = some (.iface 78 (.pointer (some pT)))) :
    Calls Ybaf.prog 4 #[.iface 78 (.pointer (some p0))] w fun e w' => e = .returned (.iface 78 (.pointer (some pT))) ∧ w' = w := by
  have q := Ybaf.eq78
  go_enter Ybaf.func4, Ybaf.ntmps4
  go_wp2
  go_ret
  exact ⟨rfl, rfl⟩

theorem body_uneof (p0 p1 pT : Addr) (c0 c1 : Array Value) (t0 t1 : TypeId) (w : World) (g0 : w.cell? ⟨0, 0, none⟩ = some (.iface 78 (.pointer (some p0)))) (g1 : w.cell? ⟨1, 0, none⟩ = some (.iface 78 (.pointer (some p1)))) (g2 : w.cell? ⟨2, 0, none⟩ = some (.iface 78 (.pointer (some pT))))
    (hne : p1 ≠ p0) (h0 : w.heap[p0.block]? = some (.cells c0 t0 (0, 0))) (h1 : w.heap[p1.block]? = some (.cells c1 t1 (0, 0))) :
    Calls Ybaf.prog 4 #[.iface 78 (.pointer (some p1))] w fun e w' => e = .returned (.iface 78 (.pointer (some pT))) ∧ w' = w := by
  have q := Ybaf.eq78
  have n := Ybaf.ne78 w hne h1 h0
  go_enter Ybaf.func4, Ybaf.ntmps4
  go_wp2
  go_ret
  exact ⟨rfl, rfl⟩

theorem new_at (w : World) (o : Obj) (k : Nat) (h : k = w.heap.size) : (w.alloc o).drew.heap[k]? = some o := by
  subst h
  show (w.heap.push o)[w.heap.size]? = _
  simp

set_option maxHeartbeats 4000000 in
theorem body24 (F : Interp) (p0 p1 : Addr) (s : Nat) (m : ByteArray) (off : Int) (w : World) (hF : F.answers w.tape) (g0 : w.cell? ⟨0, 0, none⟩ = some (.iface 78 (.pointer (some p0)))) (g1 : w.cell? ⟨1, 0, none⟩ = some (.iface 78 (.pointer (some p1)))) (hs0 : w.cell? ⟨s, 0, none⟩ = some (.string m)) (hs1 : w.cell? ⟨s, 1, none⟩ = some (.int .i64 off)) :
    Calls Ybaf.prog 4 #[.iface 24 (.pointer (some ⟨s, 0, none⟩))] w fun e w' => ∃ K t, w.heap.size ≤ K ∧ e = .returned (.iface 78 (.pointer (some ⟨K, 0, none⟩))) ∧ w'.heap[K]? = some (.cells #[.string t] 80 (0, 0)) ∧ Below w.heap.size w w' := by
  have q0 := Ybaf.ty24_78
  have hb1 : Below w.heap.size w (w.alloc (.cells #[.pointer none] 35)) := (Below.refl _ _).alloc (Nat.le_refl _) _
  have hb2 : Below w.heap.size w ((w.alloc (.cells #[.pointer none] 35)).alloc (.cells #[.iface 24 (.pointer (some ⟨s, 0, none⟩)), .iface 2 (.int .i64 off)] 20)) := hb1.alloc (by simp) _
  have hF2 : F.answers ((w.alloc (.cells #[.pointer none] 35)).alloc (.cells #[.iface 24 (.pointer (some ⟨s, 0, none⟩)), .iface 2 (.int .i64 off)] 20)).tape := hF
  have s1 := cell_later hb1 hs1
  have s2 := cell_later hb2 hs0
  have HB : Hid _ := hb2
  clear hb1 hb2
  go_enter Ybaf.func4, Ybaf.ntmps4
  go_wp2_with fail
  refine (ast_hit8 (some ⟨s, 0, none⟩) w).mono ?_
  rintro e w1 ⟨rfl, rfl⟩
  go_wp2_with fail
  refine (errorf_syntax F (w.heap.size + 1) s m off _ hF2 (by simp) (by simp) s2).mono ?_
  rintro e w3 ⟨rfl, t, rfl⟩
  go_wp2_with fail
  go_ret
  refine ⟨w.heap.size + 1 + 1, t, by omega, by simp, ?_, (HB.out.alloc (by simp; omega) _).drew⟩
  exact new_at _ _ _ (by simp)

set_option maxHeartbeats 4000000 in
theorem body30_24 (F : Interp) (p0 p1 : Addr) (q s : Nat) (m : ByteArray) (off : Int) (w : World) (hF : F.answers w.tape) (g0 : w.cell? ⟨0, 0, none⟩ = some (.iface 78 (.pointer (some p0)))) (g1 : w.cell? ⟨1, 0, none⟩ = some (.iface 78 (.pointer (some p1)))) (hq : w.cell? ⟨q, 0, none⟩ = some (.iface 24 (.pointer (some ⟨s, 0, none⟩)))) (hs0 : w.cell? ⟨s, 0, none⟩ = some (.string m)) (hs1 : w.cell? ⟨s, 1, none⟩ = some (.int .i64 off)) :
    Calls Ybaf.prog 4 #[.iface 30 (.pointer (some ⟨q, 0, none⟩))] w fun e w' => ∃ K t, w.heap.size ≤ K ∧ e = .returned (.iface 78 (.pointer (some ⟨K, 0, none⟩))) ∧ w'.heap[K]? = some (.cells #[.string t] 80 (0, 0)) ∧ Below w.heap.size w w' := by
  have q0 := Ybaf.ty30_78
  have hb1 : Below w.heap.size w (w.alloc (.cells #[.pointer none] 35)) := (Below.refl _ _).alloc (Nat.le_refl _) _
  have hb2 : Below w.heap.size w ((w.alloc (.cells #[.pointer none] 35)).alloc (.cells #[.iface 24 (.pointer (some ⟨s, 0, none⟩)), .iface 2 (.int .i64 off)] 20)) := hb1.alloc (by simp) _
  have hF2 : F.answers ((w.alloc (.cells #[.pointer none] 35)).alloc (.cells #[.iface 24 (.pointer (some ⟨s, 0, none⟩)), .iface 2 (.int .i64 off)] 20)).tape := hF
  have s1 := cell_later hb1 hs1
  have s2 := cell_later hb2 hs0
  have HB : Hid _ := hb2
  clear hb1 hb2
  go_enter Ybaf.func4, Ybaf.ntmps4
  go_wp2_with fail
  refine (ast_hitw8 q (some ⟨s, 0, none⟩) w hq).mono ?_
  rintro e w1 ⟨rfl, rfl⟩
  go_wp2_with fail
  refine (errorf_syntax F (w.heap.size + 1) s m off _ hF2 (by simp) (by simp) s2).mono ?_
  rintro e w3 ⟨rfl, t, rfl⟩
  go_wp2_with fail
  go_ret
  refine ⟨w.heap.size + 1 + 1, t, by omega, by simp, ?_, (HB.out.alloc (by simp; omega) _).drew⟩
  exact new_at _ _ _ (by simp)

set_option maxHeartbeats 4000000 in
theorem body27 (F : Interp) (p0 p1 : Addr) (p : Addr) (w : World) (hF : F.answers w.tape) (g0 : w.cell? ⟨0, 0, none⟩ = some (.iface 78 (.pointer (some p0)))) (g1 : w.cell? ⟨1, 0, none⟩ = some (.iface 78 (.pointer (some p1))))  :
    Calls Ybaf.prog 4 #[.iface 27 (.pointer (some p))] w fun e w' => ∃ K t, w.heap.size ≤ K ∧ e = .returned (.iface 63 (.pointer (some ⟨K, 0, none⟩))) ∧ w'.heap[K]? = some (.cells #[.string t, .iface 27 (.pointer (some p))] 101 (0, 0)) ∧ Below w.heap.size w w' := by
  have q0 := Ybaf.ty27_78
  have hb1 : Below w.heap.size w (w.alloc (.cells #[.pointer none] 35)) := (Below.refl _ _).alloc (Nat.le_refl _) _
  have hb2 : Below w.heap.size w ((w.alloc (.cells #[.pointer none] 35)).alloc (.cells #[.iface 27 (.pointer (some p))] 20)) := hb1.alloc (by simp) _
  have hF2 : F.answers ((w.alloc (.cells #[.pointer none] 35)).alloc (.cells #[.iface 27 (.pointer (some p))] 20)).tape := hF
  have HB : Hid _ := hb2
  clear hb1 hb2
  go_enter Ybaf.func4, Ybaf.ntmps4
  go_wp2_with fail
  refine (ast_no278 (.pointer (some p)) w).mono ?_
  rintro e w1 ⟨rfl, rfl⟩
  go_wp2_with fail
  refine (errorf_wrap27 F (w.heap.size + 1) (some p) _ hF2 (by simp)).mono ?_
  rintro e w3 ⟨rfl, t, rfl⟩
  go_wp2_with fail
  go_ret
  refine ⟨w.heap.size + 1 + 1, t, by omega, by simp, ?_, (HB.out.alloc (by simp; omega) _).drew⟩
  exact new_at _ _ _ (by simp)

set_option maxHeartbeats 4000000 in
theorem body30_27 (F : Interp) (p0 p1 : Addr) (q : Nat) (v : Value) (w : World) (hF : F.answers w.tape) (g0 : w.cell? ⟨0, 0, none⟩ = some (.iface 78 (.pointer (some p0)))) (g1 : w.cell? ⟨1, 0, none⟩ = some (.iface 78 (.pointer (some p1)))) (hq : w.cell? ⟨q, 0, none⟩ = some (.iface 27 v)) :
    Calls Ybaf.prog 4 #[.iface 30 (.pointer (some ⟨q, 0, none⟩))] w fun e w' => ∃ K t, w.heap.size ≤ K ∧ e = .returned (.iface 63 (.pointer (some ⟨K, 0, none⟩))) ∧ w'.heap[K]? = some (.cells #[.string t, .iface 30 (.pointer (some ⟨q, 0, none⟩))] 101 (0, 0)) ∧ Below w.heap.size w w' := by
  have q0 := Ybaf.ty30_78
  have hb1 : Below w.heap.size w (w.alloc (.cells #[.pointer none] 35)) := (Below.refl _ _).alloc (Nat.le_refl _) _
  have hb2 : Below w.heap.size w ((w.alloc (.cells #[.pointer none] 35)).alloc (.cells #[.iface 30 (.pointer (some ⟨q, 0, none⟩))] 20)) := hb1.alloc (by simp) _
  have hF2 : F.answers ((w.alloc (.cells #[.pointer none] 35)).alloc (.cells #[.iface 30 (.pointer (some ⟨q, 0, none⟩))] 20)).tape := hF
  have HB : Hid _ := hb2
  clear hb1 hb2
  go_enter Ybaf.func4, Ybaf.ntmps4
  go_wp2_with fail
  refine (ast_now278 q v w hq).mono ?_
  rintro e w1 ⟨rfl, rfl⟩
  go_wp2_with fail
  refine (errorf_wrap30 F (w.heap.size + 1) (some ⟨q, 0, none⟩) _ hF2 (by simp)).mono ?_
  rintro e w3 ⟨rfl, t, rfl⟩
  go_wp2_with fail
  go_ret
  refine ⟨w.heap.size + 1 + 1, t, by omega, by simp, ?_, (HB.out.alloc (by simp; omega) _).drew⟩
  exact new_at _ _ _ (by simp)

set_option maxHeartbeats 4000000 in
theorem body30_78 (F : Interp) (p0 p1 : Addr) (q : Nat) (v : Value) (w : World) (hF : F.answers w.tape) (g0 : w.cell? ⟨0, 0, none⟩ = some (.iface 78 (.pointer (some p0)))) (g1 : w.cell? ⟨1, 0, none⟩ = some (.iface 78 (.pointer (some p1)))) (hq : w.cell? ⟨q, 0, none⟩ = some (.iface 78 v)) :
    Calls Ybaf.prog 4 #[.iface 30 (.pointer (some ⟨q, 0, none⟩))] w fun e w' => ∃ K t, w.heap.size ≤ K ∧ e = .returned (.iface 63 (.pointer (some ⟨K, 0, none⟩))) ∧ w'.heap[K]? = some (.cells #[.string t, .iface 30 (.pointer (some ⟨q, 0, none⟩))] 101 (0, 0)) ∧ Below w.heap.size w w' := by
  have q0 := Ybaf.ty30_78
  have hb1 : Below w.heap.size w (w.alloc (.cells #[.pointer none] 35)) := (Below.refl _ _).alloc (Nat.le_refl _) _
  have hb2 : Below w.heap.size w ((w.alloc (.cells #[.pointer none] 35)).alloc (.cells #[.iface 30 (.pointer (some ⟨q, 0, none⟩))] 20)) := hb1.alloc (by simp) _
  have hF2 : F.answers ((w.alloc (.cells #[.pointer none] 35)).alloc (.cells #[.iface 30 (.pointer (some ⟨q, 0, none⟩))] 20)).tape := hF
  have HB : Hid _ := hb2
  clear hb1 hb2
  go_enter Ybaf.func4, Ybaf.ntmps4
  go_wp2_with fail
  refine (ast_now788 q v w hq).mono ?_
  rintro e w1 ⟨rfl, rfl⟩
  go_wp2_with fail
  refine (errorf_wrap30 F (w.heap.size + 1) (some ⟨q, 0, none⟩) _ hF2 (by simp)).mono ?_
  rintro e w3 ⟨rfl, t, rfl⟩
  go_wp2_with fail
  go_ret
  refine ⟨w.heap.size + 1 + 1, t, by omega, by simp, ?_, (HB.out.alloc (by simp; omega) _).drew⟩
  exact new_at _ _ _ (by simp)

end Go.Proofs.YbulkbzyeFmt
