import Derived.Test.YbulkbzyeFmtBd
import Derived.Test.YbulkbzyeFmtAs
namespace Go.Proofs.YbulkbzyeFmt
open Go.RowKit Go.Extern.Stop Go.Stop Go.Extern
set_option linter.unusedVariables false

theorem run_neq_same {P : Program} (w : World) {ti tp te : TypeId} {ms : Array (String × TypeId)} {i j : TypeInfo} (a : Addr)
    (hi : P.underlying ti = some (.interface ms)) (hp : P.underlying tp = some (.pointer te)) (hinfo : P.info? tp = some i) (hcomp : i.comparable = true) (hte : P.info? te = some j) :
    (binOp .neq ti (.iface tp (.pointer (some a))) (.iface tp (.pointer (some a)))).run P w = .ok (.bool false) w := by
  simp only [binOp]
  simp [Op.equal, Op.maxDepth, run_equalIn_iface_ptr_same w 9998 a hi hp hinfo hcomp hte]

theorem neq27 (a : Addr) (w : World) : (binOp .neq 23 (.iface 27 (.pointer (some a))) (.iface 27 (.pointer (some a)))).run Ybaf.prog w = .ok (.bool false) w := by
  obtain ⟨i, hi, hc⟩ := Option.map_eq_some_iff.1 Ybaf.isComp27
  obtain ⟨j, hj, _⟩ := Option.map_eq_some_iff.1 Ybaf.isSize27
  exact run_neq_same w a Ybaf.underlying23 Ybaf.underlying27 hi hc hj

theorem neq30 (a : Addr) (w : World) : (binOp .neq 23 (.iface 30 (.pointer (some a))) (.iface 30 (.pointer (some a)))).run Ybaf.prog w = .ok (.bool false) w := by
  obtain ⟨i, hi, hc⟩ := Option.map_eq_some_iff.1 Ybaf.isComp30
  obtain ⟨j, hj, _⟩ := Option.map_eq_some_iff.1 Ybaf.isSize30
  exact run_neq_same w a Ybaf.underlying23 Ybaf.underlying30 hi hc hj

/-- What the four variables hold. -/
structure Vars (w : World) (p0 p1 pT : Addr) : Prop where
  g0 : w.cell? ⟨0, 0, none⟩ = some (.iface 78 (.pointer (some p0)))
  g1 : w.cell? ⟨1, 0, none⟩ = some (.iface 78 (.pointer (some p1)))
  g2 : w.cell? ⟨2, 0, none⟩ = some (.iface 78 (.pointer (some pT)))
  g3 : w.cell? ⟨3, 0, none⟩ = some (.iface 65 (.agg #[.pointer (some ⟨4, 23, none⟩)]))
  b0 : ∃ c t, w.heap[p0.block]? = some (.cells c t (0, 0))
  b1 : ∃ c t, w.heap[p1.block]? = some (.cells c t (0, 0))
  bT : ∃ c t, w.heap[pT.block]? = some (.cells c t (0, 0))
  ne : p1 ≠ p0

theorem heap_later {w w' : World} {k : Nat} {o : Obj} (h : w.heap[k]? = some o) (hb : Below w.heap.size w w') : w'.heap[k]? = some o := by
  rw [hb.block k (Array.getElem?_eq_some_iff.1 h).1]; exact h

theorem Vars.later {w w' : World} {p0 p1 pT : Addr} (h : Vars w p0 p1 pT) (hb : Below w.heap.size w w') : Vars w' p0 p1 pT := by
  obtain ⟨g0, g1, g2, g3, ⟨c0, t0, b0⟩, ⟨c1, t1, b1⟩, ⟨cT, tT, bT⟩, ne⟩ := h
  exact ⟨cell_later hb g0, cell_later hb g1, cell_later hb g2, cell_later hb g3, ⟨_, _, heap_later b0 hb⟩, ⟨_, _, heap_later b1 hb⟩, ⟨_, _, heap_later bT hb⟩, ne⟩

set_option maxHeartbeats 8000000 in
theorem roadA0 (F : Interp) (p0 p1 pT : Addr) (sel code off : Int) (w : World) (hF : F.answers w.tape) (hV : Vars w p0 p1 pT) (h0 : 0 ≤ sel) (h1 : sel ≤ 255) (hr : Int.tmod sel 4 = 0) :
    Calls Ybaf.prog 3 #[.int .u8 sel, .int .i64 code, .int .i64 off, .bool false] w fun e w' => e = .returned (.bool true) ∧ Below w.heap.size w w' := by
  obtain ⟨g0, g1, g2, g3, _, _, _, ne⟩ := hV
  have q := Ybaf.eq78
  go_enter Ybaf.func3, Ybaf.ntmps3
  go_wp2_with fail
  refine (body_eof p0 pT w g0 g2).mono ?_
  rintro e w1 ⟨rfl, rfl⟩
  go_wp2_with fail
  go_ret
  exact ⟨rfl, Below.refl _ _⟩

set_option maxHeartbeats 8000000 in
theorem roadA1 (F : Interp) (p0 p1 pT : Addr) (sel code off : Int) (w : World) (hF : F.answers w.tape) (hV : Vars w p0 p1 pT) (h0 : 0 ≤ sel) (h1 : sel ≤ 255) (hr : Int.tmod sel 4 = 1) :
    Calls Ybaf.prog 3 #[.int .u8 sel, .int .i64 code, .int .i64 off, .bool false] w fun e w' => e = .returned (.bool true) ∧ Below w.heap.size w w' := by
  obtain ⟨g0, g1, g2, g3, ⟨c0, t0, b0⟩, ⟨c1, t1, b1⟩, _, ne⟩ := hV
  have q := Ybaf.eq78
  have HF : Hid (F.answers w.tape) := hF
  clear hF
  go_enter Ybaf.func3, Ybaf.ntmps3
  go_wp2_with fail
  refine (body_uneof p0 p1 pT _ _ _ _ w g0 g1 g2 ne b0 b1).mono ?_
  rintro e w1 ⟨rfl, rfl⟩
  go_wp2_with fail
  go_ret
  exact ⟨rfl, Below.refl _ _⟩

set_option maxHeartbeats 8000000 in
theorem roadS (F : Interp) (p0 p1 pT : Addr) (sel code off : Int) (w : World) (hF : F.answers w.tape) (hV : Vars w p0 p1 pT) (h0 : 0 ≤ sel) (h1 : sel ≤ 255) (hr : Int.tmod sel 4 = 2) :
    Calls Ybaf.prog 3 #[.int .u8 sel, .int .i64 code, .int .i64 off, .bool false] w fun e w' => e = .returned (.bool true) ∧ Below w.heap.size w w' := by
  have hb1 : Below w.heap.size w (w.alloc (.cells #[.string ByteArray.empty, .int .i64 off] 26)) := (Below.refl _ _).alloc (Nat.le_refl _) _
  have hBd := body24 F p0 p1 w.heap.size ByteArray.empty off _ (by exact hF) (cell_later hb1 hV.g0) (cell_later hb1 hV.g1) (by simp) (by simp)
  obtain g0 := hV.g0
  have HB : Hid (Below w.heap.size w (w.alloc (.cells #[.string ByteArray.empty, .int .i64 off] 26))) := hb1
  clear hb1
  go_enter Ybaf.func3, Ybaf.ntmps3
  go_wp2_with fail
  refine hBd.mono ?_
  rintro e w3 ⟨K, tx, hK, rfl, hKc, hb3⟩
  have hb23 : Below w.heap.size w w3 := HB.out.trans (hb3.mono HB.out.size)
  have hV3 := hV.later hb23
  obtain ⟨g0, g1, g2, g3, _, _, ⟨cT, tT, bT⟩, ne⟩ := hV3
  have hpT : pT.block < w.heap.size := by obtain ⟨_, _, b⟩ := hV.bT; exact (Array.getElem?_eq_some_iff.1 b).1
  have n1 := Ybaf.ne78 (a := ⟨K, 0, none⟩) (b := pT) w3 (fun e => by rw [← e] at hpT; simp at hK hpT; omega) hKc bT
  have hb4 : Below w3.heap.size w3 (w3.alloc (.cells #[.pointer none] 24)) := (Below.refl _ _).alloc (Nat.le_refl _) _
  have hAs := as5 ⟨K, 0, none⟩ ⟨w3.heap.size, 0, none⟩ (w3.alloc (.cells #[.pointer none] 24)) (cell_later hb4 g3)
  have hb24 : Below w.heap.size w (w3.alloc (.cells #[.pointer none] 24)) := hb23.alloc hb23.size _
  clear g0 g1 g3 bT hKc hb4 hV hpT
  have HB24 : Hid _ := hb24
  clear hb24 hb23 hb3
  go_wp2_with fail
  refine hAs.mono ?_
  rintro e w5 ⟨rfl, hb5⟩
  clear hAs
  go_wp2_with fail
  refine (is_no ⟨K, 0, none⟩ ⟨w.heap.size, 0, none⟩ w5).mono ?_
  rintro e w6 ⟨rfl, rfl⟩
  go_wp2_with fail
  go_ret
  exact ⟨rfl, HB24.out.trans (hb5.mono HB24.out.size)⟩

set_option maxHeartbeats 8000000 in
theorem roadSW (F : Interp) (p0 p1 pT : Addr) (sel code off : Int) (w : World) (hF : F.answers w.tape) (hV : Vars w p0 p1 pT) (h0 : 0 ≤ sel) (h1 : sel ≤ 255) (hr : Int.tmod sel 4 = 2) :
    Calls Ybaf.prog 3 #[.int .u8 sel, .int .i64 code, .int .i64 off, .bool true] w fun e w' => e = .returned (.bool true) ∧ Below w.heap.size w w' := by
  have hb1 : Below w.heap.size w ((w.alloc (.cells #[.string ByteArray.empty, .int .i64 off] 26)).alloc (.cells #[.iface 24 (.pointer (some ⟨w.heap.size, 0, none⟩))] 32)) := ((Below.refl _ _).alloc (Nat.le_refl _) _).alloc (by simp) _
  have hBd := body30_24 F p0 p1 (w.heap.size + 1) w.heap.size ByteArray.empty off ((w.alloc (.cells #[.string ByteArray.empty, .int .i64 off] 26)).alloc (.cells #[.iface 24 (.pointer (some ⟨w.heap.size, 0, none⟩))] 32)) (by exact hF) (cell_later hb1 hV.g0) (cell_later hb1 hV.g1) (by simp) (by simp) (by simp)
  have HB : Hid (Below w.heap.size w ((w.alloc (.cells #[.string ByteArray.empty, .int .i64 off] 26)).alloc (.cells #[.iface 24 (.pointer (some ⟨w.heap.size, 0, none⟩))] 32))) := hb1
  clear hb1
  go_enter Ybaf.func3, Ybaf.ntmps3
  go_wp2_with fail
  refine hBd.mono ?_
  rintro e w3 ⟨K, tx, hK, rfl, hKc, hb3⟩
  have hb23 : Below w.heap.size w w3 := HB.out.trans (hb3.mono HB.out.size)
  have hV3 := hV.later hb23
  obtain ⟨g0, g1, g2, g3, _, _, ⟨cT, tT, bT⟩, ne⟩ := hV3
  have hpT : pT.block < w.heap.size := by obtain ⟨_, _, b⟩ := hV.bT; exact (Array.getElem?_eq_some_iff.1 b).1
  have n1 := Ybaf.ne78 (a := ⟨K, 0, none⟩) (b := pT) w3 (fun e => by rw [← e] at hpT; simp at hK hpT; omega) hKc bT
  have hb4 : Below w3.heap.size w3 (w3.alloc (.cells #[.pointer none] 24)) := (Below.refl _ _).alloc (Nat.le_refl _) _
  have hAs := as5 ⟨K, 0, none⟩ ⟨w3.heap.size, 0, none⟩ (w3.alloc (.cells #[.pointer none] 24)) (cell_later hb4 g3)
  have hb24 : Below w.heap.size w (w3.alloc (.cells #[.pointer none] 24)) := hb23.alloc hb23.size _
  clear g0 g1 g3 bT hKc hb4 hV hpT
  have HB24 : Hid _ := hb24
  clear hb24 hb23 hb3
  go_wp2_with fail
  refine hAs.mono ?_
  rintro e w5 ⟨rfl, hb5⟩
  clear hAs
  go_wp2_with fail
  refine (is_no ⟨K, 0, none⟩ ⟨w.heap.size, 0, none⟩ w5).mono ?_
  rintro e w6 ⟨rfl, rfl⟩
  go_wp2_with fail
  go_ret
  exact ⟨rfl, HB24.out.trans (hb5.mono HB24.out.size)⟩

set_option maxHeartbeats 8000000 in
theorem roadE (F : Interp) (p0 p1 pT : Addr) (sel code off : Int) (w : World) (hF : F.answers w.tape) (hV : Vars w p0 p1 pT) (h0 : 0 ≤ sel) (h1 : sel ≤ 255) (hr : Int.tmod sel 4 = 3) :
    Calls Ybaf.prog 3 #[.int .u8 sel, .int .i64 code, .int .i64 off, .bool false] w fun e w' => e = .returned (.bool true) ∧ Below w.heap.size w w' := by
  have hb1 : Below w.heap.size w (w.alloc (.cells #[.int .i64 code] 29)) := (Below.refl _ _).alloc (Nat.le_refl _) _
  have hBd := body27 F p0 p1 ⟨w.heap.size, 0, none⟩ (w.alloc (.cells #[.int .i64 code] 29)) (by exact hF) (cell_later hb1 hV.g0) (cell_later hb1 hV.g1)
  have HB : Hid (Below w.heap.size w (w.alloc (.cells #[.int .i64 code] 29))) := hb1
  clear hb1
  go_enter Ybaf.func3, Ybaf.ntmps3
  go_wp2_with fail
  refine hBd.mono ?_
  rintro e w3 ⟨K, tx, hK, rfl, hKc, hb3⟩
  have hb23 : Below w.heap.size w w3 := HB.out.trans (hb3.mono HB.out.size)
  have g2 := (hV.later hb23).g2
  have hk1 : w3.cell? ⟨K, 1, none⟩ = some (.iface 27 (.pointer (some ⟨w.heap.size, 0, none⟩))) := by simp [World.cell?, hKc]
  have y1 := Ybaf.ty63_78
  have y2 := neq27
  clear hKc hb3 hBd
  go_wp2_with fail
  refine (unwrap7 K _ w3 hk1).mono ?_
  rintro e w4 ⟨rfl, rfl⟩
  go_wp2_with fail
  refine (is_in27 K ⟨w.heap.size, 0, none⟩ _ hk1).mono ?_
  rintro e w5 ⟨rfl, rfl⟩
  go_wp2_with fail
  refine (is_in27 K ⟨w.heap.size, 0, none⟩ _ hk1).mono ?_
  rintro e w6 ⟨rfl, rfl⟩
  go_wp2_with fail
  go_ret
  exact ⟨rfl, hb23⟩

set_option maxHeartbeats 8000000 in
theorem roadEW (F : Interp) (p0 p1 pT : Addr) (sel code off : Int) (w : World) (hF : F.answers w.tape) (hV : Vars w p0 p1 pT) (h0 : 0 ≤ sel) (h1 : sel ≤ 255) (hr : Int.tmod sel 4 = 3) :
    Calls Ybaf.prog 3 #[.int .u8 sel, .int .i64 code, .int .i64 off, .bool true] w fun e w' => e = .returned (.bool true) ∧ Below w.heap.size w w' := by
  have hb1 : Below w.heap.size w ((w.alloc (.cells #[.int .i64 code] 29)).alloc (.cells #[.iface 27 (.pointer (some ⟨w.heap.size, 0, none⟩))] 32)) := ((Below.refl _ _).alloc (Nat.le_refl _) _).alloc (by simp) _
  have hq : ((w.alloc (.cells #[.int .i64 code] 29)).alloc (.cells #[.iface 27 (.pointer (some ⟨w.heap.size, 0, none⟩))] 32)).cell? ⟨w.heap.size + 1, 0, none⟩ = some (.iface 27 (.pointer (some ⟨w.heap.size, 0, none⟩))) := by simp
  have hBd := body30_27 F p0 p1 (w.heap.size + 1) (.pointer (some ⟨w.heap.size, 0, none⟩)) ((w.alloc (.cells #[.int .i64 code] 29)).alloc (.cells #[.iface 27 (.pointer (some ⟨w.heap.size, 0, none⟩))] 32)) (by exact hF) (cell_later hb1 hV.g0) (cell_later hb1 hV.g1) hq
  have HB : Hid (Below w.heap.size w ((w.alloc (.cells #[.int .i64 code] 29)).alloc (.cells #[.iface 27 (.pointer (some ⟨w.heap.size, 0, none⟩))] 32))) := hb1
  have HQ : Hid (((w.alloc (.cells #[.int .i64 code] 29)).alloc (.cells #[.iface 27 (.pointer (some ⟨w.heap.size, 0, none⟩))] 32)).cell? ⟨w.heap.size + 1, 0, none⟩ = some (.iface 27 (.pointer (some ⟨w.heap.size, 0, none⟩)))) := hq
  clear hb1 hq
  go_enter Ybaf.func3, Ybaf.ntmps3
  go_wp2_with fail
  refine hBd.mono ?_
  rintro e w3 ⟨K, tx, hK, rfl, hKc, hb3⟩
  have hb23 : Below w.heap.size w w3 := HB.out.trans (hb3.mono HB.out.size)
  have g2 := (hV.later hb23).g2
  have hk1 : w3.cell? ⟨K, 1, none⟩ = some (.iface 30 (.pointer (some ⟨w.heap.size + 1, 0, none⟩))) := by simp [World.cell?, hKc]
  have hq3 : w3.cell? ⟨w.heap.size + 1, 0, none⟩ = some (.iface 27 (.pointer (some ⟨w.heap.size, 0, none⟩))) := cell_later hb3 (by simp)
  have y1 := Ybaf.ty63_78
  have y2 := neq30
  clear hKc hb3 hBd
  go_wp2_with fail
  refine (unwrap7 K _ w3 hk1).mono ?_
  rintro e w4 ⟨rfl, rfl⟩
  go_wp2_with fail
  refine (is_in30 K ⟨w.heap.size + 1, 0, none⟩ _ hk1).mono ?_
  rintro e w5 ⟨rfl, rfl⟩
  go_wp2_with fail
  refine (is_deep27 K (w.heap.size + 1) ⟨w.heap.size, 0, none⟩ _ hk1 hq3).mono ?_
  rintro e w6 ⟨rfl, rfl⟩
  go_wp2_with fail
  go_ret
  exact ⟨rfl, hb23⟩

set_option maxHeartbeats 8000000 in
theorem roadW0 (F : Interp) (p0 p1 pT : Addr) (sel code off : Int) (w : World) (hF : F.answers w.tape) (hV : Vars w p0 p1 pT) (h0 : 0 ≤ sel) (h1 : sel ≤ 255) (hr : Int.tmod sel 4 = 0) :
    Calls Ybaf.prog 3 #[.int .u8 sel, .int .i64 code, .int .i64 off, .bool true] w fun e w' => e = .returned (.bool true) ∧ Below w.heap.size w w' := by
  have hb1 : Below w.heap.size w (w.alloc (.cells #[.iface 78 (.pointer (some p0))] 32)) := (Below.refl _ _).alloc (Nat.le_refl _) _
  have hBd := body30_78 F p0 p1 w.heap.size (.pointer (some p0)) (w.alloc (.cells #[.iface 78 (.pointer (some p0))] 32)) (by exact hF) (cell_later hb1 hV.g0) (cell_later hb1 hV.g1) (by simp)
  have gr := hV.g0
  have HB : Hid (Below w.heap.size w (w.alloc (.cells #[.iface 78 (.pointer (some p0))] 32))) := hb1
  clear hb1
  go_enter Ybaf.func3, Ybaf.ntmps3
  go_wp2_with fail
  refine hBd.mono ?_
  rintro e w3 ⟨K, tx, hK, rfl, hKc, hb3⟩
  have hb23 : Below w.heap.size w w3 := HB.out.trans (hb3.mono HB.out.size)
  have g2 := (hV.later hb23).g2
  have hk1 : w3.cell? ⟨K, 1, none⟩ = some (.iface 30 (.pointer (some ⟨w.heap.size, 0, none⟩))) := by simp [World.cell?, hKc]
  have hq3 : w3.cell? ⟨w.heap.size, 0, none⟩ = some (.iface 78 (.pointer (some p0))) := cell_later hb3 (by simp)
  have y1 := Ybaf.ty63_78
  have y2 := neq30
  clear hKc hb3 hBd
  go_wp2_with fail
  refine (unwrap7 K _ w3 hk1).mono ?_
  rintro e w4 ⟨rfl, rfl⟩
  go_wp2_with fail
  refine (is_in30 K ⟨w.heap.size, 0, none⟩ _ hk1).mono ?_
  rintro e w5 ⟨rfl, rfl⟩
  go_wp2_with fail
  refine (is_deep78 K w.heap.size p0 _ hk1 hq3).mono ?_
  rintro e w6 ⟨rfl, rfl⟩
  go_wp2_with fail
  go_ret
  exact ⟨rfl, hb23⟩

set_option maxHeartbeats 8000000 in
theorem roadW1 (F : Interp) (p0 p1 pT : Addr) (sel code off : Int) (w : World) (hF : F.answers w.tape) (hV : Vars w p0 p1 pT) (h0 : 0 ≤ sel) (h1 : sel ≤ 255) (hr : Int.tmod sel 4 = 1) :
    Calls Ybaf.prog 3 #[.int .u8 sel, .int .i64 code, .int .i64 off, .bool true] w fun e w' => e = .returned (.bool true) ∧ Below w.heap.size w w' := by
  have hb1 : Below w.heap.size w (w.alloc (.cells #[.iface 78 (.pointer (some p1))] 32)) := (Below.refl _ _).alloc (Nat.le_refl _) _
  have hBd := body30_78 F p0 p1 w.heap.size (.pointer (some p1)) (w.alloc (.cells #[.iface 78 (.pointer (some p1))] 32)) (by exact hF) (cell_later hb1 hV.g0) (cell_later hb1 hV.g1) (by simp)
  have gr := hV.g1
  have HB : Hid (Below w.heap.size w (w.alloc (.cells #[.iface 78 (.pointer (some p1))] 32))) := hb1
  clear hb1
  go_enter Ybaf.func3, Ybaf.ntmps3
  go_wp2_with fail
  refine hBd.mono ?_
  rintro e w3 ⟨K, tx, hK, rfl, hKc, hb3⟩
  have hb23 : Below w.heap.size w w3 := HB.out.trans (hb3.mono HB.out.size)
  have g2 := (hV.later hb23).g2
  have hk1 : w3.cell? ⟨K, 1, none⟩ = some (.iface 30 (.pointer (some ⟨w.heap.size, 0, none⟩))) := by simp [World.cell?, hKc]
  have hq3 : w3.cell? ⟨w.heap.size, 0, none⟩ = some (.iface 78 (.pointer (some p1))) := cell_later hb3 (by simp)
  have y1 := Ybaf.ty63_78
  have y2 := neq30
  clear hKc hb3 hBd
  go_wp2_with fail
  refine (unwrap7 K _ w3 hk1).mono ?_
  rintro e w4 ⟨rfl, rfl⟩
  go_wp2_with fail
  refine (is_in30 K ⟨w.heap.size, 0, none⟩ _ hk1).mono ?_
  rintro e w5 ⟨rfl, rfl⟩
  go_wp2_with fail
  refine (is_deep78 K w.heap.size p1 _ hk1 hq3).mono ?_
  rintro e w6 ⟨rfl, rfl⟩
  go_wp2_with fail
  go_ret
  exact ⟨rfl, hb23⟩

theorem classes_any (F : Interp) (p0 p1 pT : Addr) (sel code off : Int) (wrap : Bool) (w : World) (hF : F.answers w.tape) (hV : Vars w p0 p1 pT) (h0 : 0 ≤ sel) (h1 : sel ≤ 255) :
    Calls Ybaf.prog 3 #[.int .u8 sel, .int .i64 code, .int .i64 off, .bool wrap] w fun e w' => e = .returned (.bool true) ∧ Below w.heap.size w w' := by
  have hr : Int.tmod sel 4 = 0 ∨ Int.tmod sel 4 = 1 ∨ Int.tmod sel 4 = 2 ∨ Int.tmod sel 4 = 3 := by
    rw [Int.tmod_eq_emod_of_nonneg h0]; omega
  rcases hr with hr | hr | hr | hr <;> cases wrap
  · exact roadA0 F p0 p1 pT sel code off w hF hV h0 h1 hr
  · exact roadW0 F p0 p1 pT sel code off w hF hV h0 h1 hr
  · exact roadA1 F p0 p1 pT sel code off w hF hV h0 h1 hr
  · exact roadW1 F p0 p1 pT sel code off w hF hV h0 h1 hr
  · exact roadS F p0 p1 pT sel code off w hF hV h0 h1 hr
  · exact roadSW F p0 p1 pT sel code off w hF hV h0 h1 hr
  · exact roadE F p0 p1 pT sel code off w hF hV h0 h1 hr
  · exact roadEW F p0 p1 pT sel code off w hF hV h0 h1 hr
end Go.Proofs.YbulkbzyeFmt
