import Derived.Test.YbulkbzuyRowW
namespace Go.Proofs.Ybulkbzuy
open Go.RowKit

theorem bcell {W w1 : World} (hb : Below W.heap.size W w1) : (∀ b o, b < W.heap.size → w1.cell? ⟨b, o, none⟩ = W.cell? ⟨b, o, none⟩) ∧ (∀ b o, b < W.heap.size → w1.frozen? ⟨b, o, none⟩ = W.frozen? ⟨b, o, none⟩) :=
  ⟨fun b o h => hb.cell (p := ⟨b, o, none⟩) h, fun b o h => hb.frozen (p := ⟨b, o, none⟩) h⟩

/-- The block b of w is an Evaluator's: fifteen cells. -/
def IsEv (w : World) (b : Nat) (c0 c1 c2 c3 c4 c5 c6 c7 c8 c9 c10 c11 c12 c13 c14 : Value) : Prop :=
  w.heap[b]? = some (.cells #[c0, c1, c2, c3, c4, c5, c6, c7, c8, c9, c10, c11, c12, c13, c14] 60)

theorem IsEv.cell {w : World} {b : Nat} {c0 c1 c2 c3 c4 c5 c6 c7 c8 c9 c10 c11 c12 c13 c14 : Value} (h : IsEv w b c0 c1 c2 c3 c4 c5 c6 c7 c8 c9 c10 c11 c12 c13 c14) :
    w.cell? ⟨b, 0, none⟩ = some c0 ∧ w.cell? ⟨b, 1, none⟩ = some c1 ∧ w.cell? ⟨b, 2, none⟩ = some c2 ∧ w.cell? ⟨b, 3, none⟩ = some c3 ∧ w.cell? ⟨b, 4, none⟩ = some c4 ∧ w.cell? ⟨b, 5, none⟩ = some c5 ∧ w.cell? ⟨b, 6, none⟩ = some c6 ∧ w.cell? ⟨b, 7, none⟩ = some c7 ∧ w.cell? ⟨b, 8, none⟩ = some c8 ∧ w.cell? ⟨b, 9, none⟩ = some c9 ∧ w.cell? ⟨b, 10, none⟩ = some c10 ∧ w.cell? ⟨b, 11, none⟩ = some c11 ∧ w.cell? ⟨b, 12, none⟩ = some c12 ∧ w.cell? ⟨b, 13, none⟩ = some c13 ∧ w.cell? ⟨b, 14, none⟩ = some c14 := by
  unfold IsEv at h
  simp [World.cell?, h]

theorem blk_set (w : World) (g i : Nat) (cs : Array Value) (t : TypeId) (v : Value) (h : w.heap[g]? = some (.cells cs t)) : (w.setCell ⟨g, i, none⟩ v).heap[g]? = some (.cells (cs.setIfInBounds i v) t) :=
  heap_setCell_same w g i cs t v h

theorem clone_end {w w1 : World} {g1 g2 g3 : Nat} {c0 c1 c2 c3 c4 c5 c6 c7 c8 c9 c10 c11 c12 c13 c14 x11 x12 x13 x14 : Value} {m1 m2 m3 : Array Value} {t1 t2 t3 : TypeId}
    (b1 : (w.alloc (.cells #[c0, c1, c2, c3, c4, c5, c6, c7, c8, c9, c10, c11, c12, c13, c14] 60)).drew.heap.size ≤ g1)
    (b2 : (w.alloc (.cells #[c0, c1, c2, c3, c4, c5, c6, c7, c8, c9, c10, c11, c12, c13, c14] 60)).drew.heap.size ≤ g2)
    (b3 : (w.alloc (.cells #[c0, c1, c2, c3, c4, c5, c6, c7, c8, c9, c10, c11, c12, c13, c14] 60)).drew.heap.size ≤ g3)
    (r1 : w1.heap[g1]? = some (.cells m1 t1)) (r2 : w1.heap[g2]? = some (.cells m2 t2)) (r3 : w1.heap[g3]? = some (.cells m3 t3))
    (hb : Below (w.alloc (.cells #[c0, c1, c2, c3, c4, c5, c6, c7, c8, c9, c10, c11, c12, c13, c14] 60)).drew.heap.size (w.alloc (.cells #[c0, c1, c2, c3, c4, c5, c6, c7, c8, c9, c10, c11, c12, c13, c14] 60)).drew w1) :
    let W := (((w1.setCell ⟨w.heap.size, 11, none⟩ x11).setCell ⟨w.heap.size, 12, none⟩ x12).setCell ⟨w.heap.size, 13, none⟩ x13).setCell ⟨w.heap.size, 14, none⟩ x14
    w.heap.size ≤ g1 ∧ w.heap.size ≤ g2 ∧ w.heap.size ≤ g3 ∧ IsEv W w.heap.size c0 c1 c2 c3 c4 c5 c6 c7 c8 c9 c10 x11 x12 x13 x14 ∧ W.heap[g1]? = some (.cells m1 t1) ∧ W.heap[g2]? = some (.cells m2 t2) ∧ W.heap[g3]? = some (.cells m3 t3) ∧ Below w.heap.size w W := by
  simp only [World.size_drew, World.size_alloc] at b1 b2 b3
  have h0 : w1.heap[w.heap.size]? = some (.cells #[c0, c1, c2, c3, c4, c5, c6, c7, c8, c9, c10, c11, c12, c13, c14] 60) := by
    rw [hb.block _ (by simp)]; exact Deep.blk_alloc_new w _
  have h4 := blk_set _ _ 14 _ _ x14 (blk_set _ _ 13 _ _ x13 (blk_set _ _ 12 _ _ x12 (blk_set _ _ 11 _ _ x11 h0)))
  have ho : ∀ g, w.heap.size < g → ((((w1.setCell ⟨w.heap.size, 11, none⟩ x11).setCell ⟨w.heap.size, 12, none⟩ x12).setCell ⟨w.heap.size, 13, none⟩ x13).setCell ⟨w.heap.size, 14, none⟩ x14).heap[g]? = w1.heap[g]? := by
    intro g hg
    rw [heap_setCell_other _ _ _ _ (by simp; omega), heap_setCell_other _ _ _ _ (by simp; omega), heap_setCell_other _ _ _ _ (by simp; omega), heap_setCell_other _ _ _ _ (by simp; omega)]
  have hbel : Below w.heap.size w w1 := (((Below.refl _ _).alloc (Nat.le_refl _) _).drew).trans (hb.mono (by simp))
  refine ⟨by omega, by omega, by omega, h4, by rw [ho g1 (by omega)]; exact r1, by rw [ho g2 (by omega)]; exact r2, by rw [ho g3 (by omega)]; exact r3, ?_⟩
  exact (((hbel.setCell (by simp) _).setCell (by simp) _).setCell (by simp) _).setCell (by simp) _

set_option maxHeartbeats 1000000 in
theorem clone_any (b n c1 k c0 m c2 n' c3 : Nat) (a0 a1 a2 a3 : Option Addr) (p6 p7 p8 p9 : Addr) (k0 k1 k2 k3 k4 k5 now : Int) (w : World) (hn : n ≤ 1024)
    (h : IsEv w b (.int .i64 k0) (.int .i64 k1) (.int .i64 k2) (.int .i64 k3) (.int .i64 k4) (.int .i64 k5) (.iface 35 (.pointer (some p6))) (.iface 38 (.pointer (some p7))) (.iface 41 (.pointer (some p8))) (.pointer (some p9)) (.slice a0 k c0) (.slice a1 n c1) (.slice a2 m c2) (.slice a3 n' c3) (.int .i64 now)) :
    Calls Yba.prog 7 #[.pointer (some ⟨b, 0, none⟩)] w fun e w' => ∃ gc g1 g2 g3 : Nat, e = .returned (.pointer (some ⟨gc, 0, none⟩)) ∧ w.heap.size ≤ gc ∧ w.heap.size ≤ g1 ∧ w.heap.size ≤ g2 ∧ w.heap.size ≤ g3
      ∧ IsEv w' gc (.int .i64 k0) (.int .i64 k1) (.int .i64 k2) (.int .i64 k3) (.int .i64 k4) (.int .i64 k5) (.iface 35 (.pointer (some p6))) (.iface 38 (.pointer (some p7))) (.iface 41 (.pointer (some p8))) (.pointer (some p9)) (.slice a0 k c0) (.slice (some ⟨g1, 0, none⟩) n n) (.slice (some ⟨g2, 0, none⟩) n n) (.slice (some ⟨g3, 0, none⟩) n n) (.int .i64 now)
      ∧ w'.heap[g1]? = some (.cells (madeCells #[.int .i64 0] n) 2)
      ∧ w'.heap[g2]? = some (.cells (madeCells #[.float .f64 0] n) 27) ∧ w'.heap[g3]? = some (.cells (madeCells #[.slice none 0 0] n) 30) ∧ Below w.heap.size w w' := by
  obtain ⟨e0, e1, e2, e3, e4, e5, e6, e7, e8, e9, e10, e11, e12, e13, e14⟩ := h.cell
  have hlt : b < w.heap.size := (Array.getElem?_eq_some_iff.1 h).1
  clear h
  go_enter Yba.func7, Yba.ntmps7
  go_wp2
  go_region_with (go_at_call 11; refine (newRow_any _ _ _ hn).mono ?_; rintro e w1 ⟨g1, g2, g3, rfl, b1, b2, b3, r1, r2, r3, hb⟩; obtain ⟨hc, hf⟩ := bcell hb; simp only [World.size_alloc, World.size_drew] at hc hf)
  all_goals
    go_wp2
    go_ret
    have hend := clone_end (x11 := .slice (some ⟨g1, 0, none⟩) n n) (x12 := .slice (some ⟨g2, 0, none⟩) n n) (x13 := .slice (some ⟨g3, 0, none⟩) n n) (x14 := .int .i64 now) b1 b2 b3 r1 r2 r3 hb
    exact ⟨w.heap.size, g1, g2, g3, rfl, Nat.le_refl _, hend⟩
end Go.Proofs.Ybulkbzuy
