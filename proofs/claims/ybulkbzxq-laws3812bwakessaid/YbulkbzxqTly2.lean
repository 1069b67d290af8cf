import Derived.Test.YbulkbzxqTly
namespace Go.Proofs.Ybulkbzxq
open Go.RowKit Go.Conc Go.MuLone

/-- add, with all other blocks as they were. -/
theorem add8_all (B b c : Nat) (n : Int) (v : ByteArray) (l : Value) (full : Bool) (w : World) (h : Tly w b c 44 n l full) (hb : B ≤ b) (hc : B ≤ c) :
    Calls Yba.prog 8 #[.pointer (some ⟨b, 0, none⟩), .string v] w fun e w' => e = .returned (.tuple #[]) ∧ Tly w' b c 44 (IntKind.u64.wrap (n + 1)) (.string v) true ∧ Below B w w' ∧ w'.heap.size = w.heap.size ∧ ∀ k, k ≠ b → k ≠ c → w'.heap[k]? = w.heap[k]? := by
  obtain ⟨h0, h2, h3, h4, hf⟩ := h.cell
  obtain ⟨s, r, hch⟩ := h.chan
  have hch1 : (W1 w b (IntKind.u64.wrap (n + 1)) (.string v)).heap[c]? = some (.chan 1 (if full then #[.agg #[]] else #[]) false s r false) := by
    rw [w1_other _ _ _ _ _ h.ne.symm]; exact hch
  cases full with
  | true =>
    refine (add8_full b c n v l s r w h0 h2 h3 h4 (hf 0) (hf 2) (hf 3) (by simpa using hch1)).mono ?_
    rintro e w' ⟨rfl, rfl⟩
    exact ⟨rfl, ⟨w1_own h, s, r, by simpa using hch1⟩, w1_below _ _ _ hb, w1_size _ _ _ _, fun k hk _ => w1_other _ _ _ _ _ hk⟩
  | false =>
    refine (add8_room b c n v l s r w h0 h2 h3 h4 (hf 0) (hf 2) (hf 3) (by simpa using hch1)).mono ?_
    rintro e w' ⟨rfl, rfl⟩
    refine ⟨rfl, ⟨?_, s + 1, r, ?_⟩, below_setChan (w1_below _ _ _ hb) hc _ _ _ _ _ _, ?_, fun k hk hk2 => ?_⟩
    · rw [setChan_other _ _ _ _ _ _ _ _ _ h.ne.symm]; exact w1_own h
    · exact heap_setChan _ _ _ _ _ _ _ _ (lt_heap hch1)
    · rw [size_setChan]; exact w1_size _ _ _ _
    · rw [setChan_other _ _ _ _ _ _ _ _ _ hk2.symm]; exact w1_other _ _ _ _ _ hk

theorem cnt9_all (B b c : Nat) (n : Int) (l : Value) (full : Bool) (w : World) (h : Tly w b c 44 n l full) (hb : B ≤ b) :
    Calls Yba.prog 9 #[.pointer (some ⟨b, 0, none⟩)] w fun e w' => e = .returned (.int .u64 n) ∧ Tly w' b c 44 n l full ∧ Below B w w' ∧ w'.heap.size = w.heap.size ∧ ∀ k, k ≠ b → w'.heap[k]? = w.heap[k]? := by
  obtain ⟨h0, h2, h3, h4, hf⟩ := h.cell
  obtain ⟨s, r, hch⟩ := h.chan
  refine (cnt9 b n w h0 h2 (hf 0)).mono ?_
  rintro e w' ⟨rfl, rfl⟩
  refine ⟨rfl, ⟨heap_setCell_same _ _ 0 _ _ (.int .i32 0) (heap_setCell_same _ _ 0 _ _ (.int .i32 1) h.cells), s, r, ?_⟩, ((Below.refl _ _).setCell hb _).setCell hb _, by simp [World.setCell], fun k hk => ?_⟩
  · rw [heap_setCell_other _ _ _ _ h.ne.symm, heap_setCell_other _ _ _ _ h.ne.symm]
    exact hch
  · rw [heap_setCell_other _ _ _ _ hk, heap_setCell_other _ _ _ _ hk]

theorem Tly.al {w : World} {b c : Nat} {t : TypeId} {n : Int} {l : Value} {full : Bool} (h : Tly w b c t n l full) (o : Obj) : Tly (w.alloc o) b c t n l full := by
  obtain ⟨s, r, hc⟩ := h.chan
  exact ⟨by rw [Below.heap_alloc _ _ _ (lt_heap h.cells)]; exact h.cells, s, r, by rw [Below.heap_alloc _ _ _ (lt_heap hc)]; exact hc⟩

/-- a box of two cells in another world where its block is as it was. -/
theorem box_cell {w w' : World} {x y : Value} {t : TypeId} (h : w'.heap[w.heap.size]? = (w.alloc (.cells #[x, y] t)).heap[w.heap.size]?) : w'.cell? ⟨w.heap.size, 0, none⟩ = some x ∧ w'.cell? ⟨w.heap.size, 1, none⟩ = some y := by
  rw [heap_alloc_new] at h
  exact ⟨by simp [World.cell?, h], by simp [World.cell?, h]⟩

theorem box_keep {w3 w4 : World} {b k N : Nat} {v : Value} (h : ∀ j, j ≠ b → w4.heap[j]? = w3.drew.heap[j]?) (x : w3.cell? ⟨N, k, none⟩ = some v) (hb : b < N) : w4.cell? ⟨N, k, none⟩ = some v := by
  have := h N (by omega)
  unfold World.cell? at x ⊢
  rw [this]
  exact x

theorem wrap_nat (m : Nat) (h : m ≤ 4096) : IntKind.u64.wrap ((m : Int) + 1) = ((m + 1 : Nat) : Int) := by
  simp [IntKind.wrap, IntKind.signed, IntKind.bits]; omega
end Go.Proofs.Ybulkbzxq
