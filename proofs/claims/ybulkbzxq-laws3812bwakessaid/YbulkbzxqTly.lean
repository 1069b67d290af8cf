import Derived.Test.YbulkbzxqAdd
namespace Go.Proofs.Ybulkbzxq
open Go.RowKit Go.Conc Go.MuLone

/-- A tally in memory: its block, the lock free; its channel, with a wake-up waiting or none. -/
structure Tly (w : World) (b c : Nat) (t : TypeId) (n : Int) (l : Value) (full : Bool) : Prop where
  cells : w.heap[b]? = some (.cells #[.int .i32 0, .int .u32 0, .int .u64 n, l, .chan (some c)] t)
  chan : ∃ s r, w.heap[c]? = some (.chan 1 (if full then #[.agg #[]] else #[]) false s r false)

theorem Tly.ne {w : World} {b c : Nat} {t : TypeId} {n : Int} {l : Value} {full : Bool} (h : Tly w b c t n l full) : b ≠ c := by
  intro e
  obtain ⟨s, r, hc⟩ := h.chan
  rw [← e, h.cells] at hc
  cases hc

theorem Tly.cell {w : World} {b c : Nat} {t : TypeId} {n : Int} {l : Value} {full : Bool} (h : Tly w b c t n l full) :
    w.cell? ⟨b, 0, none⟩ = some (.int .i32 0) ∧ w.cell? ⟨b, 2, none⟩ = some (.int .u64 n) ∧ w.cell? ⟨b, 3, none⟩ = some l ∧ w.cell? ⟨b, 4, none⟩ = some (.chan (some c)) ∧ ∀ i, w.frozen? ⟨b, i, none⟩ = false := by
  have hc := h.cells
  refine ⟨by simp [World.cell?, hc], by simp [World.cell?, hc], by simp [World.cell?, hc], by simp [World.cell?, hc], fun i => frozen_of_row _ _ _ _ _ hc⟩

theorem w1_own {w : World} {b c : Nat} {t : TypeId} {n n' : Int} {l v : Value} {full : Bool} (h : Tly w b c t n l full) : (W1 w b n' v).heap[b]? = some (.cells #[.int .i32 0, .int .u32 0, .int .u64 n', v, .chan (some c)] t) :=
  heap_setCell_same _ _ 0 _ _ (.int .i32 0) (heap_setCell_same _ _ 3 _ _ v (heap_setCell_same _ _ 2 _ _ (.int .u64 n') (heap_setCell_same _ _ 0 _ _ (.int .i32 1) h.cells)))

theorem w1_other (w : World) (b k : Nat) (n' : Int) (v : Value) (h : k ≠ b) : (W1 w b n' v).heap[k]? = w.heap[k]? := by
  unfold W1
  rw [heap_setCell_other _ _ _ _ h, heap_setCell_other _ _ _ _ h, heap_setCell_other _ _ _ _ h, heap_setCell_other _ _ _ _ h]

theorem w1_size (w : World) (b : Nat) (n' : Int) (v : Value) : (W1 w b n' v).heap.size = w.heap.size := by
  unfold W1
  simp [World.setCell]

theorem w1_below {B b : Nat} (w : World) (n' : Int) (v : Value) (h : B ≤ b) : Below B w (W1 w b n' v) :=
  ((((Below.refl _ _).setCell h _).setCell h _).setCell h _).setCell h _

theorem lt_heap {w : World} {k : Nat} {o : Obj} (h : w.heap[k]? = some o) : k < w.heap.size := (Array.getElem?_eq_some_iff.1 h).1

theorem setChan_other (w : World) (c c' cap : Nat) (buf : Array Value) (closed : Bool) (s r : Nat) (tm : Bool) (h : c ≠ c') : (w.setChan c cap buf closed s r tm).heap[c']? = w.heap[c']? := by
  simp [World.setChan, Array.getElem?_setIfInBounds_ne h]

/-- add: one more, the latest v, a wake-up waits; below B nothing has turned. -/
theorem add5_any (B b c : Nat) (n : Int) (v : Int) (l : Value) (full : Bool) (w : World) (h : Tly w b c 34 n l full) (hb : B ≤ b) (hc : B ≤ c) :
    Calls Yba.prog 5 #[.pointer (some ⟨b, 0, none⟩), .int .i64 v] w fun e w' => e = .returned (.tuple #[]) ∧ Tly w' b c 34 (IntKind.u64.wrap (n + 1)) (.int .i64 v) true ∧ Below B w w' ∧ w'.heap.size = w.heap.size := by
  obtain ⟨h0, h2, h3, h4, hf⟩ := h.cell
  obtain ⟨s, r, hch⟩ := h.chan
  have hch1 : (W1 w b (IntKind.u64.wrap (n + 1)) (.int .i64 v)).heap[c]? = some (.chan 1 (if full then #[.agg #[]] else #[]) false s r false) := by
    rw [w1_other _ _ _ _ _ h.ne.symm]; exact hch
  cases full with
  | true =>
    refine (add5_full b c n v l s r w h0 h2 h3 h4 (hf 0) (hf 2) (hf 3) (by simpa using hch1)).mono ?_
    rintro e w' ⟨rfl, rfl⟩
    exact ⟨rfl, ⟨w1_own h, s, r, by simpa using hch1⟩, w1_below _ _ _ hb, w1_size _ _ _ _⟩
  | false =>
    refine (add5_room b c n v l s r w h0 h2 h3 h4 (hf 0) (hf 2) (hf 3) (by simpa using hch1)).mono ?_
    rintro e w' ⟨rfl, rfl⟩
    refine ⟨rfl, ⟨?_, s + 1, r, ?_⟩, below_setChan (w1_below _ _ _ hb) hc _ _ _ _ _ _, ?_⟩
    · rw [setChan_other _ _ _ _ _ _ _ _ _ h.ne.symm]; exact w1_own h
    · exact heap_setChan _ _ _ _ _ _ _ _ (lt_heap hch1)
    · rw [size_setChan]; exact w1_size _ _ _ _

/-- add: one more, the latest v, a wake-up waits; below B nothing has turned. -/
theorem add8_any (B b c : Nat) (n : Int) (v : ByteArray) (l : Value) (full : Bool) (w : World) (h : Tly w b c 44 n l full) (hb : B ≤ b) (hc : B ≤ c) :
    Calls Yba.prog 8 #[.pointer (some ⟨b, 0, none⟩), .string v] w fun e w' => e = .returned (.tuple #[]) ∧ Tly w' b c 44 (IntKind.u64.wrap (n + 1)) (.string v) true ∧ Below B w w' ∧ w'.heap.size = w.heap.size := by
  obtain ⟨h0, h2, h3, h4, hf⟩ := h.cell
  obtain ⟨s, r, hch⟩ := h.chan
  have hch1 : (W1 w b (IntKind.u64.wrap (n + 1)) (.string v)).heap[c]? = some (.chan 1 (if full then #[.agg #[]] else #[]) false s r false) := by
    rw [w1_other _ _ _ _ _ h.ne.symm]; exact hch
  cases full with
  | true =>
    refine (add8_full b c n v l s r w h0 h2 h3 h4 (hf 0) (hf 2) (hf 3) (by simpa using hch1)).mono ?_
    rintro e w' ⟨rfl, rfl⟩
    exact ⟨rfl, ⟨w1_own h, s, r, by simpa using hch1⟩, w1_below _ _ _ hb, w1_size _ _ _ _⟩
  | false =>
    refine (add8_room b c n v l s r w h0 h2 h3 h4 (hf 0) (hf 2) (hf 3) (by simpa using hch1)).mono ?_
    rintro e w' ⟨rfl, rfl⟩
    refine ⟨rfl, ⟨?_, s + 1, r, ?_⟩, below_setChan (w1_below _ _ _ hb) hc _ _ _ _ _ _, ?_⟩
    · rw [setChan_other _ _ _ _ _ _ _ _ _ h.ne.symm]; exact w1_own h
    · exact heap_setChan _ _ _ _ _ _ _ _ (lt_heap hch1)
    · rw [size_setChan]; exact w1_size _ _ _ _

theorem cnt6_any (B b c : Nat) (n : Int) (l : Value) (full : Bool) (w : World) (h : Tly w b c 34 n l full) (hb : B ≤ b) :
    Calls Yba.prog 6 #[.pointer (some ⟨b, 0, none⟩)] w fun e w' => e = .returned (.int .u64 n) ∧ Tly w' b c 34 n l full ∧ Below B w w' ∧ w'.heap.size = w.heap.size := by
  obtain ⟨h0, h2, h3, h4, hf⟩ := h.cell
  obtain ⟨s, r, hch⟩ := h.chan
  refine (cnt6 b n w h0 h2 (hf 0)).mono ?_
  rintro e w' ⟨rfl, rfl⟩
  refine ⟨rfl, ⟨heap_setCell_same _ _ 0 _ _ (.int .i32 0) (heap_setCell_same _ _ 0 _ _ (.int .i32 1) h.cells), s, r, ?_⟩, ((Below.refl _ _).setCell hb _).setCell hb _, by simp [World.setCell]⟩
  rw [heap_setCell_other _ _ _ _ h.ne.symm, heap_setCell_other _ _ _ _ h.ne.symm]
  exact hch

theorem cnt9_any (B b c : Nat) (n : Int) (l : Value) (full : Bool) (w : World) (h : Tly w b c 44 n l full) (hb : B ≤ b) :
    Calls Yba.prog 9 #[.pointer (some ⟨b, 0, none⟩)] w fun e w' => e = .returned (.int .u64 n) ∧ Tly w' b c 44 n l full ∧ Below B w w' ∧ w'.heap.size = w.heap.size := by
  obtain ⟨h0, h2, h3, h4, hf⟩ := h.cell
  obtain ⟨s, r, hch⟩ := h.chan
  refine (cnt9 b n w h0 h2 (hf 0)).mono ?_
  rintro e w' ⟨rfl, rfl⟩
  refine ⟨rfl, ⟨heap_setCell_same _ _ 0 _ _ (.int .i32 0) (heap_setCell_same _ _ 0 _ _ (.int .i32 1) h.cells), s, r, ?_⟩, ((Below.refl _ _).setCell hb _).setCell hb _, by simp [World.setCell]⟩
  rw [heap_setCell_other _ _ _ _ h.ne.symm, heap_setCell_other _ _ _ _ h.ne.symm]
  exact hch

end Go.Proofs.Ybulkbzxq
