import Derived.Test.YbulkbzwoFmtE
import Derived.Sort.OwnSorted
import Derived.Lib.OwnBridge
import Derived.Lib.RowBridge
namespace Go.Proofs.YbulkbzwoFmt
open Go.RowKit Go.Sort Go.Lib

/-- The strings, as bytes. -/
def B (zs : List (List UInt8)) (i : Nat) : ByteArray := ⟨(zs.getD i []).toArray⟩

/-- A slice of the call's own (blocks from b on) that holds zs; nil, if zs is empty. -/
def Own (b : Nat) (w : World) (v : Value) (zs : List (List UInt8)) : Prop := w.ownsRow b 9 1 v zs.length (zs.map encStr)

theorem Own.le {b b' : Nat} {w : World} {v : Value} {zs : List (List UInt8)} (h : Own b w v zs) (hb : b' ≤ b) : Own b' w v zs :=
  ⟨h.1, h.2.elim Or.inl (fun ⟨g, cap, cur, hv, hg, r⟩ => Or.inr ⟨g, cap, cur, hv, Nat.le_trans hb hg, r⟩)⟩

theorem Own.below {b : Nat} {w w' : World} {v : Value} {zs : List (List UInt8)} (h : Own b w v zs) (hb : RowKit.Below w.heap.size w w') : Own b w' v zs :=
  World.ownsRow.kept h ⟨hb.os, hb.tape, hb.output, hb.size, fun k hk _ => hb.block k hk⟩ (row := none) (by cases v.ownBlock <;> simp)

theorem Own.row {b : Nat} {w : World} {v : Value} {zs : List (List UInt8)} (h : Own b w v zs) :
    ∃ a cap, v = .slice a zs.length cap ∧ zs.length ≤ cap ∧ (a = none → cap = 0) ∧ RowC w a zs.length (B zs) := by
  by_cases hv : v = .slice none 0 0
  · rcases h.2 with ⟨_, h0⟩ | ⟨g, cap, cur, e, _⟩
    · exact ⟨none, 0, by rw [h0]; exact hv, by omega, fun _ => rfl, .inl h0⟩
    · rw [hv] at e; cases e
  · obtain ⟨g, cap, rfl, _, _, hn, _, _, hH⟩ := holds_of_ownsRow h hv
    refine ⟨_, cap, rfl, hn, nofun, .inr ⟨g, 0, rfl, fun i hi => ?_⟩⟩
    rw [(hH i (by simpa using hi)).1]
    simp [B, hi, encStr]

theorem sort6 (b : Nat) (w : World) (v : Value) (zs : List (List UInt8)) (h : Own b w v zs) (hn : zs.length ≤ 1024) :
    Calls Ybaf.prog 6 #[v] w fun e w' => e = .returned (.tuple #[]) ∧ Own b w' v (zs.mergeSort fun x y => decide (x ≤ y)) ∧ RowKit.Below b w w' := by
  by_cases hz : zs.length = 0
  · obtain rfl : zs = [] := List.eq_nil_of_length_eq_zero hz
    obtain ⟨a, cap, rfl, _⟩ := h.row
    refine (Ybaf.slices_Sort_string_none a cap w).mono ?_
    rintro e w' ⟨rfl, rfl⟩
    exact ⟨rfl, by simpa using h, Below.refl _ _⟩
  · rcases h.2 with ⟨_, h0⟩ | ⟨g, cap, cur, rfl, hbase, hb, h1, h2, h3, h4⟩
    · exact absurd h0 hz
    · refine (Ybaf.slices_Sort_string g 0 cap zs w (holds_of_block hb (by simpa using h4)) (Array.getElem?_eq_some_iff.1 hb).1 (by omega)).mono ?_
      rintro e w' ⟨rfl, n, os, rfl⟩
      refine ⟨rfl, ?_, ?_⟩
      · have := ownsRow_sorted (n := n) (os := os) (ts := zs.mergeSort fun x y => decide (x ≤ y)) (by simp) hbase hb h1 h2 h3
        unfold Own
        rw [List.length_mergeSort]
        exact this
      · have hg := grownBy_sorted (w := w) (g := g) (n := n) (os := os) (zs.mergeSort fun x y => decide (x ≤ y)).toArray
        exact ⟨hg.os, hg.tape, hg.output, hg.size, fun k hk => by
          by_cases hk2 : k < w.heap.size
          · exact hg.block k hk2 (by simp; omega)
          · have := (Array.getElem?_eq_some_iff.1 hb).1
            omega⟩

theorem compact7 (b : Nat) (w : World) (v : Value) (zs : List (List UInt8)) (h : Own b w v zs) (hn : zs.length ≤ 1024) :
    Calls Ybaf.prog 7 #[v] w fun e w' => (∃ v', e = .returned v' ∧ Own b w' v' (compact zs)) ∧ RowKit.Below b w w' := by
  by_cases hz : zs.length = 0
  · obtain rfl : zs = [] := List.eq_nil_of_length_eq_zero hz
    obtain ⟨a, cap, rfl, _⟩ := h.row
    refine (Ybaf.slices_Compact_string_empty a cap w).mono ?_
    rintro e w' ⟨rfl, rfl⟩
    exact ⟨⟨_, rfl, h⟩, Below.refl _ _⟩
  · obtain ⟨g, cap, rfl, hbase, _, hcap, _, _, hH⟩ := holds_of_ownsRow h (by intro e; rcases h.2 with ⟨_, h0⟩ | ⟨g, cap, cur, e2, _⟩; exact hz h0; rw [e] at e2; cases e2)
    refine (Ybaf.slices_Compact_string g 0 cap zs w hH (by omega) hcap).mono ?_
    rintro e w' ⟨rfl, q, rfl⟩
    refine ⟨⟨_, rfl, ?_⟩, below_putRow (Below.refl _ _) hbase⟩
    have hle := compact_length_le zs
    have := ownsRow_putRow (q := q) (ys := compact zs ++ List.replicate (zs.length - (compact zs).length) []) h (by simp; omega) hle
    rw [List.take_left'] at this
    · exact this
    · rfl

theorem take_map_range (f : Nat → ByteArray) (n : Nat) : (((List.range n).map f).take n).map Value.string = ((List.range n).map fun i => (f i).data.toList).map encStr := by
  rw [List.take_of_length_le (by simp)]
  simp [encStr]

/-- slices.Clone. -/
theorem clone5 (a : Option Addr) (n c : Nat) (C : Nat → ByteArray) (w : World) (hr : RowC w a n C) (h0 : a = none → n = 0) (hn : n ≤ 1024) :
    Calls Ybaf.prog 5 #[.slice a n c] w fun e w' => (∃ v', e = .returned v' ∧ Own w.heap.size w' v' ((List.range n).map fun i => (C i).data.toList)) ∧ RowKit.Below w.heap.size w w' := by
  cases a with
  | none =>
    obtain rfl := h0 rfl
    refine (Ybaf.slices_Clone_string_nil 0 c w).mono ?_
    rintro e w' ⟨rfl, rfl⟩
    exact ⟨⟨_, rfl, World.ownsRow_nil _ _ _ _⟩, Below.refl _ _⟩
  | some a =>
    by_cases hz : n = 0
    · subst hz
      refine (Ybaf.slices_Clone_string_zero a c w).mono ?_
      rintro e w' ⟨v', rfl, ho, _, hb⟩
      exact ⟨⟨_, rfl, ho⟩, hb⟩
    · obtain ⟨blk, off, he, hc⟩ := hr.resolve_left hz
      injection he with he
      subst he
      refine (Ybaf.slices_Clone_string blk off n c ((List.range n).map C) w (by simp) (by omega) (fun j hj => ?_)).mono ?_
      · have hj' : j < n := by simpa using hj
        rw [hc j hj']
        simp [hj']
      · rintro e w' ⟨v', rfl, ho, _, hb⟩
        rw [take_map_range] at ho
        refine ⟨⟨_, rfl, ?_⟩, hb⟩
        unfold Own
        rw [show ((List.range n).map fun i => (C i).data.toList).length = n by simp]
        exact ho

theorem range_B (zs : List (List UInt8)) : ((List.range zs.length).map fun i => (B zs i).data.toList) = zs := by
  apply List.ext_getElem
  · simp
  · intro i h1 h2
    simp [B, List.getD, h2]

/-- slices.Equal of two rows of the same strings. -/
theorem equal9 (a1 a2 : Option Addr) (n c1 c2 : Nat) (C : Nat → ByteArray) (w : World) (h1 : RowC w a1 n C) (h2 : RowC w a2 n C) (hn : n ≤ 1024) :
    Calls Ybaf.prog 9 #[.slice a1 n c1, .slice a2 n c2] w fun e w' => e = .returned (.bool true) ∧ RowKit.Below w.heap.size w w' := by
  by_cases hz : n = 0
  · subst hz
    refine (Ybaf.slices_Equal_string_empty a1 a2 c1 0 c2 w (by omega)).mono ?_
    rintro e w' ⟨rfl, rfl⟩
    exact ⟨by simp, Below.refl _ _⟩
  · obtain ⟨b1, o1, rfl, g1⟩ := h1.resolve_left hz
    obtain ⟨b2, o2, rfl, g2⟩ := h2.resolve_left hz
    refine (Ybaf.slices_Equal_string b1 o1 n c1 b2 o2 n c2 ((List.range n).map C) ((List.range n).map C) w (by simp) (by simp) (by omega) (by omega) (fun j hj => ?_) (fun j hj => ?_)).mono ?_
    · have hj' : j < n := by simpa using hj
      rw [g1 j hj']
      simp [hj']
    · have hj' : j < n := by simpa using hj
      rw [g2 j hj']
      simp [hj']
    · rintro e w' ⟨rfl, q, rfl⟩
      exact ⟨by simp, rfl, rfl, rfl, Nat.le_refl _, fun _ _ => rfl⟩
end Go.Proofs.YbulkbzwoFmt
