import Derived.Test.YbulkbzwoFmtRows
import Derived.Test.YbulkbzwoFmtShelf
import Derived.Test.YbulkbzwoFmtSrch
import Derived.WalkKit
import Derived.WalkSpells
import Derived.WalkLawsBesides
import Derived.RegionTactic
import Derived.Deep.RegionWith
namespace Go.Proofs.YbulkbzwoFmt
open Go.Shelf Go.RowKit Go.Lib Go.Sort

/-- Does date lie before s? -/
def after (date s : ByteArray) : Bool := !Op.bytesLess s.toList date.toList && !(s.toList == date.toList)

/-- A row of strings: n of them at the address. -/
def RowC (w : World) (a : Option Addr) (n : Nat) (C : Nat → ByteArray) : Prop :=
  n = 0 ∨ ∃ blk off, a = some ⟨blk, off, none⟩ ∧ ∀ i, i < n → w.cell? ⟨blk, off + i, none⟩ = some (.string (C i))

set_option maxHeartbeats 2000000 in
theorem clo27 (cb db tb blk off cap n i : Nat) (date s : ByteArray) (W : World) (hi : i < n)
    (h1 : W.cell? ⟨cb, 0, none⟩ = some (.pointer (some ⟨tb, 0, none⟩))) (h2 : W.cell? ⟨tb, 0, none⟩ = some (.slice (some ⟨blk, off, none⟩) n cap)) (h3 : W.cell? ⟨db, 0, none⟩ = some (.string date)) (h4 : W.cell? ⟨blk, off + i, none⟩ = some (.string s)) :
    Calls Ybaf.prog 27 (#[.int .i64 i] ++ #[.pointer (some ⟨cb, 0, none⟩), .pointer (some ⟨db, 0, none⟩)]) W fun e w' => e = .returned (.bool (after date s)) ∧ ∃ q, w' = W.drewN q := by
  have hiz : (i : Int) < (n : Int) := by omega
  go_enter Ybaf.func27, Ybaf.ntmps27
  go_wp2
  go_region
  all_goals go_wp2
  all_goals go_ret
  all_goals exact ⟨rfl, 1, rfl⟩

/-- How many of the first n do not lie after date. -/
def cnt (C : Nat → ByteArray) (n : Nat) (date : ByteArray) : Nat := (List.range n).countP fun i => !after date (C i)

set_option maxHeartbeats 2000000 in
theorem clo25 (cb tb n cap : Nat) (a : Option Addr) (C : Nat → ByteArray) (date : ByteArray) (w : World) (hn : n ≤ 1024)
    (h1 : w.cell? ⟨cb, 0, none⟩ = some (.pointer (some ⟨tb, 0, none⟩))) (h2 : w.cell? ⟨tb, 0, none⟩ = some (.slice a n cap)) (hr : RowC w a n C)
    (hm : ∀ x y, x ≤ y → y < n → after date (C x) = true → after date (C y) = true) :
    Calls Ybaf.prog 25 #[.string date, .pointer (some ⟨cb, 0, none⟩)] w fun e w' => e = .returned (.int .i64 (cnt C n date : Nat)) ∧ Below w.heap.size w w' := by
  obtain ⟨W0, hW0⟩ : ∃ W0, W0 = w.alloc (.cells #[.string date] 9) := ⟨_, rfl⟩
  have hsize : W0.heap.size = w.heap.size + 1 := by rw [hW0]; simp
  have hb : Below w.heap.size w W0 := by rw [hW0]; exact (Below.refl _ _).alloc (Nat.le_refl _) _
  have c1 : W0.cell? ⟨cb, 0, none⟩ = some (.pointer (some ⟨tb, 0, none⟩)) := cell_later hb h1
  have c2 : W0.cell? ⟨tb, 0, none⟩ = some (.slice a n cap) := cell_later hb h2
  have c3 : W0.cell? ⟨w.heap.size, 0, none⟩ = some (.string date) := by rw [hW0]; exact cell_new_sl w _ _
  have l1 := World.block_lt_of_cell? _ _ c1
  have l2 := World.block_lt_of_cell? _ _ c2
  have l3 := World.block_lt_of_cell? _ _ c3
  have eg : ∀ args w, (callFunc 27 args).run Ybaf.prog w = .ok (.enter 27 args) w := enters_of Ybaf.func27 (by kernel_rfl) rfl
  have hS := Ybaf.sort_Search 27 #[.pointer (some ⟨cb, 0, none⟩), .pointer (some ⟨w.heap.size, 0, none⟩)] n (fun i => after date (C i)) W0 eg (by omega)
    (fun m os i hi => by
      rcases hr with h0 | ⟨blk, off, rfl, hc⟩
      · omega
      · have c4 := cell_later hb (hc i hi)
        have l4 := World.block_lt_of_cell? _ _ c4
        exact (clo27 cb w.heap.size tb blk off cap n i date (C i) _ hi (cell_grown l1 c1 m os) (cell_grown l2 c2 m os) (cell_grown l3 c3 m os) (cell_grown l4 c4 m os)).mono
          fun _ _ ⟨he, q, hq⟩ => ⟨he, q, #[], by rw [hq, grow_empty]⟩) hm
  change Calls Ybaf.prog 26 _ _ fun e w' => e = .returned (.int .i64 (cnt C n date : Nat)) ∧ ∃ q os, w' = grow (W0.drewN q) os at hS
  clear hr hm c3 l1 l2 l3 h1 h2
  rw [hW0] at c1 c2
  generalize cnt C n date = r at hS ⊢
  go_enter Ybaf.func25, Ybaf.ntmps25
  go_wp2_with (go_at_call 26; rw [← hW0]; refine hS.mono ?_; rintro e w' ⟨rfl, q, os, rfl⟩)
  go_ret
  refine ⟨rfl, ?_⟩
  rw [← hW0]
  exact hb.trans (below_grown_sl w.heap.size W0 q os (by omega))

theorem RowC.later {w w' : World} {a : Option Addr} {n : Nat} {C : Nat → ByteArray} (h : RowC w a n C) (hb : RowKit.Below w.heap.size w w') : RowC w' a n C := by
  rcases h with h | ⟨blk, off, rfl, hc⟩
  · exact .inl h
  · exact .inr ⟨blk, off, rfl, fun i hi => cell_later hb (hc i hi)⟩

theorem cnt_le (C : Nat → ByteArray) (n : Nat) (date : ByteArray) : cnt C n date ≤ n := by
  unfold cnt
  have := List.countP_le_length (p := fun i => !after date (C i)) (l := List.range n)
  simpa using this

set_option maxHeartbeats 4000000 in
theorem between12 (tb n cap : Nat) (a : Option Addr) (C : Nat → ByteArray) (from_ to_ : ByteArray) (w : World) (hn : n ≤ 1024) (hnc : n ≤ cap) (ha : a = none → cap = 0)
    (h2 : w.cell? ⟨tb, 0, none⟩ = some (.slice a n cap)) (hr : RowC w a n C)
    (hm : ∀ d x y, x ≤ y → y < n → after d (C x) = true → after d (C y) = true) :
    Calls Ybaf.prog 12 #[.pointer (some ⟨tb, 0, none⟩), .string from_, .string to_] w fun e w' => Below w.heap.size w w' ∧
      ((¬ cnt C n from_ < cnt C n to_ ∧ ∃ a' c', e = .returned (.slice a' 0 c')) ∨ (cnt C n from_ < cnt C n to_ ∧ ∃ blk off c', a = some ⟨blk, off, none⟩ ∧ e = .returned (.slice (some ⟨blk, off + cnt C n from_, none⟩) (cnt C n to_ - cnt C n from_) c'))) := by
  obtain ⟨W0, hW0⟩ : ∃ W0, W0 = w.alloc (.cells #[.pointer (some ⟨tb, 0, none⟩)] 25) := ⟨_, rfl⟩
  have hb : RowKit.Below w.heap.size w W0 := by rw [hW0]; exact (Below.refl _ _).alloc (Nat.le_refl _) _
  have c1 : W0.cell? ⟨w.heap.size, 0, none⟩ = some (.pointer (some ⟨tb, 0, none⟩)) := by rw [hW0]; exact cell_new_sl w _ _
  have c2 : W0.cell? ⟨tb, 0, none⟩ = some (.slice a n cap) := cell_later hb h2
  have hS1 := clo25 w.heap.size tb n cap a C from_ W0 hn c1 c2 (hr.later hb) (hm from_)
  have hS2 : ∀ w1, RowKit.Below W0.heap.size W0 w1 → Calls Ybaf.prog 25 #[.string to_, .pointer (some ⟨w.heap.size, 0, none⟩)] w1 fun e w' => e = .returned (.int .i64 (cnt C n to_ : Nat)) ∧ RowKit.Below W0.heap.size W0 w' ∧ w'.cell? ⟨w.heap.size, 0, none⟩ = some (.pointer (some ⟨tb, 0, none⟩)) ∧ w'.cell? ⟨tb, 0, none⟩ = some (.slice a n cap) := fun w1 hb1 =>
    (clo25 w.heap.size tb n cap a C to_ w1 hn (cell_later hb1 c1) (cell_later hb1 c2) ((hr.later hb).later hb1) (hm to_)).mono fun e w' ⟨he, hb2⟩ => by
      have hb3 := hb1.trans (hb2.mono hb1.size)
      exact ⟨he, hb3, cell_later hb3 c1, cell_later hb3 c2⟩
  have i1 := cnt_le C n from_
  have i2 := cnt_le C n to_
  have HA : Hid (n = 0 ∨ ∃ blk off, a = some ⟨blk, off, none⟩) := hr.imp_right fun ⟨b, o, h, _⟩ => ⟨b, o, h⟩
  clear hr hm c1 c2
  generalize cnt C n from_ = i at *
  generalize cnt C n to_ = j at *
  by_cases hji : j < i
  · have t1 : decide ((j : Int) < (i : Int)) = true := by simp; omega
    go_enter Ybaf.func12, Ybaf.ntmps12
    go_wp2_with fail
    rw [← hW0]
    refine hS1.mono ?_
    rintro e w1 ⟨rfl, hb1⟩
    go_wp2_with fail
    refine (hS2 w1 hb1).mono ?_
    rintro e w2 ⟨rfl, hb2, d1, d2⟩
    go_wp2_with fail
    go_ret
    exact ⟨hb.trans (hb2.mono hb.size), .inl ⟨by omega, _, _, rfl⟩⟩
  · have t1 : decide ((j : Int) < (i : Int)) = false := by simp; omega
    have t2 : (i : Int) ≤ (j : Int) := by omega
    have t3 : (j : Int) ≤ (cap : Int) := by omega
    rcases a with _ | ⟨blk, off, sp⟩
    · obtain rfl := ha rfl
      obtain rfl : n = 0 := by omega
      obtain rfl : i = 0 := by omega
      obtain rfl : j = 0 := by omega
      go_enter Ybaf.func12, Ybaf.ntmps12
      go_wp2_with fail
      rw [← hW0]
      refine hS1.mono ?_
      rintro e w1 ⟨rfl, hb1⟩
      go_wp2_with fail
      refine (hS2 w1 hb1).mono ?_
      rintro e w2 ⟨rfl, hb2, d1, d2⟩
      go_wp2_with fail
      go_ret
      exact ⟨hb.trans (hb2.mono hb.size), .inl ⟨by omega, _, _, rfl⟩⟩
    · go_enter Ybaf.func12, Ybaf.ntmps12
      go_wp2_with fail
      rw [← hW0]
      refine hS1.mono ?_
      rintro e w1 ⟨rfl, hb1⟩
      go_wp2_with fail
      refine (hS2 w1 hb1).mono ?_
      rintro e w2 ⟨rfl, hb2, d1, d2⟩
      go_wp2_with fail
      · go_ret
        refine ⟨hb.trans (hb2.mono hb.size), .inl ⟨by omega, some ⟨blk, off, sp⟩, 0, ?_⟩⟩
        rw [show j - i = 0 by omega]
        rfl
      · go_ret
        refine ⟨hb.trans (hb2.mono hb.size), ?_⟩
        by_cases hij : i < j
        · obtain ⟨b', o', he⟩ := HA.out.resolve_left (by omega)
          injection he with he
          injection he with e1 e2 e3
          subst e1 e2 e3
          exact .inr ⟨hij, _, _, ⟨rfl, rfl, rfl⟩, cap - i, by simp [Go.WideShapes.add_plain]⟩
        · refine .inl ⟨by omega, some (Addr.add ⟨blk, off, sp⟩ i), cap - i, ?_⟩
          rw [show j - i = 0 by omega]
          rfl
end Go.Proofs.YbulkbzwoFmt
