import Derived.Test.YbulkbzwoFmtFmt
import Derived.Test.YbulkbzwoFmtW
namespace Go.Proofs.YbulkbzwoFmt
open Go.Extern.Stop Go.Stop Go.Extern
open Go.RowKit Go.Sort

set_option maxHeartbeats 2000000 in
theorem errorf13 (F : Interp) (b : Nat) (s : ByteArray) (w : World) (hF : F.answers w.tape) (h : w.cell? ⟨b, 0, none⟩ = some (.iface 9 (.string s))) :
    Calls Ybaf.prog 13 #[.string ⟨#[37, 115, 58, 32, 97, 32, 115, 101, 115, 115, 105, 111, 110, 32, 111, 102, 32, 116, 104, 101, 32, 99, 97, 108, 101, 110, 100, 97, 114, 44, 32, 98, 117, 116, 32, 116, 104, 101, 32, 112, 114, 105, 99, 101, 32, 102, 105, 108, 101, 115, 32, 104, 97, 118, 101, 32, 110, 111, 32, 114, 111, 119, 115, 32, 111, 110, 32, 105, 116]⟩, .slice (some ⟨b, 0, none⟩) 1 1] w fun e w' => (∃ a, e = .returned (.iface 64 (.pointer (some a)))) ∧ RowKit.Below w.heap.size w w' := by
  have hF' := answers_open hF
  go_enter Ybaf.func13, Ybaf.ntmps13
  go_wp2
  go_ret
  exact ⟨⟨_, rfl⟩, ((Below.refl _ _).alloc (Nat.le_refl _) _).drew⟩

theorem RowC.cell {w : World} {blk off n : Nat} {C : Nat → ByteArray} (h : RowC w (some ⟨blk, off, none⟩) n C) (i : Nat) (hi : i < n) : w.cell? ⟨blk, off + i, none⟩ = some (.string (C i)) := by
  rcases h with h | ⟨b, o, he, hc⟩
  · omega
  · injection he with he
    injection he with e1 e2 e3
    subst e1 e2
    exact hc i hi

set_option maxHeartbeats 4000000 in
theorem chk8 (F : Interp) (tb n cap : Nat) (a : Option Addr) (C : Nat → ByteArray) (from_ to_ : ByteArray) (w : World) (hF : F.answers w.tape) (hn : n ≤ 1024) (hnc : n ≤ cap) (ha : a = none → cap = 0)
    (h2 : w.cell? ⟨tb, 0, none⟩ = some (.slice a n cap)) (hr : RowC w a n C)
    (hm : ∀ d x y, x ≤ y → y < n → after d (C x) = true → after d (C y) = true) :
    Calls Ybaf.prog 8 #[.pointer (some ⟨tb, 0, none⟩), .string from_, .string to_] w fun e w' => RowKit.Below w.heap.size w w' ∧
      (((cnt C n from_ < cnt C n to_ ∧ ((C (cnt C n from_)).toList == to_.toList) = false) ∧ ∃ x, e = .returned (.iface 64 (.pointer (some x)))) ∨ (¬ (cnt C n from_ < cnt C n to_ ∧ ((C (cnt C n from_)).toList == to_.toList) = false) ∧ e = .returned .nilIface)) := by
  have hB := between12 tb n cap a C from_ to_ w hn hnc ha h2 hr hm
  have i1 := cnt_le C n from_
  have i2 := cnt_le C n to_
  generalize cnt C n from_ = i at *
  generalize cnt C n to_ = j at *
  clear hm ha
  go_enter Ybaf.func8, Ybaf.ntmps8
  go_wp2_with fail
  refine hB.mono ?_
  rintro e w1 ⟨hb1, ⟨hij, a', c', rfl⟩ | ⟨hij, blk, off, c', rfl, rfl⟩⟩
  · go_wp2_with fail
    go_ret
    exact ⟨hb1, .inr ⟨fun h => hij h.1, rfl⟩⟩
  · have hc := cell_later hb1 (hr.cell i (by omega))
    have t1 : decide (0 < ((j - i : Nat) : Int)) = true := by simp; omega
    have t2 : 0 < j - i := by omega
    cases hq : ((C i).toList == to_.toList) with
    | true =>
      go_wp2_with fail
      go_ret
      exact ⟨hb1, .inr ⟨fun h => absurd (hq.symm.trans h.2) (by decide), rfl⟩⟩
    | false =>
      have hF1 : F.answers (w1.alloc (Obj.cells #[Value.iface 9 (Value.string (C i))] 20)).tape := by
        rw [← hb1.tape] at hF
        exact hF
      have hb2 : RowKit.Below w.heap.size w (w1.alloc (Obj.cells #[Value.iface 9 (Value.string (C i))] 20)) := hb1.alloc hb1.size _
      go_wp2_with fail
      refine (errorf13 F w1.heap.size (C i) _ hF1 (by simp)).mono ?_
      rintro e w3 ⟨⟨x, rfl⟩, hb3⟩
      go_wp2_with fail
      go_ret
      exact ⟨hb2.trans (hb3.mono hb2.size), .inl ⟨⟨hij, hq⟩, x, rfl⟩⟩
end Go.Proofs.YbulkbzwoFmt
