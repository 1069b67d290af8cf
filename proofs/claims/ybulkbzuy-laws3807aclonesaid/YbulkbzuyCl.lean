import Derived.Test.YbulkbzuyCloneW
import Derived.Lib.SliceRun
import Derived.Lib.Walk
namespace Go.Proofs.Ybulkbzuy
open Go.RowKit

/-- What slices.Clone hands back: a slice of the same length; where there is an element, in a block of its own from B on, which opens with the elements. -/
def Fresh (B : Nat) (w : World) (t : TypeId) (a : Option Addr) (n : Nat) (news : List Value) : Prop :=
  n = 0 ∨ ∃ g cur, a = some ⟨g, 0, none⟩ ∧ B ≤ g ∧ w.heap[g]? = some (.cells cur t) ∧ cur.toList.take n = news

theorem fresh_of_own {B : Nat} {w : World} {t : TypeId} {v : Value} {n : Nat} {news : List Value} (h : w.ownsRow B t 1 v n news) : ∃ a cap, v = .slice a n cap ∧ Fresh B w t a n news := by
  obtain ⟨_, ⟨rfl, rfl⟩ | ⟨g, cap, cur, rfl, hg, hh, _, _, _, hc⟩⟩ := h
  · exact ⟨none, 0, rfl, .inl rfl⟩
  · exact ⟨_, cap, rfl, .inr ⟨g, cur, rfl, hg, hh, by simpa using hc⟩⟩

theorem info3 : (Yba.prog.info? 3).map (fun i => (i.zero, i.size, i.bytes)) = some (some (.int .i64 0), 1, 8) := by kernel_rfl

theorem q22 : ∀ (w : World) (a : Option Addr) (n c n' c' : Nat), (binOp .eql 22 (.slice a n c) (.slice none n' c')).run Yba.prog w = .ok (.bool a.isNone) w := fun w a n c n' c' => Lib.run_eql_slice_nil w _ _ a n c n' c' Yba.underlying22

set_option maxHeartbeats 1000000 in
set_option maxRecDepth 100000 in
theorem cl4 (a : Option Addr) (n c : Nat) (news : List Value) (w : World) (hl : news.length = n) (hn : n ≤ 1024) (hnil : a = none → n = 0)
    (hc : ∀ x, a = some x → ∀ (j : Nat) u, news[j]? = some u → w.cell? (x.add j) = some u) (h1 : ∀ u ∈ news, u.oneCell' = true) :
    Calls Yba.prog 4 #[.slice a n c] w fun e w' => ∃ a' cap, e = .returned (.slice a' n cap) ∧ Fresh w.heap.size w' 2 a' n news ∧ Below w.heap.size w w' := by
  have q := q22
  cases a with
  | none =>
    obtain rfl := hnil rfl
    clear hc h1 hnil
    go_enter Yba.func4, Yba.ntmps4
    go_wp2
    go_ret
    exact ⟨none, 0, rfl, .inl rfl, Below.refl _ _⟩
  | some x =>
    have A : Hid (∀ (j : Nat) u, news[j]? = some u → w.cell? (x.add j) = some u) := hc x rfl
    have H1 : Hid (∀ u ∈ news, u.oneCell' = true) := h1
    clear hc h1 hnil
    obtain ⟨i0, hi, hzz⟩ := Option.map_eq_some_iff.1 info2
    simp only [Prod.mk.injEq] at hzz
    obtain ⟨hz0, hz1, hz2⟩ := hzz
    have u22 : ∀ w, Sem.run Yba.prog (underlying 22) w = .ok (TypeDesc.slice 2) w := run_underlying Yba.underlying22
    go_enter Yba.func4, Yba.ntmps4
    go_wp2_with (at_builtin; refine wpList_append_own _ rfl _ _ 22 rfl w.heap.size 2 i0 (.int .i64 0) 1 8 Yba.underlying22 hi hz0 hz1 hz2 rfl (by decide) _ _ _ rfl (World.ownsRow_made w #[] 0 (Nat.le_refl _) (Nat.zero_le _) rfl) x n c news rfl ?qc1 ?qc2 ?qc3 ?qc4 ?qc5 ?qc6 ?_)
    case qc1 => simpa using hl
    case qc2 =>
      intro j u hj
      exact Lib.cell?_alloc_some _ (A.out j u hj)
    case qc3 => exact H1.out
    case qc4 => unfold maxLen; omega
    case qc5 => omega
    case qc6 => simp
    intro v' w1 hown hgrow _
    go_wp2
    go_ret
    obtain ⟨a', cap, rfl, hf⟩ := fresh_of_own hown
    exact ⟨a', cap, rfl, by simpa using hf, ((Below.refl _ w).alloc (Nat.le_refl _) _).grown hgrow (by simp) (by intro k hk; simp [Value.ownBlock] at hk; omega)⟩

theorem q23 : ∀ (w : World) (a : Option Addr) (n c n' c' : Nat), (binOp .eql 23 (.slice a n c) (.slice none n' c')).run Yba.prog w = .ok (.bool a.isNone) w := fun w a n c n' c' => Lib.run_eql_slice_nil w _ _ a n c n' c' Yba.underlying23

set_option maxHeartbeats 1000000 in
set_option maxRecDepth 100000 in
theorem cl5 (a : Option Addr) (n c : Nat) (news : List Value) (w : World) (hl : news.length = n) (hn : n ≤ 1024) (hnil : a = none → n = 0)
    (hc : ∀ x, a = some x → ∀ (j : Nat) u, news[j]? = some u → w.cell? (x.add j) = some u) (h1 : ∀ u ∈ news, u.oneCell' = true) :
    Calls Yba.prog 5 #[.slice a n c] w fun e w' => ∃ a' cap, e = .returned (.slice a' n cap) ∧ Fresh w.heap.size w' 27 a' n news ∧ Below w.heap.size w w' := by
  have q := q23
  cases a with
  | none =>
    obtain rfl := hnil rfl
    clear hc h1 hnil
    go_enter Yba.func5, Yba.ntmps5
    go_wp2
    go_ret
    exact ⟨none, 0, rfl, .inl rfl, Below.refl _ _⟩
  | some x =>
    have A : Hid (∀ (j : Nat) u, news[j]? = some u → w.cell? (x.add j) = some u) := hc x rfl
    have H1 : Hid (∀ u ∈ news, u.oneCell' = true) := h1
    clear hc h1 hnil
    obtain ⟨i0, hi, hzz⟩ := Option.map_eq_some_iff.1 info27
    simp only [Prod.mk.injEq] at hzz
    obtain ⟨hz0, hz1, hz2⟩ := hzz
    have u22 : ∀ w, Sem.run Yba.prog (underlying 23) w = .ok (TypeDesc.slice 27) w := run_underlying Yba.underlying23
    go_enter Yba.func5, Yba.ntmps5
    go_wp2_with (at_builtin; refine wpList_append_own _ rfl _ _ 23 rfl w.heap.size 27 i0 (.float .f64 0) 1 8 Yba.underlying23 hi hz0 hz1 hz2 rfl (by decide) _ _ _ rfl (World.ownsRow_made w #[] 0 (Nat.le_refl _) (Nat.zero_le _) rfl) x n c news rfl ?qc1 ?qc2 ?qc3 ?qc4 ?qc5 ?qc6 ?_)
    case qc1 => simpa using hl
    case qc2 =>
      intro j u hj
      exact Lib.cell?_alloc_some _ (A.out j u hj)
    case qc3 => exact H1.out
    case qc4 => unfold maxLen; omega
    case qc5 => omega
    case qc6 => simp
    intro v' w1 hown hgrow _
    go_wp2
    go_ret
    obtain ⟨a', cap, rfl, hf⟩ := fresh_of_own hown
    exact ⟨a', cap, rfl, by simpa using hf, ((Below.refl _ w).alloc (Nat.le_refl _) _).grown hgrow (by simp) (by intro k hk; simp [Value.ownBlock] at hk; omega)⟩

theorem q24 : ∀ (w : World) (a : Option Addr) (n c n' c' : Nat), (binOp .eql 24 (.slice a n c) (.slice none n' c')).run Yba.prog w = .ok (.bool a.isNone) w := fun w a n c n' c' => Lib.run_eql_slice_nil w _ _ a n c n' c' Yba.underlying24

set_option maxHeartbeats 1000000 in
set_option maxRecDepth 100000 in
theorem cl6 (a : Option Addr) (n c : Nat) (news : List Value) (w : World) (hl : news.length = n) (hn : n ≤ 1024) (hnil : a = none → n = 0)
    (hc : ∀ x, a = some x → ∀ (j : Nat) u, news[j]? = some u → w.cell? (x.add j) = some u) (h1 : ∀ u ∈ news, u.oneCell' = true) :
    Calls Yba.prog 6 #[.slice a n c] w fun e w' => ∃ a' cap, e = .returned (.slice a' n cap) ∧ Fresh w.heap.size w' 3 a' n news ∧ Below w.heap.size w w' := by
  have q := q24
  cases a with
  | none =>
    obtain rfl := hnil rfl
    clear hc h1 hnil
    go_enter Yba.func6, Yba.ntmps6
    go_wp2
    go_ret
    exact ⟨none, 0, rfl, .inl rfl, Below.refl _ _⟩
  | some x =>
    have A : Hid (∀ (j : Nat) u, news[j]? = some u → w.cell? (x.add j) = some u) := hc x rfl
    have H1 : Hid (∀ u ∈ news, u.oneCell' = true) := h1
    clear hc h1 hnil
    obtain ⟨i0, hi, hzz⟩ := Option.map_eq_some_iff.1 info3
    simp only [Prod.mk.injEq] at hzz
    obtain ⟨hz0, hz1, hz2⟩ := hzz
    have u22 : ∀ w, Sem.run Yba.prog (underlying 24) w = .ok (TypeDesc.slice 3) w := run_underlying Yba.underlying24
    go_enter Yba.func6, Yba.ntmps6
    go_wp2_with (at_builtin; refine wpList_append_own _ rfl _ _ 24 rfl w.heap.size 3 i0 (.int .i64 0) 1 8 Yba.underlying24 hi hz0 hz1 hz2 rfl (by decide) _ _ _ rfl (World.ownsRow_made w #[] 0 (Nat.le_refl _) (Nat.zero_le _) rfl) x n c news rfl ?qc1 ?qc2 ?qc3 ?qc4 ?qc5 ?qc6 ?_)
    case qc1 => simpa using hl
    case qc2 =>
      intro j u hj
      exact Lib.cell?_alloc_some _ (A.out j u hj)
    case qc3 => exact H1.out
    case qc4 => unfold maxLen; omega
    case qc5 => omega
    case qc6 => simp
    intro v' w1 hown hgrow _
    go_wp2
    go_ret
    obtain ⟨a', cap, rfl, hf⟩ := fresh_of_own hown
    exact ⟨a', cap, rfl, by simpa using hf, ((Below.refl _ w).alloc (Nat.le_refl _) _).grown hgrow (by simp) (by intro k hk; simp [Value.ownBlock] at hk; omega)⟩

set_option maxHeartbeats 400000 in
theorem constant_any (b k c0 : Nat) (a0 : Option Addr) (w : World) (h : w.cell? ⟨b, 10, none⟩ = some (.slice a0 k c0)) :
    Calls Yba.prog 9 #[.pointer (some ⟨b, 0, none⟩)] w fun e w' => e = .returned (.bool ((k : Int) == 0)) ∧ w' = w := by
  go_enter Yba.func9, Yba.ntmps9
  go_wp2
  go_ret
  exact ⟨rfl, rfl⟩
end Go.Proofs.Ybulkbzuy
