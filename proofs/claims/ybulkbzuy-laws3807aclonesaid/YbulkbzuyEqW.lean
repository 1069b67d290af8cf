import Derived.Test.YbulkbzuyCl
import Derived.Deep.QuietTactic
import Derived.BigQuiet
namespace Go.Proofs.Ybulkbzuy
open Go.RowKit

set_option maxHeartbeats 1000000 in
set_option maxRecDepth 100000 in
theorem eqz8 (a x : Option Addr) (c d : Nat) (W : World) :
    Calls Yba.prog 8 #[.slice a 0 c, .slice x 0 d] W fun e w' => e = .returned (.bool true) ∧ ∃ q, w' = W.drewN q := by
  go_enter Yba.func8, Yba.ntmps8
  go_wp2
  go_loop [13] (fun i => i = .int .i64 0) (fun _ => 0)
  case atStart => rfl
  case round =>
    subst hrel
    go_wp2
    go_ret
    exact ⟨rfl, 0, rfl⟩

set_option maxHeartbeats 1000000 in
set_option maxRecDepth 100000 in
theorem eqp8 (b1 o1 b2 o2 n c d : Nat) (zs : List Int) (W : World) (hn : n ≤ 1024)
    (e1 : ∀ j, j < n → W.cell? ⟨b1, o1 + j, none⟩ = some (.int .i64 (zs.getD j 0)))
    (e2 : ∀ j, j < n → W.cell? ⟨b2, o2 + j, none⟩ = some (.int .i64 (zs.getD j 0))) :
    Calls Yba.prog 8 #[.slice (some ⟨b1, o1, none⟩) n c, .slice (some ⟨b2, o2, none⟩) n d] W fun e w' => e = .returned (.bool true) ∧ ∃ q, w' = W.drewN q := by
  have E1 : Hid (∀ j, j < n → W.cell? ⟨b1, o1 + j, none⟩ = some (.int .i64 (zs.getD j 0))) := e1
  have E2 : Hid (∀ j, j < n → W.cell? ⟨b2, o2 + j, none⟩ = some (.int .i64 (zs.getD j 0))) := e2
  clear e1 e2
  go_enter Yba.func8, Yba.ntmps8
  go_wp2
  go_loopw [13] (fun i wr => ∃ j q : Nat, j ≤ n ∧ i = .int .i64 j ∧ wr = W.drewN q) (fun i _ => n - (intOf i).toNat)
  case atStart => exact ⟨0, 0, Nat.zero_le _, rfl, rfl⟩
  case round =>
    obtain ⟨j, q, hj, rfl, rfl⟩ := hrel
    by_cases hlt : j < n
    · have c1 := E1.out j hlt
      have c2 := E2.out j hlt
      have c1' : ∀ q, (W.drewN q).cell? ⟨b1, o1 + j, none⟩ = some (.int .i64 (zs.getD j 0)) := fun _ => c1
      have c2' : ∀ q, (W.drewN q).cell? ⟨b2, o2 + j, none⟩ = some (.int .i64 (zs.getD j 0)) := fun _ => c2
      go_wp2_with fail
      go_big_quiet (fail)
      go_wp2_with fail
      go_roundw
      case rel => exact ⟨j + 1, _, by omega, by go_num, by first | rfl | exact World.drewN_drewN _ _ _⟩
      case measure => simp [intOf]; omega
    · go_wp2_with fail
      go_ret
      exact ⟨rfl, q, rfl⟩

theorem eq8 (a x : Option Addr) (n c d : Nat) (zs : List Int) (W : World) (_hl : zs.length = n) (hn : n ≤ 1024)
    (h1 : n = 0 ∨ ∃ b off, a = some ⟨b, off, none⟩ ∧ ∀ j, j < n → W.cell? ⟨b, off + j, none⟩ = some (.int .i64 (zs.getD j 0)))
    (h2 : n = 0 ∨ ∃ b off, x = some ⟨b, off, none⟩ ∧ ∀ j, j < n → W.cell? ⟨b, off + j, none⟩ = some (.int .i64 (zs.getD j 0))) :
    Calls Yba.prog 8 #[.slice a n c, .slice x n d] W fun e w' => e = .returned (.bool true) ∧ ∃ q, w' = W.drewN q := by
  by_cases h0 : n = 0
  · subst h0
    exact eqz8 a x c d W
  · obtain ⟨b1, o1, rfl, e1⟩ := h1.resolve_left h0
    obtain ⟨b2, o2, rfl, e2⟩ := h2.resolve_left h0
    exact eqp8 b1 o1 b2 o2 n c d zs W hn e1 e2

set_option maxHeartbeats 1000000 in
set_option maxRecDepth 100000 in
theorem eqz10 (a x : Option Addr) (c d : Nat) (W : World) :
    Calls Yba.prog 10 #[.slice a 0 c, .slice x 0 d] W fun e w' => e = .returned (.bool true) ∧ ∃ q, w' = W.drewN q := by
  go_enter Yba.func10, Yba.ntmps10
  go_wp2
  go_loop [13] (fun i => i = .int .i64 0) (fun _ => 0)
  case atStart => rfl
  case round =>
    subst hrel
    go_wp2
    go_ret
    exact ⟨rfl, 0, rfl⟩

set_option maxHeartbeats 1000000 in
set_option maxRecDepth 100000 in
theorem eqp10 (b1 o1 b2 o2 n c d : Nat) (zs : List Int) (W : World) (hn : n ≤ 1024)
    (e1 : ∀ j, j < n → W.cell? ⟨b1, o1 + j, none⟩ = some (.int .i64 (zs.getD j 0)))
    (e2 : ∀ j, j < n → W.cell? ⟨b2, o2 + j, none⟩ = some (.int .i64 (zs.getD j 0))) :
    Calls Yba.prog 10 #[.slice (some ⟨b1, o1, none⟩) n c, .slice (some ⟨b2, o2, none⟩) n d] W fun e w' => e = .returned (.bool true) ∧ ∃ q, w' = W.drewN q := by
  have E1 : Hid (∀ j, j < n → W.cell? ⟨b1, o1 + j, none⟩ = some (.int .i64 (zs.getD j 0))) := e1
  have E2 : Hid (∀ j, j < n → W.cell? ⟨b2, o2 + j, none⟩ = some (.int .i64 (zs.getD j 0))) := e2
  clear e1 e2
  go_enter Yba.func10, Yba.ntmps10
  go_wp2
  go_loopw [13] (fun i wr => ∃ j q : Nat, j ≤ n ∧ i = .int .i64 j ∧ wr = W.drewN q) (fun i _ => n - (intOf i).toNat)
  case atStart => exact ⟨0, 0, Nat.zero_le _, rfl, rfl⟩
  case round =>
    obtain ⟨j, q, hj, rfl, rfl⟩ := hrel
    by_cases hlt : j < n
    · have c1 := E1.out j hlt
      have c2 := E2.out j hlt
      have c1' : ∀ q, (W.drewN q).cell? ⟨b1, o1 + j, none⟩ = some (.int .i64 (zs.getD j 0)) := fun _ => c1
      have c2' : ∀ q, (W.drewN q).cell? ⟨b2, o2 + j, none⟩ = some (.int .i64 (zs.getD j 0)) := fun _ => c2
      go_wp2_with fail
      go_big_quiet (fail)
      go_wp2_with fail
      go_roundw
      case rel => exact ⟨j + 1, _, by omega, by go_num, by first | rfl | exact World.drewN_drewN _ _ _⟩
      case measure => simp [intOf]; omega
    · go_wp2_with fail
      go_ret
      exact ⟨rfl, q, rfl⟩

theorem eq10 (a x : Option Addr) (n c d : Nat) (zs : List Int) (W : World) (_hl : zs.length = n) (hn : n ≤ 1024)
    (h1 : n = 0 ∨ ∃ b off, a = some ⟨b, off, none⟩ ∧ ∀ j, j < n → W.cell? ⟨b, off + j, none⟩ = some (.int .i64 (zs.getD j 0)))
    (h2 : n = 0 ∨ ∃ b off, x = some ⟨b, off, none⟩ ∧ ∀ j, j < n → W.cell? ⟨b, off + j, none⟩ = some (.int .i64 (zs.getD j 0))) :
    Calls Yba.prog 10 #[.slice a n c, .slice x n d] W fun e w' => e = .returned (.bool true) ∧ ∃ q, w' = W.drewN q := by
  by_cases h0 : n = 0
  · subst h0
    exact eqz10 a x c d W
  · obtain ⟨b1, o1, rfl, e1⟩ := h1.resolve_left h0
    obtain ⟨b2, o2, rfl, e2⟩ := h2.resolve_left h0
    exact eqp10 b1 o1 b2 o2 n c d zs W hn e1 e2

end Go.Proofs.Ybulkbzuy
