import Derived.Test.YbulkbzuyDoorRows
import Derived.WalkKit
import Derived.WalkSpells
import Derived.WalkLawsBesides
import Derived.Lib.SliceRun
namespace Go.Proofs.YbulkbzuyDoor
open Go.RowKit

/-- 10 to the n, as uint64 reckons it round by round. -/
def powR : Nat → Int
  | 0 => 1
  | n + 1 => IntKind.u64.wrap (powR n * 10)

/-- what fieldFacts says of how many of a field make one of the field before it. -/
def perF : Nat → Int
  | 1 => 12
  | 3 => 24
  | 4 => 60
  | 5 => 60
  | _ => 0

/-- the product behind j rounds, from u at the field e + 1. -/
def prodR (u : Int) (e : Nat) : Nat → Int
  | 0 => u
  | j + 1 => IntKind.u64.wrap (prodR u e j * IntKind.u64.wrap (perF (e + 1 + j)))

set_option maxHeartbeats 400000 in
theorem pow_any (n : Nat) (w : World) (hn : n ≤ 18) :
    Calls Ybad.prog 5 #[.int .i64 (n : Int)] w fun e w' => e = .returned (.int .u64 (powR n)) ∧ w' = w := by
  go_enter Ybad.func5, Ybad.ntmps5
  go_wp2
  go_loop [3, 4] (fun p i => ∃ k : Nat, k ≤ n ∧ i = .int .i64 k ∧ p = .int .u64 (powR k)) (fun _ i => n - (intOf i).toNat)
  case atStart => exact ⟨0, Nat.zero_le _, rfl, rfl⟩
  case round =>
    obtain ⟨k, hk, rfl, rfl⟩ := hrel
    by_cases hlt : k < n
    · go_wp2
      go_round
      case rel => exact ⟨k + 1, by omega, by go_num, rfl⟩
      case measure => simp [intOf]; omega
    · have : k = n := by omega
      subst this
      go_wp2
      go_ret
      exact ⟨rfl, rfl⟩

/-- what is asked of memory: the two tables. -/
structure Tabs (w : World) : Prop where
  pow : ∀ k : Nat, k < 19 → w.cell? ⟨0, k, none⟩ = some (.int .u64 (powR k))
  per : ∀ f : Nat, 1 ≤ f → f < 6 → w.cell? ⟨1, f * 8 + 7, none⟩ = some (.int .i64 (perF f))


theorem cell_al {W : World} {a : Addr} {v : Value} (o : Obj) (h : W.cell? a = some v) : (W.alloc o).cell? a = some v := Lib.cell?_alloc_some o h

set_option maxHeartbeats 400000 in
theorem unit_ym (k p sc l s : Int) (e : Nat) (w : World) (he : e < 2) (ht : Tabs w) :
    Calls Ybad.prog 6 #[.agg #[.int .i64 k, .int .i64 p, .int .i64 sc, .int .i64 l, .int .i64 s, .int .i64 e]] w fun r w' => r = .returned (.int .u64 (prodR 1 e (1 - e))) ∧ Below w.heap.size w w' := by
  have hd : decide ((e : Int) ≤ 1) = true := by simp; omega
  go_enter Ybad.func6, Ybad.ntmps6
  go_wp2
  go_loop [3, 5] (fun u f => ∃ j : Nat, e + j ≤ 1 ∧ f = .int .i64 ((e + 1 + j : Nat) : Int) ∧ u = .int .u64 (prodR 1 e j)) (fun _ f => 3 - (intOf f).toNat)
  case atStart => exact ⟨0, by omega, by go_num, rfl⟩
  case round =>
    obtain ⟨j, hj, rfl, rfl⟩ := hrel
    by_cases hlt : e + 1 + j ≤ 1
    · have hc := ht.per (e + 1 + j) (by omega) (by omega)
      have hc2 := fun o1 o2 => cell_al o2 (cell_al o1 hc)
      clear hc
      go_wp2
      go_round
      case rel => exact ⟨j + 1, by omega, by go_num, rfl⟩
      case measure => simp [intOf]; omega
    · go_wp2
      go_ret
      obtain rfl : j = 1 - e := by omega
      exact ⟨rfl, ((Below.refl _ _).alloc (Nat.le_refl _) _).alloc (by simp) _⟩

set_option maxHeartbeats 400000 in
theorem unit_dt (k p sc l s : Int) (e : Nat) (w : World) (he : 2 ≤ e) (he5 : e < 6) (hs : -12 ≤ sc) (hs6 : sc ≤ 6) (ht : Tabs w) :
    Calls Ybad.prog 6 #[.agg #[.int .i64 k, .int .i64 p, .int .i64 sc, .int .i64 l, .int .i64 s, .int .i64 e]] w fun r w' => r = .returned (.int .u64 (prodR (powR (6 - sc).toNat) e (5 - e))) ∧ Below w.heap.size w w' := by
  have hd : decide ((e : Int) ≤ 1) = false := by simp; omega
  have hp := ht.pow (6 - sc).toNat (by omega)
  have hp2 := fun o1 o2 => cell_al o2 (cell_al o1 hp)
  clear hp
  go_enter Ybad.func6, Ybad.ntmps6
  go_wp2
  go_loop [3, 5] (fun u f => ∃ j : Nat, e + j ≤ 5 ∧ f = .int .i64 ((e + 1 + j : Nat) : Int) ∧ u = .int .u64 (prodR (powR (6 - sc).toNat) e j)) (fun _ f => 7 - (intOf f).toNat)
  case atStart => exact ⟨0, by omega, by go_num, rfl⟩
  case round =>
    obtain ⟨j, hj, rfl, rfl⟩ := hrel
    by_cases hlt : e + 1 + j ≤ 5
    · have hc := ht.per (e + 1 + j) (by omega) (by omega)
      have hc2 := fun o1 o2 => cell_al o2 (cell_al o1 hc)
      clear hc
      go_wp2
      go_round
      case rel => exact ⟨j + 1, by omega, by go_num, rfl⟩
      case measure => simp [intOf]; omega
    · go_wp2
      go_ret
      obtain rfl : j = 5 - e := by omega
      exact ⟨rfl, ((Below.refl _ _).alloc (Nat.le_refl _) _).alloc (by simp) _⟩
end Go.Proofs.YbulkbzuyDoor
