import Derived.Test.YbulkbzuyDoorExactW
import Derived.Deep.RegionWith
namespace Go.Proofs.YbulkbzuyDoor
open Go.RowKit

theorem bcell {W w1 : World} (hb : Below W.heap.size W w1) : (∀ b o, b < W.heap.size → w1.cell? ⟨b, o, none⟩ = W.cell? ⟨b, o, none⟩) ∧ (∀ b o, b < W.heap.size → w1.frozen? ⟨b, o, none⟩ = W.frozen? ⟨b, o, none⟩) :=
  ⟨fun b o h => hb.cell (p := ⟨b, o, none⟩) h, fun b o h => hb.frozen (p := ⟨b, o, none⟩) h⟩

theorem Tabs.dr {w : World} (ht : Tabs w) : Tabs w.drew := ⟨fun k hk => ht.pow k hk, fun f h1 h6 => ht.per f h1 h6⟩

theorem div_fin : ∀ (x y : Fin 6) (s : Fin 7), x.val ≤ y.val → (x.val ≤ 1 ↔ y.val ≤ 1) →
    1 ≤ unitOf (s.val : Int) (y.val : Int) ∧ unitOf (s.val : Int) (y.val : Int) ≤ unitOf (s.val : Int) (x.val : Int) ∧ unitOf (s.val : Int) (x.val : Int) % unitOf (s.val : Int) (y.val : Int) = 0 := by
  decide +kernel

theorem div_plain (x y s : Int) (hx : 0 ≤ x) (hxy : x ≤ y) (hy : y < 6) (hs : 0 ≤ s) (hs' : s < 7) (hc : x ≤ 1 ↔ y ≤ 1) :
    1 ≤ unitOf s y ∧ unitOf s y ≤ unitOf s x ∧ unitOf s x % unitOf s y = 0 := by
  have := div_fin ⟨x.toNat, by omega⟩ ⟨y.toNat, by omega⟩ ⟨s.toNat, by omega⟩ (by simp; omega) (by simp; omega)
  simpa only [Int.toNat_of_nonneg hx, Int.toNat_of_nonneg hs, Int.toNat_of_nonneg (show 0 ≤ y by omega)] using this

theorem div_end {w W w1 w2 : World} (h0 : Below w.heap.size w W) (b1 : Below W.heap.size W w1) (b2 : Below w1.heap.size w1 w2) : Below w.heap.size w w2 :=
  (h0.trans (b1.mono h0.size)).trans (b2.mono (Nat.le_trans h0.size b1.size))

set_option maxHeartbeats 400000 in
theorem div_A_ym (a b c : Int) (w : World) (ha : 0 ≤ a) (ha' : a ≤ 255) (hb : 0 ≤ b) (hb' : b ≤ 255) (hc : 0 ≤ c) (hc' : c ≤ 255) (h : a % 6 ≤ b % 6) (h2 : b % 6 ≤ 1) (ht : Tabs w) :
    Calls Ybad.prog 4 #[.int .u8 a, .int .u8 b, .int .u8 c] w fun r w' => r = .returned (.bool true) ∧ Below w.heap.size w w' := by
  have e1 : decide (a % 6 ≤ 1) = true := by simp; omega
  have e2 : decide (b % 6 ≤ 1) = true := by simp; omega
  obtain ⟨p1, p2, p3⟩ := div_plain (a % 6) (b % 6) (c % 7) (by omega) (by omega) (by omega) (by omega) (by omega) (by omega)
  have p4 : (unitOf (c % 7) (b % 6) == 0) = false := by simp; omega
  have p5 : decide (unitOf (c % 7) (a % 6) < unitOf (c % 7) (b % 6)) = false := by simp; omega
  have p6 : (unitOf (c % 7) (a % 6) % unitOf (c % 7) (b % 6) == 0) = true := by simp [p3]
  clear p3
  go_enter Ybad.func4, Ybad.ntmps4
  go_wp2
  go_region_with (first
    | (go_at_call 6; refine (unit_int _ _ _ _ _ _ _ (by omega) (by omega) (by omega) ((ht.al _).al _).dr).mono ?_; rintro e w1 ⟨rfl, b1⟩; have t1 := (((ht.al _).al _).dr).below b1 (by simp); obtain ⟨c1, f1⟩ := bcell b1)
    | (go_at_call 6; refine (unit_int _ _ _ _ _ _ _ (by omega) (by omega) (by omega) t1).mono ?_; rintro e w2 ⟨rfl, b2⟩))
  all_goals
    go_wp2
    go_ret
    exact ⟨rfl, div_end ((((Below.refl _ _).alloc (Nat.le_refl _) _).alloc (by simp) _).drew) b1 b2⟩

set_option maxHeartbeats 400000 in
theorem div_A_dt (a b c : Int) (w : World) (ha : 0 ≤ a) (ha' : a ≤ 255) (hb : 0 ≤ b) (hb' : b ≤ 255) (hc : 0 ≤ c) (hc' : c ≤ 255) (h : a % 6 ≤ b % 6) (h1 : 1 < a % 6) (ht : Tabs w) :
    Calls Ybad.prog 4 #[.int .u8 a, .int .u8 b, .int .u8 c] w fun r w' => r = .returned (.bool true) ∧ Below w.heap.size w w' := by
  have e1 : decide (a % 6 ≤ 1) = false := by simp; omega
  have e2 : decide (b % 6 ≤ 1) = false := by simp; omega
  obtain ⟨p1, p2, p3⟩ := div_plain (a % 6) (b % 6) (c % 7) (by omega) (by omega) (by omega) (by omega) (by omega) (by omega)
  have p4 : (unitOf (c % 7) (b % 6) == 0) = false := by simp; omega
  have p5 : decide (unitOf (c % 7) (a % 6) < unitOf (c % 7) (b % 6)) = false := by simp; omega
  have p6 : (unitOf (c % 7) (a % 6) % unitOf (c % 7) (b % 6) == 0) = true := by simp [p3]
  clear p3
  go_enter Ybad.func4, Ybad.ntmps4
  go_wp2
  go_region_with (first
    | (go_at_call 6; refine (unit_int _ _ _ _ _ _ _ (by omega) (by omega) (by omega) ((ht.al _).al _).dr).mono ?_; rintro e w1 ⟨rfl, b1⟩; have t1 := (((ht.al _).al _).dr).below b1 (by simp); obtain ⟨c1, f1⟩ := bcell b1)
    | (go_at_call 6; refine (unit_int _ _ _ _ _ _ _ (by omega) (by omega) (by omega) t1).mono ?_; rintro e w2 ⟨rfl, b2⟩))
  all_goals
    go_wp2
    go_ret
    exact ⟨rfl, div_end ((((Below.refl _ _).alloc (Nat.le_refl _) _).alloc (by simp) _).drew) b1 b2⟩

set_option maxHeartbeats 400000 in
theorem div_A_mix (a b c : Int) (w : World) (ha : 0 ≤ a) (ha' : a ≤ 255) (hb : 0 ≤ b) (hb' : b ≤ 255) (hc : 0 ≤ c) (hc' : c ≤ 255) (h : a % 6 ≤ b % 6) (h1 : a % 6 ≤ 1) (h2 : 1 < b % 6)  :
    Calls Ybad.prog 4 #[.int .u8 a, .int .u8 b, .int .u8 c] w fun r w' => r = .returned (.bool true) ∧ Below w.heap.size w w' := by
  have e1 : decide (a % 6 ≤ 1) = true := by simp; omega
  have e2 : decide (b % 6 ≤ 1) = false := by simp; omega
  go_enter Ybad.func4, Ybad.ntmps4
  go_wp2
  go_ret
  exact ⟨rfl, Below.refl _ _⟩

set_option maxHeartbeats 400000 in
theorem div_B_ym (a b c : Int) (w : World) (ha : 0 ≤ a) (ha' : a ≤ 255) (hb : 0 ≤ b) (hb' : b ≤ 255) (hc : 0 ≤ c) (hc' : c ≤ 255) (h : b % 6 < a % 6) (h2 : a % 6 ≤ 1) (ht : Tabs w) :
    Calls Ybad.prog 4 #[.int .u8 a, .int .u8 b, .int .u8 c] w fun r w' => r = .returned (.bool true) ∧ Below w.heap.size w w' := by
  have e1 : decide (b % 6 ≤ 1) = true := by simp; omega
  have e2 : decide (a % 6 ≤ 1) = true := by simp; omega
  obtain ⟨p1, p2, p3⟩ := div_plain (b % 6) (a % 6) (c % 7) (by omega) (by omega) (by omega) (by omega) (by omega) (by omega)
  have p4 : (unitOf (c % 7) (a % 6) == 0) = false := by simp; omega
  have p5 : decide (unitOf (c % 7) (b % 6) < unitOf (c % 7) (a % 6)) = false := by simp; omega
  have p6 : (unitOf (c % 7) (b % 6) % unitOf (c % 7) (a % 6) == 0) = true := by simp [p3]
  clear p3
  go_enter Ybad.func4, Ybad.ntmps4
  go_wp2
  go_region_with (first
    | (go_at_call 6; refine (unit_int _ _ _ _ _ _ _ (by omega) (by omega) (by omega) ((ht.al _).al _).dr).mono ?_; rintro e w1 ⟨rfl, b1⟩; have t1 := (((ht.al _).al _).dr).below b1 (by simp); obtain ⟨c1, f1⟩ := bcell b1)
    | (go_at_call 6; refine (unit_int _ _ _ _ _ _ _ (by omega) (by omega) (by omega) t1).mono ?_; rintro e w2 ⟨rfl, b2⟩))
  all_goals
    go_wp2
    go_ret
    exact ⟨rfl, div_end ((((Below.refl _ _).alloc (Nat.le_refl _) _).alloc (by simp) _).drew) b1 b2⟩

set_option maxHeartbeats 400000 in
theorem div_B_dt (a b c : Int) (w : World) (ha : 0 ≤ a) (ha' : a ≤ 255) (hb : 0 ≤ b) (hb' : b ≤ 255) (hc : 0 ≤ c) (hc' : c ≤ 255) (h : b % 6 < a % 6) (h1 : 1 < b % 6) (ht : Tabs w) :
    Calls Ybad.prog 4 #[.int .u8 a, .int .u8 b, .int .u8 c] w fun r w' => r = .returned (.bool true) ∧ Below w.heap.size w w' := by
  have e1 : decide (b % 6 ≤ 1) = false := by simp; omega
  have e2 : decide (a % 6 ≤ 1) = false := by simp; omega
  obtain ⟨p1, p2, p3⟩ := div_plain (b % 6) (a % 6) (c % 7) (by omega) (by omega) (by omega) (by omega) (by omega) (by omega)
  have p4 : (unitOf (c % 7) (a % 6) == 0) = false := by simp; omega
  have p5 : decide (unitOf (c % 7) (b % 6) < unitOf (c % 7) (a % 6)) = false := by simp; omega
  have p6 : (unitOf (c % 7) (b % 6) % unitOf (c % 7) (a % 6) == 0) = true := by simp [p3]
  clear p3
  go_enter Ybad.func4, Ybad.ntmps4
  go_wp2
  go_region_with (first
    | (go_at_call 6; refine (unit_int _ _ _ _ _ _ _ (by omega) (by omega) (by omega) ((ht.al _).al _).dr).mono ?_; rintro e w1 ⟨rfl, b1⟩; have t1 := (((ht.al _).al _).dr).below b1 (by simp); obtain ⟨c1, f1⟩ := bcell b1)
    | (go_at_call 6; refine (unit_int _ _ _ _ _ _ _ (by omega) (by omega) (by omega) t1).mono ?_; rintro e w2 ⟨rfl, b2⟩))
  all_goals
    go_wp2
    go_ret
    exact ⟨rfl, div_end ((((Below.refl _ _).alloc (Nat.le_refl _) _).alloc (by simp) _).drew) b1 b2⟩

set_option maxHeartbeats 400000 in
theorem div_B_mix (a b c : Int) (w : World) (ha : 0 ≤ a) (ha' : a ≤ 255) (hb : 0 ≤ b) (hb' : b ≤ 255) (hc : 0 ≤ c) (hc' : c ≤ 255) (h : b % 6 < a % 6) (h1 : b % 6 ≤ 1) (h2 : 1 < a % 6)  :
    Calls Ybad.prog 4 #[.int .u8 a, .int .u8 b, .int .u8 c] w fun r w' => r = .returned (.bool true) ∧ Below w.heap.size w w' := by
  have e1 : decide (b % 6 ≤ 1) = true := by simp; omega
  have e2 : decide (a % 6 ≤ 1) = false := by simp; omega
  go_enter Ybad.func4, Ybad.ntmps4
  go_wp2
  go_ret
  exact ⟨rfl, Below.refl _ _⟩

end Go.Proofs.YbulkbzuyDoor
