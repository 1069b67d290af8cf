import Derived.Test.YbulkbzuyDoorUnit
namespace Go.Proofs.YbulkbzuyDoor
open Go.RowKit

theorem Tabs.below {w w' : World} (ht : Tabs w) (hb : Below w.heap.size w w') (h0 : 1 < w.heap.size) : Tabs w' :=
  ⟨fun k hk => by rw [hb.cell (p := ⟨0, k, none⟩) (by simp; omega)]; exact ht.pow k hk,
   fun f h1 h6 => by rw [hb.cell (p := ⟨1, f * 8 + 7, none⟩) (by simp; omega)]; exact ht.per f h1 h6⟩

theorem Tabs.al {w : World} (ht : Tabs w) (o : Obj) : Tabs (w.alloc o) :=
  ⟨fun k hk => cell_al o (ht.pow k hk), fun f h1 h6 => cell_al o (ht.per f h1 h6)⟩

theorem pow_int (n : Int) (w : World) (h0 : 0 ≤ n) (hn : n ≤ 18) :
    Calls Ybad.prog 5 #[.int .i64 n] w fun e w' => e = .returned (.int .u64 (powR n.toNat)) ∧ w' = w := by
  obtain ⟨m, rfl⟩ := Int.eq_ofNat_of_zero_le h0
  exact pow_any m w (by omega)

/-- what unit computes. -/
def unitOf (sc e : Int) : Int := if e ≤ 1 then prodR 1 e.toNat (1 - e.toNat) else prodR (powR (6 - sc).toNat) e.toNat (5 - e.toNat)

theorem unit_int (k p sc l s e : Int) (w : World) (he : 0 ≤ e) (he5 : e < 6) (hs : e ≤ 1 ∨ -12 ≤ sc ∧ sc ≤ 6) (ht : Tabs w) :
    Calls Ybad.prog 6 #[.agg #[.int .i64 k, .int .i64 p, .int .i64 sc, .int .i64 l, .int .i64 s, .int .i64 e]] w fun r w' => r = .returned (.int .u64 (unitOf sc e)) ∧ Below w.heap.size w w' := by
  obtain ⟨m, rfl⟩ := Int.eq_ofNat_of_zero_le he
  unfold unitOf
  by_cases h1 : (m : Int) ≤ 1
  · rw [if_pos h1]
    exact unit_ym k p sc l s m w (by omega) ht
  · rw [if_neg h1]
    exact unit_dt k p sc l s m w (by omega) (by omega) (by omega) (by omega) ht

theorem u64_nn (n : Int) : 0 ≤ IntKind.u64.wrap n := by
  simp [IntKind.wrap, IntKind.signed, IntKind.bits]; omega

theorem fin19 (P : Int → Prop) (h : ∀ k : Fin 19, P (k.val : Int)) (m : Int) (h0 : 0 ≤ m) (h1 : m ≤ 18) : P m := by
  have := h ⟨m.toNat, by omega⟩
  simpa [Int.toNat_of_nonneg h0] using this

theorem day_2 (m : Int) (h0 : 0 ≤ m) (h1 : m ≤ 18) : (unitOf (6 - m) 2 == IntKind.u64.wrap (powR (6 - (6 - m)).toNat * 86400)) = true :=
  fin19 (fun m => (unitOf (6 - m) 2 == IntKind.u64.wrap (powR (6 - (6 - m)).toNat * 86400)) = true) (by decide +kernel) m h0 h1
theorem day_3 (m : Int) (h0 : 0 ≤ m) (h1 : m ≤ 18) : (unitOf (6 - m) 3 == IntKind.u64.wrap (powR (6 - (6 - m)).toNat * 3600)) = true :=
  fin19 (fun m => (unitOf (6 - m) 3 == IntKind.u64.wrap (powR (6 - (6 - m)).toNat * 3600)) = true) (by decide +kernel) m h0 h1
theorem day_4 (m : Int) (h0 : 0 ≤ m) (h1 : m ≤ 18) : (unitOf (6 - m) 4 == IntKind.u64.wrap (powR (6 - (6 - m)).toNat * 60)) = true :=
  fin19 (fun m => (unitOf (6 - m) 4 == IntKind.u64.wrap (powR (6 - (6 - m)).toNat * 60)) = true) (by decide +kernel) m h0 h1
theorem day_5 (m : Int) (h0 : 0 ≤ m) (h1 : m ≤ 18) : (unitOf (6 - m) 5 == powR (6 - (6 - m)).toNat) = true :=
  fin19 (fun m => (unitOf (6 - m) 5 == powR (6 - (6 - m)).toNat) = true) (by decide +kernel) m h0 h1

set_option maxHeartbeats 400000 in
theorem exact_0 (a0 a1 a2 a3 a4 a5 : Int) (w : World) (h4 : 0 ≤ a4) (h4' : a4 ≤ 255) (he : a4 % 6 = 0) (ht : Tabs w) :
    Calls Ybad.prog 3 #[.int .i64 a0, .int .i64 a1, .int .i64 a2, .int .i64 a3, .int .u8 a4, .int .i64 a5] w fun r w' => r = .returned (.bool true) ∧ Below w.heap.size w w' := by
  go_enter Ybad.func3, Ybad.ntmps3
  go_wp2_with fail
  refine (unit_int _ _ _ _ _ _ _ (by omega) (by omega) (by omega) (ht.al _)).mono ?_
  rintro e w' ⟨rfl, hb⟩
  have hq : (unitOf a5 0 == 12) = true := rfl
  go_wp2
  go_ret
  exact ⟨rfl, ((Below.refl _ _).alloc (Nat.le_refl _) _).trans (hb.mono (by simp))⟩

set_option maxHeartbeats 400000 in
theorem exact_1 (a0 a1 a2 a3 a4 a5 : Int) (w : World) (h4 : 0 ≤ a4) (h4' : a4 ≤ 255) (he : a4 % 6 = 1) (ht : Tabs w) :
    Calls Ybad.prog 3 #[.int .i64 a0, .int .i64 a1, .int .i64 a2, .int .i64 a3, .int .u8 a4, .int .i64 a5] w fun r w' => r = .returned (.bool true) ∧ Below w.heap.size w w' := by
  go_enter Ybad.func3, Ybad.ntmps3
  go_wp2_with fail
  refine (unit_int _ _ _ _ _ _ _ (by omega) (by omega) (by omega) (ht.al _)).mono ?_
  rintro e w' ⟨rfl, hb⟩
  have hq : (unitOf a5 1 == 1) = true := rfl
  go_wp2
  go_ret
  exact ⟨rfl, ((Below.refl _ _).alloc (Nat.le_refl _) _).trans (hb.mono (by simp))⟩

set_option maxHeartbeats 400000 in
theorem exact_2 (a0 a1 a2 a3 a4 a5 : Int) (w : World) (h4 : 0 ≤ a4) (h4' : a4 ≤ 255) (he : a4 % 6 = 2) (ht : Tabs w) :
    Calls Ybad.prog 3 #[.int .i64 a0, .int .i64 a1, .int .i64 a2, .int .i64 a3, .int .u8 a4, .int .i64 a5] w fun r w' => r = .returned (.bool true) ∧ Below w.heap.size w w' := by
  have hu : 0 ≤ IntKind.u64.wrap a5 := u64_nn a5
  have hm := day_2 (IntKind.u64.wrap a5 % 19) (by omega) (by omega)
  go_enter Ybad.func3, Ybad.ntmps3
  go_wp2_with fail
  refine (pow_int _ _ (by omega) (by omega)).mono ?_
  rintro e w' ⟨rfl, rfl⟩
  go_wp2_with fail
  refine (unit_int _ _ _ _ _ _ _ (by omega) (by omega) (by omega) (ht.al _)).mono ?_
  rintro e w' ⟨rfl, hb⟩
  go_wp2
  go_ret
  exact ⟨rfl, ((Below.refl _ _).alloc (Nat.le_refl _) _).trans (hb.mono (by simp))⟩

set_option maxHeartbeats 400000 in
theorem exact_3 (a0 a1 a2 a3 a4 a5 : Int) (w : World) (h4 : 0 ≤ a4) (h4' : a4 ≤ 255) (he : a4 % 6 = 3) (ht : Tabs w) :
    Calls Ybad.prog 3 #[.int .i64 a0, .int .i64 a1, .int .i64 a2, .int .i64 a3, .int .u8 a4, .int .i64 a5] w fun r w' => r = .returned (.bool true) ∧ Below w.heap.size w w' := by
  have hu : 0 ≤ IntKind.u64.wrap a5 := u64_nn a5
  have hm := day_3 (IntKind.u64.wrap a5 % 19) (by omega) (by omega)
  go_enter Ybad.func3, Ybad.ntmps3
  go_wp2_with fail
  refine (pow_int _ _ (by omega) (by omega)).mono ?_
  rintro e w' ⟨rfl, rfl⟩
  go_wp2_with fail
  refine (unit_int _ _ _ _ _ _ _ (by omega) (by omega) (by omega) (ht.al _)).mono ?_
  rintro e w' ⟨rfl, hb⟩
  go_wp2
  go_ret
  exact ⟨rfl, ((Below.refl _ _).alloc (Nat.le_refl _) _).trans (hb.mono (by simp))⟩

set_option maxHeartbeats 400000 in
theorem exact_4 (a0 a1 a2 a3 a4 a5 : Int) (w : World) (h4 : 0 ≤ a4) (h4' : a4 ≤ 255) (he : a4 % 6 = 4) (ht : Tabs w) :
    Calls Ybad.prog 3 #[.int .i64 a0, .int .i64 a1, .int .i64 a2, .int .i64 a3, .int .u8 a4, .int .i64 a5] w fun r w' => r = .returned (.bool true) ∧ Below w.heap.size w w' := by
  have hu : 0 ≤ IntKind.u64.wrap a5 := u64_nn a5
  have hm := day_4 (IntKind.u64.wrap a5 % 19) (by omega) (by omega)
  go_enter Ybad.func3, Ybad.ntmps3
  go_wp2_with fail
  refine (pow_int _ _ (by omega) (by omega)).mono ?_
  rintro e w' ⟨rfl, rfl⟩
  go_wp2_with fail
  refine (unit_int _ _ _ _ _ _ _ (by omega) (by omega) (by omega) (ht.al _)).mono ?_
  rintro e w' ⟨rfl, hb⟩
  go_wp2
  go_ret
  exact ⟨rfl, ((Below.refl _ _).alloc (Nat.le_refl _) _).trans (hb.mono (by simp))⟩

set_option maxHeartbeats 400000 in
theorem exact_5 (a0 a1 a2 a3 a4 a5 : Int) (w : World) (h4 : 0 ≤ a4) (h4' : a4 ≤ 255) (he : a4 % 6 = 5) (ht : Tabs w) :
    Calls Ybad.prog 3 #[.int .i64 a0, .int .i64 a1, .int .i64 a2, .int .i64 a3, .int .u8 a4, .int .i64 a5] w fun r w' => r = .returned (.bool true) ∧ Below w.heap.size w w' := by
  have hu : 0 ≤ IntKind.u64.wrap a5 := u64_nn a5
  have hm := day_5 (IntKind.u64.wrap a5 % 19) (by omega) (by omega)
  go_enter Ybad.func3, Ybad.ntmps3
  go_wp2_with fail
  refine (pow_int _ _ (by omega) (by omega)).mono ?_
  rintro e w' ⟨rfl, rfl⟩
  go_wp2_with fail
  refine (unit_int _ _ _ _ _ _ _ (by omega) (by omega) (by omega) (ht.al _)).mono ?_
  rintro e w' ⟨rfl, hb⟩
  go_wp2
  go_ret
  exact ⟨rfl, ((Below.refl _ _).alloc (Nat.le_refl _) _).trans (hb.mono (by simp))⟩

end Go.Proofs.YbulkbzuyDoor
