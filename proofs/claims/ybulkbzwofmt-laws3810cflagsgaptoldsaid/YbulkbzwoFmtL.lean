import Derived.Test.YbulkbzwoFmtPl
namespace Go.Proofs.YbulkbzwoFmt
open Go.RowKit Go.Sort Go.Lib
open Go.Extern.Stop Go.Stop Go.Extern
set_option linter.unusedVariables false

def rights : Nat → Code → Code
  | 0, c => c
  | n + 1, .seq _ b => rights n b
  | _, c => c
def lawBody (f : Func) : Code := (f.body).getD .skip

/-- Does a string of the row lie between the two? -/
def Hit (C : Nat → ByteArray) (n : Nat) (f t : ByteArray) : Prop := ∃ k, k < n ∧ Op.bytesLess f.toList (C k).toList = true ∧ Op.bytesLess (C k).toList t.toList = true

set_option maxHeartbeats 4000000 in
set_option maxRecDepth 1000000 in
theorem gloop (a0 : Option Addr) (n0 c0 : Nat) (f t : ByteArray) (a ka : Option Addr) (n cap kc tb : Nat) (C : Nat → ByteArray) (ev : Value) (w w2 : World) (u11 u12 u13 u14 u15 u16 u17 u18 u19 u20 u21 u22 u23 u24 u25 u26 u27 u28 u29 u30 u31 u32 u33 u34 u35 u36 u37 u38 u39 u40 u41 u42 u43 u44 u45 u46 u47 u48 u49 u50 u51 u52 u53 u54 u55 u56 u57 u58 u59 u60 : Value) (hn : n ≤ 1024)
    (h2 : w2.cell? ⟨tb, 0, none⟩ = some (.slice a n cap)) (ha : RowC w2 a n C) (hk : RowC w2 ka n C) (hb : RowKit.Below w.heap.size w w2)
    (he : (Hit C n f t ∧ ∃ x, ev = .iface 64 (.pointer (some x))) ∨ (¬ Hit C n f t ∧ ev = .nilIface)) :
    Code.wp Ybaf.prog (rights 8 (lawBody Ybaf.f3)) (bodyPost Ybaf.prog Ybaf.f3 fun e w' => e = .returned (.bool true) ∧ RowKit.Below w.heap.size w w') ⟨List.toArray (.slice a0 n0 c0 :: .string f :: .string t :: undef :: undef :: undef :: .bool false :: .slice a n cap :: .slice ka n kc :: .pointer (some ⟨tb, 0, none⟩) :: ev :: u11 :: u12 :: u13 :: u14 :: u15 :: u16 :: u17 :: u18 :: u19 :: u20 :: u21 :: u22 :: u23 :: u24 :: u25 :: u26 :: u27 :: u28 :: u29 :: u30 :: u31 :: u32 :: u33 :: u34 :: u35 :: u36 :: u37 :: u38 :: u39 :: u40 :: u41 :: u42 :: u43 :: u44 :: u45 :: u46 :: u47 :: u48 :: u49 :: u50 :: u51 :: u52 :: u53 :: u54 :: u55 :: u56 :: u57 :: u58 :: u59 :: u60 :: []), []⟩ w2 := by
  have hE : Calls Ybaf.prog 9 #[.slice a n cap, .slice ka n kc] w2 fun e w' => e = .returned (.bool true) ∧ RowKit.Below w.heap.size w w' :=
    (equal9 a ka n cap kc C w2 ha hk hn).mono fun e w' ⟨h1, h2⟩ => ⟨h1, hb.trans (h2.mono hb.size)⟩
  conv => arg 2; whnf
  go_wp2_with fail
  go_loopw [11, 12] (fun wt i wr => ∃ k : Nat, k ≤ n ∧ wt = .bool false ∧ i = .int .i64 k ∧ wr = w2 ∧ Hid (∀ j, j < k → ¬ (Op.bytesLess f.toList (C j).toList = true ∧ Op.bytesLess (C j).toList t.toList = true))) (fun _ i _ => n - (intOf i).toNat)
  case atStart => exact ⟨0, Nat.zero_le _, rfl, rfl, rfl, (fun j hj => absurd hj (Nat.not_lt_zero _) : ∀ j, j < 0 → _)⟩
  case round =>
    obtain ⟨k, hkn, rfl, rfl, rfl, hno⟩ := hrel
    by_cases hlt : k < n
    · obtain ⟨b, off, rfl, hcell⟩ := hk.resolve_left (by omega)
      have hck := hcell k hlt
      clear hcell hk
      cases e1 : Op.bytesLess f.toList (C k).toList with
      | false =>
        go_wp2_with fail
        go_roundw
        case rel => exact ⟨k + 1, by omega, rfl, by go_num, by trivial, (fun j hj h => by
          rcases Nat.lt_or_eq_of_le (Nat.lt_succ_iff.1 hj) with h1 | rfl
          · exact hno.out j h1 h
          · rw [e1] at h; cases h.1 : ∀ j, j < k + 1 → _)⟩
        case measure => simp [intOf]; omega
      | true =>
        cases e2 : Op.bytesLess (C k).toList t.toList with
        | false =>
          go_wp2_with fail
          go_roundw
          case rel => exact ⟨k + 1, by omega, rfl, by go_num, by trivial, (fun j hj h => by
            rcases Nat.lt_or_eq_of_le (Nat.lt_succ_iff.1 hj) with h1 | rfl
            · exact hno.out j h1 h
            · rw [e2] at h; cases h.2 : ∀ j, j < k + 1 → _)⟩
          case measure => simp [intOf]; omega
        | true =>
          have hit : Hit C n f t := ⟨k, hlt, e1, e2⟩
          obtain ⟨x, rfl⟩ : ∃ x, ev = .iface 64 (.pointer (some x)) := by
            rcases he with h | h
            · exact h.2
            · exact absurd hit h.1
          clear he
          go_wp2_with fail
          refine hE.mono ?_
          rintro e w3 ⟨rfl, hb3⟩
          go_wp2_with fail
          go_ret
          exact ⟨rfl, hb3⟩
    · have hkn2 : k = n := by omega
      subst hkn2
      have nohit : ¬ Hit C k f t := fun ⟨j, hj, h⟩ => hno.out j hj h
      obtain rfl : ev = .nilIface := by
        rcases he with h | h
        · exact absurd h.1 nohit
        · exact h.2
      clear he hno nohit
      go_wp2_with fail
      refine hE.mono ?_
      rintro e w3 ⟨rfl, hb3⟩
      go_wp2_with fail
      go_ret
      exact ⟨rfl, hb3⟩

set_option maxHeartbeats 4000000 in
set_option maxRecDepth 1000000 in
theorem gtail (F : Interp) (a0 : Option Addr) (n0 c0 : Nat) (f t : ByteArray) (a ka : Option Addr) (n cap kc : Nat) (zs : List (List UInt8)) (w w2 : World) (u9 u10 u11 u12 u13 u14 u15 u16 u17 u18 u19 u20 u21 u22 u23 u24 u25 u26 u27 u28 u29 u30 u31 u32 u33 u34 u35 u36 u37 u38 u39 u40 u41 u42 u43 u44 u45 u46 u47 u48 u49 u50 u51 u52 u53 u54 u55 u56 u57 u58 u59 u60 : Value) (hF : F.answers w.tape) (hn : n ≤ 1024) (hz : Hid (n = zs.length))
    (hnc : n ≤ cap) (hna : a = none → cap = 0) (ha : RowC w2 a n (B zs)) (hk : RowC w2 ka n (B zs)) (hasc : Asc zs) (hb : RowKit.Below w.heap.size w w2) :
    Code.wp Ybaf.prog (rights 6 (lawBody Ybaf.f3)) (bodyPost Ybaf.prog Ybaf.f3 fun e w' => e = .returned (.bool true) ∧ RowKit.Below w.heap.size w w') ⟨List.toArray (.slice a0 n0 c0 :: .string f :: .string t :: undef :: undef :: undef :: .bool false :: .slice a n cap :: .slice ka n kc :: u9 :: u10 :: u11 :: u12 :: u13 :: u14 :: u15 :: u16 :: u17 :: u18 :: u19 :: u20 :: u21 :: u22 :: u23 :: u24 :: u25 :: u26 :: u27 :: u28 :: u29 :: u30 :: u31 :: u32 :: u33 :: u34 :: u35 :: u36 :: u37 :: u38 :: u39 :: u40 :: u41 :: u42 :: u43 :: u44 :: u45 :: u46 :: u47 :: u48 :: u49 :: u50 :: u51 :: u52 :: u53 :: u54 :: u55 :: u56 :: u57 :: u58 :: u59 :: u60 :: []), []⟩ w2 := by
  conv => arg 2; whnf
  have hb1 : RowKit.Below w2.heap.size w2 (w2.alloc (.cells #[.slice a n cap] 27)) := (Below.refl _ _).alloc (Nat.le_refl _) _
  have hF1 : F.answers (w2.alloc (.cells #[.slice a n cap] 27)).tape := by
    have := hb.tape
    show F.answers w2.tape
    rw [this]
    exact hF
  have hC := chk8 F w2.heap.size n cap a (B zs) f t _ hF1 hn hnc hna (cell_new_sl w2 (.slice a n cap) 27) (ha.later hb1) (fun d x y h1 h2 => by obtain rfl := hz.out; exact hasc.mono d x y h1 h2)
  refine wp_seq_k fun K7 hK7 => ?_
  have HK7 : Hid _ := hK7
  clear hK7
  go_wp2_with fail
  refine HK7.out _ _ ?_
  clear HK7 K7
  refine wp_seq_k fun K8 hK8 => ?_
  have HK8 : Hid _ := hK8
  clear hK8
  go_wp2_with fail
  refine hC.mono ?_
  rintro e w3 ⟨hb3, hcase⟩
  have hb13 : RowKit.Below w2.heap.size w2 w3 := hb1.trans (hb3.mono hb1.size)
  have hb23 : RowKit.Below w.heap.size w w3 := hb.trans (hb13.mono hb.size)
  have h3 : w3.cell? ⟨w2.heap.size, 0, none⟩ = some (.slice a n cap) := cell_later hb3 (cell_new_sl w2 (.slice a n cap) 27)
  have ha3 := ha.later hb13
  have hk3 := hk.later hb13
  have hiff : (cnt (B zs) n f < cnt (B zs) n t ∧ ((B zs (cnt (B zs) n f)).toList == t.toList) = false) ↔ Hit (B zs) n f t := by obtain rfl := hz.out; exact hit_iff zs hasc f t
  rw [hiff] at hcase
  clear hiff hC hb1 hF1 ha hk
  rcases hcase with ⟨hh, x, rfl⟩ | ⟨hh, rfl⟩
  · have HH : Hid ((Hit (B zs) n f t ∧ ∃ y, Value.iface 64 (.pointer (some x)) = .iface 64 (.pointer (some y))) ∨ (¬ Hit (B zs) n f t ∧ Value.iface 64 (.pointer (some x)) = .nilIface)) := Or.inl ⟨hh, x, rfl⟩
    clear hh
    go_wp2_with fail
    refine HK8.out _ _ ?_
    exact gloop a0 n0 c0 f t a ka n cap kc w2.heap.size (B zs) _ w w3 _ _ _ _ _ _ _ _ _ _ _ _ _ _ _ _ _ _ _ _ _ _ _ _ _ _ _ _ _ _ _ _ _ _ _ _ _ _ _ _ _ _ _ _ _ _ _ _ _ _ hn h3 ha3 hk3 hb23 HH.out
  · have HH : Hid (¬ Hit (B zs) n f t) := hh
    clear hh
    go_wp2_with fail
    refine HK8.out _ _ ?_
    exact gloop a0 n0 c0 f t a ka n cap kc w2.heap.size (B zs) _ w w3 _ _ _ _ _ _ _ _ _ _ _ _ _ _ _ _ _ _ _ _ _ _ _ _ _ _ _ _ _ _ _ _ _ _ _ _ _ _ _ _ _ _ _ _ _ _ _ _ _ _ hn h3 ha3 hk3 hb23 (.inr ⟨HH.out, rfl⟩)

theorem gap_long (a0 : Option Addr) (n0 c0 : Nat) (f t : ByteArray) (w : World) (hn : 1024 < n0) :
    Calls Ybaf.prog 3 #[.slice a0 n0 c0, .string f, .string t] w fun e w' => e = .returned (.bool true) ∧ RowKit.Below w.heap.size w w' := by
  have t1 : decide (1024 < (n0 : Int)) = true := by simp; omega
  go_enter Ybaf.func3, Ybaf.ntmps3
  go_wp2
  go_ret
  exact ⟨rfl, Below.refl _ _⟩

set_option maxHeartbeats 4000000 in
set_option maxRecDepth 1000000 in
theorem gap_short (F : Interp) (a0 : Option Addr) (n0 c0 : Nat) (f t : ByteArray) (C : Nat → ByteArray) (w : World) (hF : F.answers w.tape) (hn : n0 ≤ 1024) (hr : RowC w a0 n0 C) (h0 : a0 = none → n0 = 0) :
    Calls Ybaf.prog 3 #[.slice a0 n0 c0, .string f, .string t] w fun e w' => e = .returned (.bool true) ∧ RowKit.Below w.heap.size w w' := by
  have t1 : decide (1024 < (n0 : Int)) = false := by simp; omega
  have HF : Hid (F.answers w.tape) := hF
  clear hF
  have hC1 := clone5 a0 n0 c0 C w hr h0 hn
  generalize hzs : ((List.range n0).map fun i => (C i).data.toList) = zs at hC1
  have hlz : zs.length = n0 := by rw [← hzs]; simp
  clear hzs hr h0
  go_enter Ybaf.func3, Ybaf.ntmps3
  refine wp_seq_k fun K0 hK0 => ?_
  have HK0 : Hid _ := hK0
  clear hK0
  go_wp2_with fail
  refine HK0.out _ _ ?_
  clear HK0 K0
  refine wp_seq_k fun K1 hK1 => ?_
  have HK1 : Hid _ := hK1
  clear hK1
  go_wp2_with fail
  refine HK1.out _ _ ?_
  clear HK1 K1
  refine wp_seq_k fun K2 hK2 => ?_
  have HK2 : Hid _ := hK2
  clear hK2
  go_wp2_with fail
  refine hC1.mono ?_
  rintro e w1 ⟨⟨v1, rfl, ho1⟩, hb1⟩
  clear hC1
  go_wp2_with fail
  refine HK2.out _ _ ?_
  clear HK2 K2
  refine wp_seq_k fun K3 hK3 => ?_
  have HK3 : Hid _ := hK3
  clear hK3
  go_wp2_with fail
  refine (sort6 w.heap.size w1 v1 zs ho1 (by omega)).mono ?_
  rintro e w2 ⟨rfl, ho2, hb2⟩
  have hasc := asc_sorted zs
  have hl2 : (zs.mergeSort fun x y => decide (x ≤ y)).length = n0 := by simp [hlz]
  generalize (zs.mergeSort fun x y => decide (x ≤ y)) = z2 at *
  have hb12 := hb1.trans hb2
  clear ho1 hb1 hb2
  go_wp2_with fail
  refine HK3.out _ _ ?_
  clear HK3 K3
  refine wp_seq_k fun K4 hK4 => ?_
  have HK4 : Hid _ := hK4
  clear hK4
  go_wp2_with fail
  refine (compact7 w.heap.size w2 v1 z2 ho2 (by omega)).mono ?_
  rintro e w3 ⟨⟨v3, rfl, ho3⟩, hb3⟩
  have hasc3 := asc_of (asc_compact hasc)
  have hl3 : (compact z2).length ≤ n0 := by have := compact_length_le z2; omega
  generalize compact z2 = z3 at *
  have hb13 := hb12.trans hb3
  clear ho2 hb12 hb3 hasc
  obtain ⟨a, cap, rfl, hnc, hna, hrow⟩ := ho3.row
  go_wp2_with fail
  refine HK4.out _ _ ?_
  clear HK4 K4
  refine wp_seq_k fun K5 hK5 => ?_
  have HK5 : Hid _ := hK5
  clear hK5
  go_wp2_with fail
  refine (clone5 a z3.length cap (B z3) w3 hrow (fun e => by have := hna e; omega) (by omega)).mono ?_
  rintro e w4 ⟨⟨v4, rfl, ho4⟩, hb4⟩
  rw [range_B] at ho4
  have hrow4 := hrow.later hb4
  have hb14 := hb13.trans (hb4.mono hb13.size)
  obtain ⟨ka, kc, rfl, _, _, krow⟩ := ho4.row
  clear ho3 ho4 hrow
  go_wp2_with fail
  refine HK5.out _ _ ?_
  exact gtail F a0 n0 c0 f t a ka z3.length cap kc z3 w w4 _ _ _ _ _ _ _ _ _ _ _ _ _ _ _ _ _ _ _ _ _ _ _ _ _ _ _ _ _ _ _ _ _ _ _ _ _ _ _ _ _ _ _ _ _ _ _ _ _ _ _ _ HF.out (by omega) (rfl : z3.length = z3.length) hnc hna hrow4 krow hasc3 hb14
end Go.Proofs.YbulkbzwoFmt
