import Derived.Test.YbulkbzxqWakes2
import Derived.Test.YbulkbzxqCountsF
namespace Go.Proofs.Ybulkbzxq
open Go.RowKit Go.Conc Go.MuLone
set_option linter.unusedVariables false

set_option maxHeartbeats 4000000 in
set_option maxRecDepth 1000000 in
theorem wtail (a0 : Option Addr) (n c0 tb tc i m : Nat) (p : Bool) (l : Value) (w wr : World) (u2 u7 u8 u9 u10 u11 u12 u13 u14 u15 u16 u17 u18 u19 u20 u21 u22 u23 u24 u25 u26 u27 u28 u29 u30 u31 u32 u33 u34 u35 u36 u37 u38 u39 u40 u41 u42 u43 u44 u45 u46 u47 u48 u49 u50 u51 u52 u53 u54 u55 u56 u57 u58 u59 u60 u61 u62 u63 u64 u65 u66 u67 u68 u69 u70 u71 u72 u73 u74 u75 u76 u77 u78 u79 u80 : Value) (hT : Tly wr tb tc 44 (m : Int) l p)
    (hb : w.heap.size ≤ tb) (hbel : Below w.heap.size w wr) :
    Code.wp Yba.prog (sndS (rights 5 (lawBody Yba.f4))) (bodyPost Yba.prog Yba.f4 fun e w' => e = .returned (.bool true) ∧ Below w.heap.size w w') ⟨List.toArray (.slice a0 n c0 :: undef :: u2 :: .pointer (some ⟨tb, 0, none⟩) :: .bool p :: .int .u64 (m : Int) :: .int .i64 (i : Int) :: u7 :: u8 :: u9 :: u10 :: u11 :: u12 :: u13 :: u14 :: u15 :: u16 :: u17 :: u18 :: u19 :: u20 :: u21 :: u22 :: u23 :: u24 :: u25 :: u26 :: u27 :: u28 :: u29 :: u30 :: u31 :: u32 :: u33 :: u34 :: u35 :: u36 :: u37 :: u38 :: u39 :: u40 :: u41 :: u42 :: u43 :: u44 :: u45 :: u46 :: u47 :: u48 :: u49 :: u50 :: u51 :: u52 :: u53 :: u54 :: u55 :: u56 :: u57 :: u58 :: u59 :: u60 :: u61 :: u62 :: u63 :: u64 :: u65 :: u66 :: u67 :: u68 :: u69 :: u70 :: u71 :: u72 :: u73 :: u74 :: u75 :: u76 :: u77 :: u78 :: u79 :: u80 :: []), []⟩ wr := by
  conv => arg 2; whnf
  have HT : Hid (Tly wr tb tc 44 (m : Int) l p) := hT
  obtain ⟨g0, g2, g3, g4, gf⟩ := hT.cell
  have hlen := len_wake hT
  clear hT g0 g2 g3 gf
  cases p with
  | false =>
    simp only [Bool.false_eq_true, if_false] at hlen
    go_wp2_with fail
    refine (cnt9_all w.heap.size tb tc _ _ _ _ HT.out hb).mono ?_
    rintro e w4 ⟨rfl, hT4, hb4, hs4, ho4⟩
    go_wp2_with fail
    go_ret
    exact ⟨rfl, hbel.trans hb4⟩
  | true =>
    simp only [if_true] at hlen
    go_wp2_with fail
    refine (cnt9_all w.heap.size tb tc _ _ _ _ HT.out hb).mono ?_
    rintro e w4 ⟨rfl, hT4, hb4, hs4, ho4⟩
    go_wp2_with fail
    go_ret
    exact ⟨rfl, hbel.trans hb4⟩

theorem tly7 (w : World) : Tly ((w.alloc (.chan 1 #[] false 0 0 false)).alloc (.cells #[.int .i32 0, .int .u32 0, .int .u64 0, .string ByteArray.empty, .chan (some w.heap.size)] 44)) (w.heap.size + 1) w.heap.size 44 ((0 : Nat) : Int) (.string ByteArray.empty) false :=
  ⟨blk_new _ _ _, 0, 0, chan_new _ _ _⟩

theorem new7 (w : World) : Calls Yba.prog 7 #[] w fun e w' => e = .returned (.pointer (some ⟨w.heap.size + 1, 0, none⟩)) ∧ w' = (w.alloc (.chan 1 #[] false 0 0 false)).alloc (.cells #[.int .i32 0, .int .u32 0, .int .u64 0, .string ByteArray.empty, .chan (some w.heap.size)] 44) := by
  have hmk := mk1
  go_enter Yba.func7, Yba.ntmps7
  go_wp2_with fail
  go_ret
  exact ⟨rfl, rfl⟩

theorem wakes_long (a0 : Option Addr) (n c0 : Nat) (w : World) (hn : 1024 < n) :
    Calls Yba.prog 4 #[.slice a0 n c0] w fun e w' => e = .returned (.bool true) ∧ Below w.heap.size w w' := by
  have t1 : decide (1024 < (n : Int)) = true := by simp; omega
  go_enter Yba.func4, Yba.ntmps4
  go_wp2
  go_ret
  exact ⟨rfl, Below.refl _ _⟩

set_option maxHeartbeats 4000000 in
set_option maxRecDepth 1000000 in
theorem wakes_short (a0 : Option Addr) (n c0 : Nat) (V : Nat → ByteArray) (D : Nat → Bool) (w : World) (hn : n ≤ 1024) (hr : StepsOf w a0 n V D) :
    Calls Yba.prog 4 #[.slice a0 n c0] w fun e w' => e = .returned (.bool true) ∧ Below w.heap.size w w' := by
  have HR : Hid (StepsOf w a0 n V D) := hr
  clear hr
  have t1 : decide (1024 < (n : Int)) = false := by simp; omega
  refine calls_of_wpN Yba.func4 rfl ?_
  simp only [Yba.ntmps4, List.size_toArray, List.length_cons, List.length_nil, Nat.reduceAdd, Nat.reduceSub, Array.replicate_succ,
     Array.replicate_zero, List.push_toArray, List.append_toArray, List.nil_append, List.cons_append]
  refine wpN_seq_k fun K hK => ?_
  refine wpN_of_wp ?_
  go_wp2_with fail
  refine wpN_seq_k fun K hK => ?_
  refine wpN_of_wp ?_
  go_wp2_with fail
  refine wpN_seq_k fun K hK => ?_
  refine wpN_of_wp ?_
  go_wp2_with fail
  refine (new7 w).mono ?_
  rintro e w2 ⟨rfl, hw2⟩
  have HT2 : Hid (Tly w2 (w.heap.size + 1) w.heap.size 44 ((0 : Nat) : Int) (.string ByteArray.empty) false) := by rw [hw2]; exact tly7 w
  have HB2 : Hid (Below w.heap.size w w2) := by rw [hw2]; exact bel_new w _
  clear hw2
  go_wp2_with fail
  refine wpN_seq_k fun K hK => ?_
  refine wpN_of_wp ?_
  go_wp2_with fail
  refine wpN_seq_k fun K hK => ?_
  refine wpN_of_wp ?_
  go_wp2_with fail
  refine wpN_seq_k fun K5 hK5 => ?_
  refine wpN_seq_k fun K6 hK6 => ?_
  have HK5 : Hid _ := hK5
  clear hK5
  refine wpN_of_wp ?_
  go_wp2_with fail
  refine wpN_block ?_
  refine wpN_loop (WI a0 n c0 (w.heap.size + 1) w.heap.size w) (Wmu n) ?_ ?_
  · exact ⟨0, 0, false, .string ByteArray.empty, _, _, _, _, _, _, _, _, _, _, _, _, _, _, _, _, _, _, _, _, _, _, _, _, _, _, _, _, _, _, _, _, _, _, _, _, _, _, _, _, _, _, _, _, _, _, _, _, _, _, _, _, _, _, _, _, _, _, _, _, _, _, _, _, _, _, _, _, _, _, _, _, _, _, _, by omega, by omega, HT2.out, HB2.out, rfl⟩
  · intro a wr hI
    obtain ⟨i, hI⟩ := hI
    obtain ⟨m, hI⟩ := hI
    obtain ⟨p, hI⟩ := hI
    obtain ⟨l, hI⟩ := hI
    obtain ⟨u2, hI⟩ := hI
    obtain ⟨u7, hI⟩ := hI
    obtain ⟨u8, hI⟩ := hI
    obtain ⟨u9, hI⟩ := hI
    obtain ⟨u10, hI⟩ := hI
    obtain ⟨u11, hI⟩ := hI
    obtain ⟨u12, hI⟩ := hI
    obtain ⟨u13, hI⟩ := hI
    obtain ⟨u14, hI⟩ := hI
    obtain ⟨u15, hI⟩ := hI
    obtain ⟨u16, hI⟩ := hI
    obtain ⟨u17, hI⟩ := hI
    obtain ⟨u18, hI⟩ := hI
    obtain ⟨u19, hI⟩ := hI
    obtain ⟨u20, hI⟩ := hI
    obtain ⟨u21, hI⟩ := hI
    obtain ⟨u22, hI⟩ := hI
    obtain ⟨u23, hI⟩ := hI
    obtain ⟨u24, hI⟩ := hI
    obtain ⟨u25, hI⟩ := hI
    obtain ⟨u26, hI⟩ := hI
    obtain ⟨u27, hI⟩ := hI
    obtain ⟨u28, hI⟩ := hI
    obtain ⟨u29, hI⟩ := hI
    obtain ⟨u30, hI⟩ := hI
    obtain ⟨u31, hI⟩ := hI
    obtain ⟨u32, hI⟩ := hI
    obtain ⟨u33, hI⟩ := hI
    obtain ⟨u34, hI⟩ := hI
    obtain ⟨u35, hI⟩ := hI
    obtain ⟨u36, hI⟩ := hI
    obtain ⟨u37, hI⟩ := hI
    obtain ⟨u38, hI⟩ := hI
    obtain ⟨u39, hI⟩ := hI
    obtain ⟨u40, hI⟩ := hI
    obtain ⟨u41, hI⟩ := hI
    obtain ⟨u42, hI⟩ := hI
    obtain ⟨u43, hI⟩ := hI
    obtain ⟨u44, hI⟩ := hI
    obtain ⟨u45, hI⟩ := hI
    obtain ⟨u46, hI⟩ := hI
    obtain ⟨u47, hI⟩ := hI
    obtain ⟨u48, hI⟩ := hI
    obtain ⟨u49, hI⟩ := hI
    obtain ⟨u50, hI⟩ := hI
    obtain ⟨u51, hI⟩ := hI
    obtain ⟨u52, hI⟩ := hI
    obtain ⟨u53, hI⟩ := hI
    obtain ⟨u54, hI⟩ := hI
    obtain ⟨u55, hI⟩ := hI
    obtain ⟨u56, hI⟩ := hI
    obtain ⟨u57, hI⟩ := hI
    obtain ⟨u58, hI⟩ := hI
    obtain ⟨u59, hI⟩ := hI
    obtain ⟨u60, hI⟩ := hI
    obtain ⟨u61, hI⟩ := hI
    obtain ⟨u62, hI⟩ := hI
    obtain ⟨u63, hI⟩ := hI
    obtain ⟨u64, hI⟩ := hI
    obtain ⟨u65, hI⟩ := hI
    obtain ⟨u66, hI⟩ := hI
    obtain ⟨u67, hI⟩ := hI
    obtain ⟨u68, hI⟩ := hI
    obtain ⟨u69, hI⟩ := hI
    obtain ⟨u70, hI⟩ := hI
    obtain ⟨u71, hI⟩ := hI
    obtain ⟨u72, hI⟩ := hI
    obtain ⟨u73, hI⟩ := hI
    obtain ⟨u74, hI⟩ := hI
    obtain ⟨u75, hI⟩ := hI
    obtain ⟨u76, hI⟩ := hI
    obtain ⟨u77, hI⟩ := hI
    obtain ⟨u78, hI⟩ := hI
    obtain ⟨u79, hI⟩ := hI
    obtain ⟨u80, hI⟩ := hI
    obtain ⟨hi, hm, hT, hB, rfl⟩ := hI
    have hmu : Wmu n ⟨List.toArray (.slice a0 n c0 :: undef :: u2 :: .pointer (some ⟨w.heap.size + 1, 0, none⟩) :: .bool p :: .int .u64 (m : Int) :: .int .i64 (i : Int) :: u7 :: u8 :: u9 :: u10 :: u11 :: u12 :: u13 :: u14 :: u15 :: u16 :: u17 :: u18 :: u19 :: u20 :: u21 :: u22 :: u23 :: u24 :: u25 :: u26 :: u27 :: u28 :: u29 :: u30 :: u31 :: u32 :: u33 :: u34 :: u35 :: u36 :: u37 :: u38 :: u39 :: u40 :: u41 :: u42 :: u43 :: u44 :: u45 :: u46 :: u47 :: u48 :: u49 :: u50 :: u51 :: u52 :: u53 :: u54 :: u55 :: u56 :: u57 :: u58 :: u59 :: u60 :: u61 :: u62 :: u63 :: u64 :: u65 :: u66 :: u67 :: u68 :: u69 :: u70 :: u71 :: u72 :: u73 :: u74 :: u75 :: u76 :: u77 :: u78 :: u79 :: u80 :: []), []⟩ wr = n - i := by simp [Wmu, intOf]
    rw [hmu]
    clear hmu
    by_cases hin : i < n
    · cases hD : D i with
      | false => exact rnd_add a0 n c0 (w.heap.size + 1) w.heap.size i m p l V D w wr _ u2 u7 u8 u9 u10 u11 u12 u13 u14 u15 u16 u17 u18 u19 u20 u21 u22 u23 u24 u25 u26 u27 u28 u29 u30 u31 u32 u33 u34 u35 u36 u37 u38 u39 u40 u41 u42 u43 u44 u45 u46 u47 u48 u49 u50 u51 u52 u53 u54 u55 u56 u57 u58 u59 u60 u61 u62 u63 u64 u65 u66 u67 u68 u69 u70 u71 u72 u73 u74 u75 u76 u77 u78 u79 u80 hn hm hin hD hT (by omega) (Nat.le_refl _) hB HR.out
      | true =>
        cases p with
        | false => exact rnd_dr0 a0 n c0 (w.heap.size + 1) w.heap.size i m l V D w wr _ u2 u7 u8 u9 u10 u11 u12 u13 u14 u15 u16 u17 u18 u19 u20 u21 u22 u23 u24 u25 u26 u27 u28 u29 u30 u31 u32 u33 u34 u35 u36 u37 u38 u39 u40 u41 u42 u43 u44 u45 u46 u47 u48 u49 u50 u51 u52 u53 u54 u55 u56 u57 u58 u59 u60 u61 u62 u63 u64 u65 u66 u67 u68 u69 u70 u71 u72 u73 u74 u75 u76 u77 u78 u79 u80 hn hm hin hD hT (by omega) (Nat.le_refl _) hB HR.out
        | true => exact rnd_dr1 a0 n c0 (w.heap.size + 1) w.heap.size i m l V D w wr _ u2 u7 u8 u9 u10 u11 u12 u13 u14 u15 u16 u17 u18 u19 u20 u21 u22 u23 u24 u25 u26 u27 u28 u29 u30 u31 u32 u33 u34 u35 u36 u37 u38 u39 u40 u41 u42 u43 u44 u45 u46 u47 u48 u49 u50 u51 u52 u53 u54 u55 u56 u57 u58 u59 u60 u61 u62 u63 u64 u65 u66 u67 u68 u69 u70 u71 u72 u73 u74 u75 u76 u77 u78 u79 u80 hn hm hin hD hT (by omega) (Nat.le_refl _) hB HR.out
    · refine rnd_out a0 n c0 (w.heap.size + 1) w.heap.size i m p l w wr _ u2 u7 u8 u9 u10 u11 u12 u13 u14 u15 u16 u17 u18 u19 u20 u21 u22 u23 u24 u25 u26 u27 u28 u29 u30 u31 u32 u33 u34 u35 u36 u37 u38 u39 u40 u41 u42 u43 u44 u45 u46 u47 u48 u49 u50 u51 u52 u53 u54 u55 u56 u57 u58 u59 u60 u61 u62 u63 u64 u65 u66 u67 u68 u69 u70 u71 u72 u73 u74 u75 u76 u77 u78 u79 u80 hn hin ?_
      intro u2 u7 u8 u9 u10 u11 u12 u13 u14 u15 u16 u17 u18 u19 u20 u21 u22 u23 u24 u25 u26 u27 u28 u29 u30 u31 u32 u33 u34 u35 u36 u37 u38 u39 u40 u41 u42 u43 u44 u45 u46 u47 u48 u49 u50 u51 u52 u53 u54 u55 u56 u57 u58 u59 u60 u61 u62 u63 u64 u65 u66 u67 u68 u69 u70 u71 u72 u73 u74 u75 u76 u77 u78 u79 u80
      refine HK5.out _ _ (wpN_of_wp ?_)
      exact wtail a0 n c0 (w.heap.size + 1) w.heap.size i m p l w wr u2 u7 u8 u9 u10 u11 u12 u13 u14 u15 u16 u17 u18 u19 u20 u21 u22 u23 u24 u25 u26 u27 u28 u29 u30 u31 u32 u33 u34 u35 u36 u37 u38 u39 u40 u41 u42 u43 u44 u45 u46 u47 u48 u49 u50 u51 u52 u53 u54 u55 u56 u57 u58 u59 u60 u61 u62 u63 u64 u65 u66 u67 u68 u69 u70 u71 u72 u73 u74 u75 u76 u77 u78 u79 u80 hT (by omega) hB
end Go.Proofs.Ybulkbzxq
