import Derived.Test.YbulkbzxqWakes
namespace Go.Proofs.Ybulkbzxq
open Go.RowKit Go.Conc Go.MuLone
set_option linter.unusedVariables false

theorem tly_got {w : World} {b c ss rr : Nat} {n : Int} {l : Value} (h : Tly w b c 44 n l true) (hc : w.heap[c]? = some (.chan 1 #[.agg #[]] false ss rr false)) :
    Tly (w.setChan c 1 (#[Value.agg #[]].extract 1) false ss (rr + 1) false) b c 44 n l false := by
  refine ⟨?_, ss, rr + 1, ?_⟩
  · rw [setChan_other _ _ _ _ _ _ _ _ _ h.ne.symm]; exact h.cells
  · exact heap_setChan _ _ _ _ _ _ _ _ (lt_heap hc)

set_option maxHeartbeats 4000000 in
set_option maxRecDepth 1000000 in
theorem rnd_dr0 (a0 : Option Addr) (n c0 tb tc i m : Nat) (l : Value) (V : Nat → ByteArray) (D : Nat → Bool) (w wr : World) (K : Act → World → Prop) (u2 u7 u8 u9 u10 u11 u12 u13 u14 u15 u16 u17 u18 u19 u20 u21 u22 u23 u24 u25 u26 u27 u28 u29 u30 u31 u32 u33 u34 u35 u36 u37 u38 u39 u40 u41 u42 u43 u44 u45 u46 u47 u48 u49 u50 u51 u52 u53 u54 u55 u56 u57 u58 u59 u60 u61 u62 u63 u64 u65 u66 u67 u68 u69 u70 u71 u72 u73 u74 u75 u76 u77 u78 u79 u80 : Value) (hn : n ≤ 1024) (him : m ≤ i) (hin : i < n) (hD : D i = true) (hT : Tly wr tb tc 44 (m : Int) l false)
    (hb : w.heap.size ≤ tb) (hc : w.heap.size ≤ tc) (hbel : Below w.heap.size w wr) (hr : StepsOf w a0 n V D) :
    WpN Yba.prog (wkBody Yba.f4) (Exit.then (fun a' w' => WI a0 n c0 tb tc w a' w' ∧ Wmu n a' w' < n - i) (QQ K w)) ⟨List.toArray (.slice a0 n c0 :: undef :: u2 :: .pointer (some ⟨tb, 0, none⟩) :: .bool false :: .int .u64 (m : Int) :: .int .i64 (i : Int) :: u7 :: u8 :: u9 :: u10 :: u11 :: u12 :: u13 :: u14 :: u15 :: u16 :: u17 :: u18 :: u19 :: u20 :: u21 :: u22 :: u23 :: u24 :: u25 :: u26 :: u27 :: u28 :: u29 :: u30 :: u31 :: u32 :: u33 :: u34 :: u35 :: u36 :: u37 :: u38 :: u39 :: u40 :: u41 :: u42 :: u43 :: u44 :: u45 :: u46 :: u47 :: u48 :: u49 :: u50 :: u51 :: u52 :: u53 :: u54 :: u55 :: u56 :: u57 :: u58 :: u59 :: u60 :: u61 :: u62 :: u63 :: u64 :: u65 :: u66 :: u67 :: u68 :: u69 :: u70 :: u71 :: u72 :: u73 :: u74 :: u75 :: u76 :: u77 :: u78 :: u79 :: u80 :: []), []⟩ wr := by
  unfold QQ
  obtain ⟨b, off, rfl, hcell⟩ := hr.resolve_left (by omega)
  obtain ⟨s0, s1⟩ := hcell i hin
  have c0' := cell_later hbel s0
  have c1' := cell_later hbel s1
  rw [hD] at c1'
  clear hcell s0 s1 hr
  have hT1 := hT.al (.cells #[.string (V i), .bool true] 42)
  have HT : Hid (Tly (wr.alloc (.cells #[.string (V i), .bool true] 42)) tb tc 44 (m : Int) l false) := hT1
  obtain ⟨g0, g2, g3, g4, gf⟩ := hT1.cell
  have hlen := len_wake hT1
  simp only [Bool.false_eq_true, if_false] at hlen
  have HB : Hid (Below w.heap.size w (wr.alloc (.cells #[.string (V i), .bool true] 42))) := hbel.alloc hbel.size _
  clear hT hT1 hbel g0 g2 g3 gf
  refine wpN_of_wp ?_
  conv => arg 2; whnf
  go_wp2_with fail
  refine ⟨⟨i + 1, m, false, l, _, _, _, _, _, _, _, _, _, _, _, _, _, _, _, _, _, _, _, _, _, _, _, _, _, _, _, _, _, _, _, _, _, _, _, _, _, _, _, _, _, _, _, _, _, _, _, _, _, _, _, _, _, _, _, _, _, _, _, _, _, _, _, _, _, _, _, _, _, _, _, _, _, _, _, by omega, by omega, HT.out, HB.out, rfl⟩, ?_⟩
  simp [Wmu, intOf]; omega

set_option maxHeartbeats 4000000 in
set_option maxRecDepth 1000000 in
theorem rnd_dr1 (a0 : Option Addr) (n c0 tb tc i m : Nat) (l : Value) (V : Nat → ByteArray) (D : Nat → Bool) (w wr : World) (K : Act → World → Prop) (u2 u7 u8 u9 u10 u11 u12 u13 u14 u15 u16 u17 u18 u19 u20 u21 u22 u23 u24 u25 u26 u27 u28 u29 u30 u31 u32 u33 u34 u35 u36 u37 u38 u39 u40 u41 u42 u43 u44 u45 u46 u47 u48 u49 u50 u51 u52 u53 u54 u55 u56 u57 u58 u59 u60 u61 u62 u63 u64 u65 u66 u67 u68 u69 u70 u71 u72 u73 u74 u75 u76 u77 u78 u79 u80 : Value) (hn : n ≤ 1024) (him : m ≤ i) (hin : i < n) (hD : D i = true) (hT : Tly wr tb tc 44 (m : Int) l true)
    (hb : w.heap.size ≤ tb) (hc : w.heap.size ≤ tc) (hbel : Below w.heap.size w wr) (hr : StepsOf w a0 n V D) :
    WpN Yba.prog (wkBody Yba.f4) (Exit.then (fun a' w' => WI a0 n c0 tb tc w a' w' ∧ Wmu n a' w' < n - i) (QQ K w)) ⟨List.toArray (.slice a0 n c0 :: undef :: u2 :: .pointer (some ⟨tb, 0, none⟩) :: .bool true :: .int .u64 (m : Int) :: .int .i64 (i : Int) :: u7 :: u8 :: u9 :: u10 :: u11 :: u12 :: u13 :: u14 :: u15 :: u16 :: u17 :: u18 :: u19 :: u20 :: u21 :: u22 :: u23 :: u24 :: u25 :: u26 :: u27 :: u28 :: u29 :: u30 :: u31 :: u32 :: u33 :: u34 :: u35 :: u36 :: u37 :: u38 :: u39 :: u40 :: u41 :: u42 :: u43 :: u44 :: u45 :: u46 :: u47 :: u48 :: u49 :: u50 :: u51 :: u52 :: u53 :: u54 :: u55 :: u56 :: u57 :: u58 :: u59 :: u60 :: u61 :: u62 :: u63 :: u64 :: u65 :: u66 :: u67 :: u68 :: u69 :: u70 :: u71 :: u72 :: u73 :: u74 :: u75 :: u76 :: u77 :: u78 :: u79 :: u80 :: []), []⟩ wr := by
  unfold QQ
  obtain ⟨b, off, rfl, hcell⟩ := hr.resolve_left (by omega)
  obtain ⟨s0, s1⟩ := hcell i hin
  have c0' := cell_later hbel s0
  have c1' := cell_later hbel s1
  rw [hD] at c1'
  clear hcell s0 s1 hr
  have hT1 := hT.al (.cells #[.string (V i), .bool true] 42)
  have HT : Hid (Tly (wr.alloc (.cells #[.string (V i), .bool true] 42)) tb tc 44 (m : Int) l true) := hT1
  obtain ⟨g0, g2, g3, g4, gf⟩ := hT1.cell
  have hlen := len_wake hT1
  simp only [if_true] at hlen
  have HB : Hid (Below w.heap.size w (wr.alloc (.cells #[.string (V i), .bool true] 42))) := hbel.alloc hbel.size _
  clear hT hT1 hbel g0 g2 g3 gf
  obtain ⟨ss, rr, hch⟩ := HT.out.chan
  simp only [if_true] at hch
  have HCH : Hid ((wr.alloc (.cells #[.string (V i), .bool true] 42)).heap[tc]? = some (.chan 1 #[.agg #[]] false ss rr false)) := hch
  clear hch
  rw [show wkBody Yba.f4 = .seq (fstS (wkBody Yba.f4)) (sndS (wkBody Yba.f4)) from by kernel_rfl]
  refine wpN_seq_k fun K1 hK1 => ?_
  refine wpN_of_wp ?_
  conv => arg 2; whnf
  have HK1 : Hid _ := hK1
  clear hK1
  go_wp2_with fail
  refine HK1.out _ _ ?_
  clear HK1 K1
  conv => arg 2; whnf
  refine wpN_seq_k fun K2 hK2 => ?_
  refine wpN_block ?_
  refine wpN_seq_k fun K3 hK3 => ?_
  have HK2 : Hid _ := hK2
  clear hK2
  refine wpN_of_wp ?_
  go_wp2_with fail
  refine wpN_seq_k fun K4 hK4 => ?_
  clear hK4
  refine wpN_seq_k fun K1 hK1 => ?_
  refine wpN_of_wp ?_
  go_wp2_with fail
  refine wpN_cond (t := true) rfl ?_
  simp only [if_true]
  refine wpN_seq_k fun K1 hK1 => ?_
  refine wpN_of_wp ?_
  go_wp2_with fail
  refine wpN_seq_k fun K1 hK1 => ?_
  refine wpN_of_wp ?_
  go_wp2_with fail
  refine wpN_seq_k fun K1 hK1 => ?_
  refine wpN_of_wp ?_
  go_wp2_with fail
  refine wpN_seq_k fun K6 hK6 => ?_
  have HK6 : Hid _ := hK6
  clear hK6
  refine wpN_seq_k fun K1 hK1 => ?_
  refine wpN_of_wp ?_
  go_wp2_with fail
  refine wpN_cond (t := true) rfl ?_
  simp only [if_true]
  refine wpN_seq_k fun K7 hK7 => ?_
  have HK7 : Hid _ := hK7
  clear hK7
  refine wpN_of_lone fun bb kk cs hbb => ?_
  refine LoneTo.goes (n := 10) ?_
  s_reg
  s_in
  refine goes_oper_k rfl rfl hbb (fun KK hKK => ?_)
  go_simp
  refine hKK _ _ ⟨trivial, ?_⟩
  clear hKK KK
  s_in
  refine goes_oper_k rfl rfl hbb (fun KK hKK => ?_)
  go_simp
  refine hKK _ _ ⟨trivial, ?_⟩
  clear hKK KK
  s_in
  refine goes_oper_k rfl rfl hbb (fun KK hKK => ?_)
  go_simp
  refine hKK _ _ ⟨trivial, ?_⟩
  clear hKK KK
  s_in
  refine goes_oper_k rfl rfl hbb (fun KK hKK => ?_)
  go_simp
  refine hKK _ _ ⟨trivial, ?_⟩
  clear hKK KK
  s_stop
  refine LoneTo.step (step_lone_recv_buf (ok := false) (c := tc) (cap := 1) (buf := #[.agg #[]]) (s := ss) (r := rr) (tm := false) (stepG_comm (cases := #[rcase tc (.agg #[])]) (blocking := true) (shape := .recv false) (w' := wr.alloc (.cells #[.string (V i), .bool true] 42)) rfl rfl hbb (by simp [execOp, rcase, Act.eval, go_sem])) HCH.out (by simp)) ?_
  rw [Frame.finish_at]
  walk_nrm
  refine LoneTo.goes (n := 10) ?_
  s_c stepG_region_end
  s_stop
  refine LoneTo.done ⟨_, rfl, ?_⟩
  refine HK7.out _ _ ?_
  clear HK7 K7
  refine wpN_of_wp ?_
  go_wp2_with fail
  refine HK6.out _ _ ?_
  clear HK6 K6
  refine wpN_of_wp ?_
  go_wp2_with fail
  refine HK2.out _ _ ?_
  clear HK2 K2
  refine wpN_of_wp ?_
  go_wp2_with fail
  refine ⟨⟨i + 1, m, false, l, _, _, _, _, _, _, _, _, _, _, _, _, _, _, _, _, _, _, _, _, _, _, _, _, _, _, _, _, _, _, _, _, _, _, _, _, _, _, _, _, _, _, _, _, _, _, _, _, _, _, _, _, _, _, _, _, _, _, _, _, _, _, _, _, _, _, _, _, _, _, _, _, _, _, _, by omega, by omega, tly_got HT.out HCH.out, below_setChan HB.out hc _ _ _ _ _ _, rfl⟩, ?_⟩
  simp [Wmu, intOf]; omega
end Go.Proofs.Ybulkbzxq
