import Derived.Test.YbulkbzuyTail
import Derived.Deep.QuietTactic
import Derived.BigQuiet
import Derived.Deep.DeepCutAuto
namespace Go.Proofs.Ybulkbzuy
open Go.RowKit
set_option linter.unusedVariables false

theorem blk_new5 (w : World) (a b c d e : Obj) : (((((w.alloc a).alloc b).alloc c).alloc d).alloc e).heap[w.heap.size + 1 + 1 + 1 + 1]? = some e := by
  rw [← Deep.nblk_alloc w a, ← Deep.nblk_alloc _ b, ← Deep.nblk_alloc _ c, ← Deep.nblk_alloc _ d, Deep.blk_alloc_new]

theorem after5 {w w4 : World} {a b c d : Obj} {c0 c1 c2 c3 c4 c5 c6 c7 c8 c9 c10 c11 c12 c13 c14 : Value}
    (h : Below (((((w.alloc a).alloc b).alloc c).alloc d).alloc (.cells #[c0, c1, c2, c3, c4, c5, c6, c7, c8, c9, c10, c11, c12, c13, c14] 60)).heap.size ((((((w.alloc a).alloc b).alloc c).alloc d).alloc (.cells #[c0, c1, c2, c3, c4, c5, c6, c7, c8, c9, c10, c11, c12, c13, c14] 60))) w4) :
    Below w.heap.size w w4 ∧ IsEv w4 (w.heap.size + 1 + 1 + 1 + 1) c0 c1 c2 c3 c4 c5 c6 c7 c8 c9 c10 c11 c12 c13 c14 := by
  refine ⟨((((((Below.refl _ _).alloc (Nat.le_refl _) _).alloc (by simp) _).alloc (by simp; omega) _).alloc (by simp; omega) _).alloc (by simp; omega) _).trans (h.mono (by simp; omega)), ?_⟩
  unfold IsEv
  rw [h.block _ (by simp)]
  exact blk_new5 _ _ _ _ _ _

theorem round_end {w3 wr : World} {k n : Nat} {cur : Array Value} (hbr : Below w3.heap.size w3 wr) (hcur : wr.heap[w3.heap.size]? = some (.cells cur 30)) (hsz : cur.size = n) (v : Value) (o : Obj) :
    Below w3.heap.size w3 ((wr.setCell ⟨w3.heap.size, k, none⟩ v).alloc o) ∧ ∃ cur', ((wr.setCell ⟨w3.heap.size, k, none⟩ v).alloc o).heap[w3.heap.size]? = some (.cells cur' 30) ∧ cur'.size = n := by
  have hlt : w3.heap.size < wr.heap.size := (Array.getElem?_eq_some_iff.1 hcur).1
  refine ⟨(hbr.setCell (by simp) _).alloc (by rw [Deep.nblk_setCell]; omega) _, cur.setIfInBounds k v, ?_, ?_⟩
  · rw [Deep.blk_alloc_lt _ _ _ (by rw [Deep.nblk_setCell]; omega)]
    exact blk_set _ _ _ _ _ _ hcur
  · simp [hsz]

theorem facts_of {a0 a1 a2 a3 a7 a8 : Int} {x4 x5 x6 b4 b5 b6 : Option Addr} {n4 c4 n5 c5 n6 c6 d4 d5 d6 gc g1 g2 g3 : Nat} {z4 z6 : List Int} {f5 : List Value} {w w1 w2 w3 wr w4 : World} {cur : Array Value} {o1 o2 o3 o4 : Obj}
    (m4 : n4 ≤ 1024) (m5 : n5 ≤ 1024) (m6 : n6 ≤ 1024) (r4 : InRow w x4 n4 (z4.map (Value.int .i64))) (r6 : InRow w x6 n6 (z6.map (Value.int .i64)))
    (k4 : Fresh w.heap.size w1 2 b4 n4 (z4.map (Value.int .i64))) (k5 : Fresh w1.heap.size w2 27 b5 n5 f5) (k6 : Fresh w2.heap.size w3 3 b6 n6 (z6.map (Value.int .i64)))
    (hb1 : Below w.heap.size w w1) (hb13 : Below w1.heap.size w1 w3) (hb : Below w.heap.size w w3) (hbr : Below w3.heap.size w3 wr) (hb1r : Below w1.heap.size w1 wr) (hcur : wr.heap[w3.heap.size]? = some (.cells cur 30))
    (hev : IsEv w4 gc (.int .i64 a0) (.int .i64 a1) (.int .i64 a2) (.int .i64 a3) (.int .i64 0) (.int .i64 0) (.iface 35 (.pointer (some ⟨wr.heap.size + 1, 0, none⟩))) (.iface 38 (.pointer (some ⟨wr.heap.size + 1 + 1, 0, none⟩))) (.iface 41 (.pointer (some ⟨wr.heap.size + 1 + 1 + 1, 0, none⟩))) (.pointer (some ⟨wr.heap.size, 0, none⟩)) (.slice b6 n6 d6) (.slice (some ⟨g1, 0, none⟩) n4 n4) (.slice (some ⟨g2, 0, none⟩) n4 n4) (.slice (some ⟨g3, 0, none⟩) n4 n4) (.int .i64 a7))
    (lc : (((((wr.alloc o1).alloc o2).alloc o3).alloc o4).alloc (.cells #[.int .i64 a0, .int .i64 a1, .int .i64 a2, .int .i64 a3, .int .i64 0, .int .i64 0, .iface 35 (.pointer (some ⟨wr.heap.size + 1, 0, none⟩)), .iface 38 (.pointer (some ⟨wr.heap.size + 1 + 1, 0, none⟩)), .iface 41 (.pointer (some ⟨wr.heap.size + 1 + 1 + 1, 0, none⟩)), .pointer (some ⟨wr.heap.size, 0, none⟩), .slice b6 n6 d6, .slice b4 n4 d4, .slice b5 n5 d5, .slice (some ⟨w3.heap.size, 0, none⟩) n4 n4, .int .i64 a7] 60)).heap.size ≤ gc)
    (l1 : (((((wr.alloc o1).alloc o2).alloc o3).alloc o4).alloc (.cells #[.int .i64 a0, .int .i64 a1, .int .i64 a2, .int .i64 a3, .int .i64 0, .int .i64 0, .iface 35 (.pointer (some ⟨wr.heap.size + 1, 0, none⟩)), .iface 38 (.pointer (some ⟨wr.heap.size + 1 + 1, 0, none⟩)), .iface 41 (.pointer (some ⟨wr.heap.size + 1 + 1 + 1, 0, none⟩)), .pointer (some ⟨wr.heap.size, 0, none⟩), .slice b6 n6 d6, .slice b4 n4 d4, .slice b5 n5 d5, .slice (some ⟨w3.heap.size, 0, none⟩) n4 n4, .int .i64 a7] 60)).heap.size ≤ g1)
    (l2 : (((((wr.alloc o1).alloc o2).alloc o3).alloc o4).alloc (.cells #[.int .i64 a0, .int .i64 a1, .int .i64 a2, .int .i64 a3, .int .i64 0, .int .i64 0, .iface 35 (.pointer (some ⟨wr.heap.size + 1, 0, none⟩)), .iface 38 (.pointer (some ⟨wr.heap.size + 1 + 1, 0, none⟩)), .iface 41 (.pointer (some ⟨wr.heap.size + 1 + 1 + 1, 0, none⟩)), .pointer (some ⟨wr.heap.size, 0, none⟩), .slice b6 n6 d6, .slice b4 n4 d4, .slice b5 n5 d5, .slice (some ⟨w3.heap.size, 0, none⟩) n4 n4, .int .i64 a7] 60)).heap.size ≤ g2)
    (l3 : (((((wr.alloc o1).alloc o2).alloc o3).alloc o4).alloc (.cells #[.int .i64 a0, .int .i64 a1, .int .i64 a2, .int .i64 a3, .int .i64 0, .int .i64 0, .iface 35 (.pointer (some ⟨wr.heap.size + 1, 0, none⟩)), .iface 38 (.pointer (some ⟨wr.heap.size + 1 + 1, 0, none⟩)), .iface 41 (.pointer (some ⟨wr.heap.size + 1 + 1 + 1, 0, none⟩)), .pointer (some ⟨wr.heap.size, 0, none⟩), .slice b6 n6 d6, .slice b4 n4 d4, .slice b5 n5 d5, .slice (some ⟨w3.heap.size, 0, none⟩) n4 n4, .int .i64 a7] 60)).heap.size ≤ g3)
    (z1 : w4.heap[g1]? = some (.cells (madeCells #[.int .i64 0] n4) 2)) (z2 : w4.heap[g2]? = some (.cells (madeCells #[.float .f64 0] n4) 27)) (z3 : w4.heap[g3]? = some (.cells (madeCells #[.slice none 0 0] n4) 30))
    (hb4 : Below (((((wr.alloc o1).alloc o2).alloc o3).alloc o4).alloc (.cells #[.int .i64 a0, .int .i64 a1, .int .i64 a2, .int .i64 a3, .int .i64 0, .int .i64 0, .iface 35 (.pointer (some ⟨wr.heap.size + 1, 0, none⟩)), .iface 38 (.pointer (some ⟨wr.heap.size + 1 + 1, 0, none⟩)), .iface 41 (.pointer (some ⟨wr.heap.size + 1 + 1 + 1, 0, none⟩)), .pointer (some ⟨wr.heap.size, 0, none⟩), .slice b6 n6 d6, .slice b4 n4 d4, .slice b5 n5 d5, .slice (some ⟨w3.heap.size, 0, none⟩) n4 n4, .int .i64 a7] 60)).heap.size (((((wr.alloc o1).alloc o2).alloc o3).alloc o4).alloc (.cells #[.int .i64 a0, .int .i64 a1, .int .i64 a2, .int .i64 a3, .int .i64 0, .int .i64 0, .iface 35 (.pointer (some ⟨wr.heap.size + 1, 0, none⟩)), .iface 38 (.pointer (some ⟨wr.heap.size + 1 + 1, 0, none⟩)), .iface 41 (.pointer (some ⟨wr.heap.size + 1 + 1 + 1, 0, none⟩)), .pointer (some ⟨wr.heap.size, 0, none⟩), .slice b6 n6 d6, .slice b4 n4 d4, .slice b5 n5 d5, .slice (some ⟨w3.heap.size, 0, none⟩) n4 n4, .int .i64 a7] 60)) w4) :
    Facts a0 a1 a2 a3 a7 a8 x4 x5 x6 b4 b5 b6 n4 c4 n5 c5 n6 c6 d4 d5 d6 w3.heap.size (wr.heap.size + 1 + 1 + 1 + 1) gc g1 g2 g3 ⟨wr.heap.size + 1, 0, none⟩ ⟨wr.heap.size + 1 + 1, 0, none⟩ ⟨wr.heap.size + 1 + 1 + 1, 0, none⟩ ⟨wr.heap.size, 0, none⟩ z4 z6 w w4 := by
  obtain ⟨hb5, hev0⟩ := after5 hb4
  simp only [World.size_alloc] at lc l1 l2 l3
  have hlt3 : w3.heap.size < wr.heap.size := lt_of hcur (Nat.le_refl _)
  have len4 : z4.length = n4 := by simpa using r4.1
  have len6 : z6.length = n6 := by simpa using r6.1
  have bel : Below w.heap.size w w4 := (hb.trans (hbr.mono hb.size)).trans (hb5.mono (Nat.le_trans hb.size hbr.size))
  have b14 : Below w1.heap.size w1 w4 := hb1r.trans (hb5.mono hb1r.size)
  have b34 : Below w3.heap.size w3 w4 := hbr.trans (hb5.mono hbr.size)
  refine { m4 := m4, m5 := m5, m6 := m6, bel := bel, evc := hev, eve := hev0, z1 := z1, z2 := z2, z3 := z3, tx := ⟨cur, by rw [hb5.block _ hlt3]; exact hcur⟩, g3t := by omega, len4 := len4, num := ?_, numc := fresh_at k4 len4 b14, inn := inrow_at r4 bel, gce := by omega, len6 := len6, colc := fresh_at k6 len6 b34, inc := inrow_at r6 bel, flt := ?_ }
  · rcases k4 with h | ⟨g, c, rfl, _, hh, _⟩
    · exact .inl h
    · have hg := lt_of hh (Nat.le_refl _)
      have hg2 := hb1r.size
      exact .inr ⟨g, c, rfl, by rw [b14.block g hg]; exact hh, by omega⟩
  · rcases k5 with h | ⟨g, c, rfl, _⟩
    · exact .inl h
    · exact .inr ⟨g, rfl⟩

set_option maxHeartbeats 8000000 in
set_option maxRecDepth 100000 in
theorem law_main (a0 a1 a2 a3 a7 a8 : Int) (x4 x5 x6 : Option Addr) (n4 c4 n5 c5 n6 c6 : Nat) (z4 z6 : List Int) (f5 : List Value) (w : World)
    (h8 : 0 ≤ a8) (h8' : a8 ≤ 255) (m4 : n4 ≤ 1024) (m5 : n5 ≤ 1024) (m6 : n6 ≤ 1024)
    (r4 : InRow w x4 n4 (z4.map (Value.int .i64))) (r5 : InRow w x5 n5 f5) (r6 : InRow w x6 n6 (z6.map (Value.int .i64))) :
    Calls Yba.prog 3 #[.int .i64 a0, .int .i64 a1, .int .i64 a2, .int .i64 a3, .slice x4 n4 c4, .slice x5 n5 c5, .slice x6 n6 c6, .int .i64 a7, .int .u8 a8] w fun e w' => e = .returned (.bool true) ∧ Below w.heap.size w w' := by
  have mk := fun W => run_make_row' (P := Yba.prog) 29 30 _ _ Yba.underlying29 info30 rfl .i64 .i64 n4 (by omega) (by omega) W
  have t4 : decide (1024 < (n4 : Int)) = false := by simp; omega
  have t5 : decide (1024 < (n5 : Int)) = false := by simp; omega
  have t6 : decide (1024 < (n6 : Int)) = false := by simp; omega
  go_enter Yba.func3, Yba.ntmps3
  go_wp2_with fail
  refine (cl4 _ _ _ _ _ r4.1 m4 r4.2.1 r4.2.2.1 r4.2.2.2).mono ?_
  rintro e w1 ⟨b4, d4, rfl, k4, hb1⟩
  go_wp2_with fail
  refine (cl5 _ _ _ _ _ r5.1 m5 r5.2.1 ?r5c r5.2.2.2).mono ?_
  case r5c => exact fun x hx j u hj => cell_later hb1 (r5.2.2.1 x hx j u hj)
  rintro e w2 ⟨b5, d5, rfl, k5, hb2⟩
  go_wp2_with fail
  refine (cl6 _ _ _ _ _ r6.1 m6 r6.2.1 ?r6c r6.2.2.2).mono ?_
  case r6c => exact fun x hx j u hj => cell_later (hb1.trans (hb2.mono hb1.size)) (r6.2.2.1 x hx j u hj)
  rintro e w3 ⟨b6, d6, rfl, k6, hb3⟩
  go_wp2_with fail
  clear mk t4 t5 t6
  have hb : Below w.heap.size w w3 := (hb1.trans (hb2.mono hb1.size)).trans (hb3.mono (Nat.le_trans hb1.size hb2.size))
  have hb13 : Below w1.heap.size w1 w3 := hb2.trans (hb3.mono hb2.size)
  go_loopw [24] (fun i wr => ∃ k : Nat, k ≤ n4 ∧ i = .int .i64 k ∧ Below w3.heap.size w3 wr ∧ ∃ cur, wr.heap[w3.heap.size]? = some (.cells cur 30) ∧ cur.size = n4) (fun i _ => n4 - (intOf i).toNat)
  case atStart => exact ⟨0, Nat.zero_le _, rfl, (Below.refl _ _).alloc (Nat.le_refl _) _, _, Deep.blk_alloc_new _ _, size_madeCells _ _⟩
  case round =>
    obtain ⟨k, hk, rfl, hbr, cur, hcur, hsz⟩ := hrel
    have hb1r : Below w1.heap.size w1 wr := hb13.trans (hbr.mono (Nat.le_trans hb2.size hb3.size))
    by_cases hlt : k < n4
    · obtain ⟨g4, cur4, rfl, hg4, hh4, hz4⟩ : ∃ g cur, b4 = some ⟨g, 0, none⟩ ∧ w.heap.size ≤ g ∧ w1.heap[g]? = some (.cells cur 2) ∧ cur.toList.take n4 = z4.map (Value.int .i64) := by
        rcases k4 with h | h
        · omega
        · exact h
      have hz := cellN hh4 hz4 hlt (by simpa using r4.1) hb1r
      have hlt3 : w3.heap.size < wr.heap.size := (Array.getElem?_eq_some_iff.1 hcur).1
      have hcell : ∀ o, (wr.alloc o).cell? ⟨w3.heap.size, k, none⟩ = some cur[k] := fun o => Lib.cell?_alloc_some o (by simp [World.cell?, hcur, hsz, hlt])
      have hfr : ∀ o, (wr.alloc o).frozen? ⟨w3.heap.size, k, none⟩ = false := fun o => by rw [World.frozen?_alloc_old _ _ _ (by simp; omega)]; exact frozen_of_row _ _ _ _ _ hcur
      have HR : Hid (wr.heap[w3.heap.size]? = some (.cells cur 30)) := hcur
      clear hcur
      go_wp2
      go_roundw
      case rel => exact ⟨k + 1, by omega, by go_num, round_end hbr HR.out hsz _ _⟩
      case measure => simp [intOf]; omega
    · have hkn : k = n4 := by omega
      clear hlt hk
      go_upto_region 17 with fail
      rename_i K hK
      have HK : Hid _ := hK
      clear hK
      go_wp2_with fail
      refine (clone_any (wr.heap.size + 1 + 1 + 1 + 1) n4 d4 n6 d6 n5 d5 n4 n4 b6 b4 b5 (some ⟨w3.heap.size, 0, none⟩) ⟨wr.heap.size + 1, 0, none⟩ ⟨wr.heap.size + 1 + 1, 0, none⟩ ⟨wr.heap.size + 1 + 1 + 1, 0, none⟩ ⟨wr.heap.size, 0, none⟩ a0 a1 a2 a3 0 0 a7 _ m4 ?hev).mono ?_
      case hev => exact blk_new5 _ _ _ _ _ _
      rintro e w4 ⟨gc, g1, g2, g3, rfl, lc, l1, l2, l3, hev, z1, z2, z3, hb4⟩
      have hF := facts_of (a8 := a8) (x5 := x5) (c4 := c4) (c5 := c5) (c6 := c6) m4 m5 m6 r4 r6 k4 k5 k6 hb1 hb13 hb hbr hb1r hcur hev lc l1 l2 l3 z1 z2 z3 hb4
      clear hev lc l1 l2 l3 z1 z2 z3 hb4
      go_wp2_with fail
      refine HK.out _ _ ?_
      exact tail14 _ _ _ _ _ _ _ _ _ _ _ _ _ _ _ _ _ _ _ _ _ _ _ _ _ _ _ _ _ _ _ _ _ _ _ 0 _ _ _ _ _ _ _ _ _ _ _ _ _ _ _ _ _ _ _ _ _ _ _ _ _ _ _ _ _ _ _ _ _ _ _ _ _ _ _ _ _ _ _ _ _ _ _ _ _ _ _ _ _ _ _ _ _ _ _ _ _ _ _ _ _ _ _ _ _ _ _ _ _ _ _ _ _ _ _ _ _ _ _ _ _ _ _ _ _ _ _ _ _ _ _ _ _ _ _ _ _ _ _ _ _ _ _ _ _ _ _ _ _ _ _ _ _ _ _ _ _ _ _ _ _ _ _ _ _ _ _ _ _ _ _ _ _ _ _ _ _ _ _ _ _ _ _ _ _ _ _ _ _ _ _ _ _ _ _ _ _ _ _ _ _ _ _ _ _ _ _ _ _ _ _ _ _ _ _ _ _ _ _ _ _ _ _ _ _ _ _ _ _ _ _ _ _ _ _ _ _ _ _ _ _ _ _ _ _ _ _ _ _ _ _ _ _ _ _ _ _ _ _ _ _ _ _ _ _ _ _ _ _ _ _ _ _ _ _ _ _ _ _ _ _ _ _ _ _ _ _ _ _ _ _ _ _ _ _ _ _ _ _ _ _ _ _ _ _ _ _ _ _ _ _ _ _ _ _ _ _ _ _ _ _ _ _ _ _ _ _ _ _ _ _ _ _ _ _ _ _ _ _ _ _ _ _ _ _ _ _ _ _ _ _ _ _ _ _ _ _ _ _ _ _ _ _ _ _ _ _ _ _ _ _ _ _ _ _ _ _ _ _ _ _ _ _ _ _ _ _ _ _ _ _ _ _ _ _ _ _ _ _ _ _ _ _ _ _ _ _ _ _ _ _ _ _ _ _ _ _ _ _ _ _ _ _ _ _ _ _ _ _ _ hF
end Go.Proofs.Ybulkbzuy
