import Derived.Test.YbulkbzxqCounts
import Derived.Test.YbulkbzxqTly2
import Derived.Deep.RegionWith
namespace Go.Proofs.Ybulkbzxq
open Go.RowKit Go.Conc Go.MuLone
set_option linter.unusedVariables false

def fstS : Code → Code | .seq a _ => a | c => c
def sndS : Code → Code | .seq _ b => b | c => c
def unBlock : Code → Code | .block _ c => c | c => c
def unLoop : Code → Code | .loop c => c | c => c
/-- The loop's body. -/
def wkBody (f : Func) : Code := unLoop (unBlock (sndS (fstS (rights 5 (lawBody f)))))

/-- What is known of the steps that came in. -/
def StepsOf (w : World) (a : Option Addr) (n : Nat) (V : Nat → ByteArray) (D : Nat → Bool) : Prop :=
  n = 0 ∨ ∃ b off, a = some ⟨b, off, none⟩ ∧ ∀ j, j < n → w.cell? ⟨b, off + j * 2, none⟩ = some (.string (V j)) ∧ w.cell? ⟨b, off + j * 2 + 1, none⟩ = some (.bool (D j))

/-- What the loop owes: out of it by its test, to what follows; the function's end. -/
def QQ (K : Act → World → Prop) (w : World) : Exit → Act → World → Prop := Exit.inBlock 0 (Exit.then K (bodyPost Yba.prog Yba.f4 fun e w' => e = .returned (.bool true) ∧ Below w.heap.size w w'))

/-- The state at a round's head. -/
def WI (a0 : Option Addr) (n c0 tb tc : Nat) (w : World) (a : Act) (wr : World) : Prop :=
  ∃ (i m : Nat) (p : Bool) (l : Value) (u2 u7 u8 u9 u10 u11 u12 u13 u14 u15 u16 u17 u18 u19 u20 u21 u22 u23 u24 u25 u26 u27 u28 u29 u30 u31 u32 u33 u34 u35 u36 u37 u38 u39 u40 u41 u42 u43 u44 u45 u46 u47 u48 u49 u50 u51 u52 u53 u54 u55 u56 u57 u58 u59 u60 u61 u62 u63 u64 u65 u66 u67 u68 u69 u70 u71 u72 u73 u74 u75 u76 u77 u78 u79 u80 : Value), i ≤ n ∧ m ≤ i ∧ Tly wr tb tc 44 (m : Int) l p ∧ Below w.heap.size w wr ∧ a = ⟨List.toArray (.slice a0 n c0 :: undef :: u2 :: .pointer (some ⟨tb, 0, none⟩) :: .bool p :: .int .u64 (m : Int) :: .int .i64 (i : Int) :: u7 :: u8 :: u9 :: u10 :: u11 :: u12 :: u13 :: u14 :: u15 :: u16 :: u17 :: u18 :: u19 :: u20 :: u21 :: u22 :: u23 :: u24 :: u25 :: u26 :: u27 :: u28 :: u29 :: u30 :: u31 :: u32 :: u33 :: u34 :: u35 :: u36 :: u37 :: u38 :: u39 :: u40 :: u41 :: u42 :: u43 :: u44 :: u45 :: u46 :: u47 :: u48 :: u49 :: u50 :: u51 :: u52 :: u53 :: u54 :: u55 :: u56 :: u57 :: u58 :: u59 :: u60 :: u61 :: u62 :: u63 :: u64 :: u65 :: u66 :: u67 :: u68 :: u69 :: u70 :: u71 :: u72 :: u73 :: u74 :: u75 :: u76 :: u77 :: u78 :: u79 :: u80 :: []), []⟩
def Wmu (n : Nat) (a : Act) (_ : World) : Nat := n - (intOf (a.tmps.getD 6 undef)).toNat

set_option maxHeartbeats 4000000 in
set_option maxRecDepth 1000000 in
theorem rnd_out (a0 : Option Addr) (n c0 tb tc i m : Nat) (p : Bool) (l : Value) (w wr : World) (K : Act → World → Prop) (u2 u7 u8 u9 u10 u11 u12 u13 u14 u15 u16 u17 u18 u19 u20 u21 u22 u23 u24 u25 u26 u27 u28 u29 u30 u31 u32 u33 u34 u35 u36 u37 u38 u39 u40 u41 u42 u43 u44 u45 u46 u47 u48 u49 u50 u51 u52 u53 u54 u55 u56 u57 u58 u59 u60 u61 u62 u63 u64 u65 u66 u67 u68 u69 u70 u71 u72 u73 u74 u75 u76 u77 u78 u79 u80 : Value) (hn : n ≤ 1024) (hin : ¬ i < n) (hQ : ∀ (u2 u7 u8 u9 u10 u11 u12 u13 u14 u15 u16 u17 u18 u19 u20 u21 u22 u23 u24 u25 u26 u27 u28 u29 u30 u31 u32 u33 u34 u35 u36 u37 u38 u39 u40 u41 u42 u43 u44 u45 u46 u47 u48 u49 u50 u51 u52 u53 u54 u55 u56 u57 u58 u59 u60 u61 u62 u63 u64 u65 u66 u67 u68 u69 u70 u71 u72 u73 u74 u75 u76 u77 u78 u79 u80 : Value), K ⟨List.toArray (.slice a0 n c0 :: undef :: u2 :: .pointer (some ⟨tb, 0, none⟩) :: .bool p :: .int .u64 (m : Int) :: .int .i64 (i : Int) :: u7 :: u8 :: u9 :: u10 :: u11 :: u12 :: u13 :: u14 :: u15 :: u16 :: u17 :: u18 :: u19 :: u20 :: u21 :: u22 :: u23 :: u24 :: u25 :: u26 :: u27 :: u28 :: u29 :: u30 :: u31 :: u32 :: u33 :: u34 :: u35 :: u36 :: u37 :: u38 :: u39 :: u40 :: u41 :: u42 :: u43 :: u44 :: u45 :: u46 :: u47 :: u48 :: u49 :: u50 :: u51 :: u52 :: u53 :: u54 :: u55 :: u56 :: u57 :: u58 :: u59 :: u60 :: u61 :: u62 :: u63 :: u64 :: u65 :: u66 :: u67 :: u68 :: u69 :: u70 :: u71 :: u72 :: u73 :: u74 :: u75 :: u76 :: u77 :: u78 :: u79 :: u80 :: []), []⟩ wr) :
    WpN Yba.prog (wkBody Yba.f4) (Exit.then (fun a' w' => WI a0 n c0 tb tc w a' w' ∧ Wmu n a' w' < n - i) (QQ K w)) ⟨List.toArray (.slice a0 n c0 :: undef :: u2 :: .pointer (some ⟨tb, 0, none⟩) :: .bool p :: .int .u64 (m : Int) :: .int .i64 (i : Int) :: u7 :: u8 :: u9 :: u10 :: u11 :: u12 :: u13 :: u14 :: u15 :: u16 :: u17 :: u18 :: u19 :: u20 :: u21 :: u22 :: u23 :: u24 :: u25 :: u26 :: u27 :: u28 :: u29 :: u30 :: u31 :: u32 :: u33 :: u34 :: u35 :: u36 :: u37 :: u38 :: u39 :: u40 :: u41 :: u42 :: u43 :: u44 :: u45 :: u46 :: u47 :: u48 :: u49 :: u50 :: u51 :: u52 :: u53 :: u54 :: u55 :: u56 :: u57 :: u58 :: u59 :: u60 :: u61 :: u62 :: u63 :: u64 :: u65 :: u66 :: u67 :: u68 :: u69 :: u70 :: u71 :: u72 :: u73 :: u74 :: u75 :: u76 :: u77 :: u78 :: u79 :: u80 :: []), []⟩ wr := by
  unfold QQ
  refine wpN_of_wp ?_
  conv => arg 2; whnf
  have HQ : Hid _ := hQ
  clear hQ
  go_wp2_with fail
  apply HQ.out

set_option maxHeartbeats 4000000 in
set_option maxRecDepth 1000000 in
theorem rnd_add (a0 : Option Addr) (n c0 tb tc i m : Nat) (p : Bool) (l : Value) (V : Nat → ByteArray) (D : Nat → Bool) (w wr : World) (K : Act → World → Prop) (u2 u7 u8 u9 u10 u11 u12 u13 u14 u15 u16 u17 u18 u19 u20 u21 u22 u23 u24 u25 u26 u27 u28 u29 u30 u31 u32 u33 u34 u35 u36 u37 u38 u39 u40 u41 u42 u43 u44 u45 u46 u47 u48 u49 u50 u51 u52 u53 u54 u55 u56 u57 u58 u59 u60 u61 u62 u63 u64 u65 u66 u67 u68 u69 u70 u71 u72 u73 u74 u75 u76 u77 u78 u79 u80 : Value) (hn : n ≤ 1024) (him : m ≤ i) (hin : i < n) (hD : D i = false) (hT : Tly wr tb tc 44 (m : Int) l p)
    (hb : w.heap.size ≤ tb) (hc : w.heap.size ≤ tc) (hbel : Below w.heap.size w wr) (hr : StepsOf w a0 n V D) :
    WpN Yba.prog (wkBody Yba.f4) (Exit.then (fun a' w' => WI a0 n c0 tb tc w a' w' ∧ Wmu n a' w' < n - i) (QQ K w)) ⟨List.toArray (.slice a0 n c0 :: undef :: u2 :: .pointer (some ⟨tb, 0, none⟩) :: .bool p :: .int .u64 (m : Int) :: .int .i64 (i : Int) :: u7 :: u8 :: u9 :: u10 :: u11 :: u12 :: u13 :: u14 :: u15 :: u16 :: u17 :: u18 :: u19 :: u20 :: u21 :: u22 :: u23 :: u24 :: u25 :: u26 :: u27 :: u28 :: u29 :: u30 :: u31 :: u32 :: u33 :: u34 :: u35 :: u36 :: u37 :: u38 :: u39 :: u40 :: u41 :: u42 :: u43 :: u44 :: u45 :: u46 :: u47 :: u48 :: u49 :: u50 :: u51 :: u52 :: u53 :: u54 :: u55 :: u56 :: u57 :: u58 :: u59 :: u60 :: u61 :: u62 :: u63 :: u64 :: u65 :: u66 :: u67 :: u68 :: u69 :: u70 :: u71 :: u72 :: u73 :: u74 :: u75 :: u76 :: u77 :: u78 :: u79 :: u80 :: []), []⟩ wr := by
  unfold QQ
  refine wpN_of_wp ?_
  conv => arg 2; whnf
  obtain ⟨b, off, rfl, hcell⟩ := hr.resolve_left (by omega)
  obtain ⟨s0, s1⟩ := hcell i hin
  have c0' := cell_later hbel s0
  have c1' := cell_later hbel s1
  rw [hD] at c1'
  clear hcell s0 s1 hr
  have HT : Hid (Tly wr tb tc 44 (m : Int) l p) := hT
  clear hT
  have htb : tb < wr.heap.size := lt_heap HT.out.cells
  have htc : tc < wr.heap.size := by obtain ⟨s, r, hch⟩ := HT.out.chan; exact lt_heap hch
  go_wp2_with fail
  refine (add8_all w.heap.size tb tc _ _ _ _ _ (HT.out.al _) hb hc).mono ?_
  rintro e w3 ⟨rfl, hT3, hb3, hs3, ho3⟩
  obtain ⟨g0, g2, g3, g4, gf⟩ := hT3.cell
  obtain ⟨x0, x1⟩ := box_cell (ho3 wr.heap.size (by omega) (by omega))
  rw [wrap_nat m (by omega)] at hT3
  have HT3 : Hid (Tly w3 tb tc 44 ((m + 1 : Nat) : Int) (.string (V i)) true) := hT3
  have hbl : Below w.heap.size w w3 := (hbel.alloc hbel.size _).trans hb3
  have HT3d : Hid (Tly w3.drew tb tc 44 ((m + 1 : Nat) : Int) (.string (V i)) true) := ⟨hT3.cells, hT3.chan⟩
  have hq : (((m + 1 : Nat) : Int) != (m : Int) + 1) = false := by simp
  clear hT3 ho3 hb3 g0 g2 g3 g4 gf HT hbel
  go_wp2_with fail
  go_region_with (go_at_call 9; refine (cnt9_all w.heap.size tb tc _ _ _ _ HT3d.out hb).mono ?_; rintro e w4 ⟨rfl, hT4, hb4, hs4, ho4⟩; obtain ⟨e0, e2, e3, e4, ef⟩ := hT4.cell; have hlen := len_wake hT4; have y0 := box_keep ho4 x0 htb)
  all_goals
    simp only [if_true] at hlen
    go_wp2_with fail
    refine ⟨⟨i + 1, m + 1, true, .string (V i), _, _, _, _, _, _, _, _, _, _, _, _, _, _, _, _, _, _, _, _, _, _, _, _, _, _, _, _, _, _, _, _, _, _, _, _, _, _, _, _, _, _, _, _, _, _, _, _, _, _, _, _, _, _, _, _, _, _, _, _, _, _, _, _, _, _, _, _, _, _, _, _, _, _, _, by omega, by omega, hT4, hbl.drew.trans hb4, rfl⟩, ?_⟩
    simp [Wmu, intOf]; omega
end Go.Proofs.Ybulkbzxq
