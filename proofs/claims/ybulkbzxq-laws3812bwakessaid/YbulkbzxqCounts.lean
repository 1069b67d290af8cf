import Derived.Test.YbulkbzxqTly
import Derived.Conc.LoneSelectN
namespace Go.Proofs.Ybulkbzxq
open Go.RowKit Go.Conc Go.MuLone
set_option linter.unusedVariables false

theorem mk1 (w : World) : (Instr.makeChan 25 (.int .i64 1)).run Yba.prog w = .ok (.chan (some w.heap.size)) (w.alloc (.chan 1 #[] false 0 0 false)) := by
  have h : (Yba.prog.info? 26).map (·.bytes) = some 0 := by kernel_rfl
  obtain ⟨i, hi, hb⟩ := Option.map_eq_some_iff.1 h
  simpa using run_makeChan (P := Yba.prog) (w := w) Yba.underlying25 hi .i64 1 (by omega) (by rw [hb]; omega)

/-- the latest value behind k adds. -/
def lat (zs : List Int) (k : Nat) : Int := if k = 0 then 0 else zs.getD (k - 1) 0
theorem lat_succ (zs : List Int) (k : Nat) : lat zs (k + 1) = zs.getD k 0 := by simp [lat]

theorem wrap_step (a : Int) (k : Nat) : IntKind.u64.wrap (IntKind.u64.wrap (a + (k : Int)) + 1) = IntKind.u64.wrap (a + ((k + 1 : Nat) : Int)) := by
  simp [IntKind.wrap, IntKind.signed, IntKind.bits]; omega

/-- The code behind the n-th statement. -/
def rights : Nat → Code → Code
  | 0, c => c
  | n + 1, .seq _ b => rights n b
  | _, c => c
def lawBody (f : Func) : Code := (f.body).getD .skip

/-- len of the tally's channel. -/
theorem len_wake {w : World} {b c : Nat} {t : TypeId} {n : Int} {l : Value} {full : Bool} (h : Tly w b c t n l full) :
    (Builtin.len_ #[25] 3 #[.chan (some c)]).run Yba.prog w = .ok (.int .i64 (if full then 1 else 0)) w := by
  obtain ⟨s, r, hc⟩ := h.chan
  rw [run_len_chan 25 3 Yba.underlying25 hc]
  cases full <;> rfl

/-- What is known of the slice that came in. -/
def RowOf (w : World) (a : Option Addr) (n : Nat) (zs : List Int) : Prop :=
  n = 0 ∨ ∃ b off, a = some ⟨b, off, none⟩ ∧ ∀ j, j < n → w.cell? ⟨b, off + j, none⟩ = some (.int .i64 (zs.getD j 0))

set_option maxHeartbeats 4000000 in
set_option maxRecDepth 1000000 in
theorem ctail (a0 : Int) (a1 : Option Addr) (n c1 tb tc : Nat) (pre : Bool) (zs : List Int) (w w2 : World) (u8 u9 u10 u11 u12 u13 u14 u15 u16 u17 u18 u19 u20 u21 u22 u23 u24 u25 u26 u27 u28 u29 u30 u31 u32 u33 u34 u35 u36 u37 u38 u39 u40 u41 u42 u43 u44 u45 u46 u47 u48 u49 u50 u51 u52 u53 u54 u55 u56 u57 u58 u59 u60 u61 u62 u63 u64 u65 u66 u67 u68 u69 u70 u71 : Value) (hn : n ≤ 1024) (hT : Tly w2 tb tc 34 (IntKind.u64.wrap (a0 + ((0 : Nat) : Int))) (.int .i64 (lat zs 0)) pre)
    (hb : w.heap.size ≤ tb) (hc : w.heap.size ≤ tc) (hbel : Below w.heap.size w w2) (hr : RowOf w a1 n zs) :
    Code.wp Yba.prog (rights 4 (lawBody Yba.f3)) (bodyPost Yba.prog Yba.f3 fun e w' => e = .returned (.bool true) ∧ Below w.heap.size w w') ⟨List.toArray (.int .u64 a0 :: .slice a1 n c1 :: .bool pre :: undef :: undef :: undef :: .bool false :: .pointer (some ⟨tb, 0, none⟩) :: u8 :: u9 :: u10 :: u11 :: u12 :: u13 :: u14 :: u15 :: u16 :: u17 :: u18 :: u19 :: u20 :: u21 :: u22 :: u23 :: u24 :: u25 :: u26 :: u27 :: u28 :: u29 :: u30 :: u31 :: u32 :: u33 :: u34 :: u35 :: u36 :: u37 :: u38 :: u39 :: u40 :: u41 :: u42 :: u43 :: u44 :: u45 :: u46 :: u47 :: u48 :: u49 :: u50 :: u51 :: u52 :: u53 :: u54 :: u55 :: u56 :: u57 :: u58 :: u59 :: u60 :: u61 :: u62 :: u63 :: u64 :: u65 :: u66 :: u67 :: u68 :: u69 :: u70 :: u71 :: []), []⟩ w2 := by
  conv => arg 2; whnf
  go_wp2_with fail
  go_loopw [8] (fun i wr => ∃ k : Nat, k ≤ n ∧ i = .int .i64 k ∧ Tly wr tb tc 34 (IntKind.u64.wrap (a0 + (k : Int))) (.int .i64 (lat zs k)) (pre || decide (0 < k)) ∧ Below w.heap.size w wr) (fun i _ => n - (intOf i).toNat)
  case atStart => exact ⟨0, Nat.zero_le _, rfl, by simpa using hT, hbel⟩
  case round =>
    obtain ⟨k, hk, rfl, hTk, hbk⟩ := hrel
    have HT : Hid (Tly wr tb tc 34 (IntKind.u64.wrap (a0 + (k : Int))) (.int .i64 (lat zs k)) (pre || decide (0 < k))) := hTk
    by_cases hlt : k < n
    · obtain ⟨b, off, rfl, hcell⟩ := hr.resolve_left (by omega)
      have hck := cell_later hbk (hcell k hlt)
      clear hTk hT hcell
      go_wp2_with fail
      refine (add5_any w.heap.size tb tc _ _ _ _ _ HT.out hb hc).mono ?_
      rintro e w3 ⟨rfl, hT3, hb3, hs3⟩
      have hT4 : Tly w3 tb tc 34 (IntKind.u64.wrap (a0 + ((k + 1 : Nat) : Int))) (.int .i64 (lat zs (k + 1))) true := by rw [← wrap_step, lat_succ]; simpa [List.getD] using hT3
      have HT3 : Hid (Tly w3 tb tc 34 (IntKind.u64.wrap (a0 + ((k + 1 : Nat) : Int))) (.int .i64 (lat zs (k + 1))) true) := hT4
      clear hT3 hT4
      go_wp2_with fail
      go_roundw
      case rel => exact ⟨k + 1, by omega, by go_num, by simpa using HT3.out, hbk.trans hb3⟩
      case measure => simp [intOf]; omega
    · have hkn : k = n := by omega
      subst hkn
      clear hT hTk hlt hk
      go_wp2_with fail
      refine (cnt6_any w.heap.size tb tc _ _ _ _ HT.out hb).mono ?_
      rintro e w3 ⟨rfl, hT3, hb3, hs3⟩
      obtain ⟨h0, h2, h3, h4, hf⟩ := hT3.cell
      have hlen := len_wake hT3
      have hb4 : Below w.heap.size w w3 := hbk.trans hb3
      by_cases h0k : k = 0
      · subst h0k
        simp only [lat, if_true] at h3
        clear hT3 HT hr
        cases pre with
        | true =>
          simp only [Bool.true_or, if_true] at hlen
          go_wp2_with fail
          go_ret
          exact ⟨rfl, hb4⟩
        | false =>
          simp only [Nat.lt_irrefl, decide_false, Bool.or_false, Bool.false_eq_true, if_false] at hlen
          go_wp2_with fail
          go_ret
          exact ⟨rfl, hb4⟩
      · have hd : decide ((0 : Int) < (k : Int)) = true := by simp; omega
        have hd2 : 0 < k := by omega
        obtain ⟨b, off, rfl, hcell⟩ := hr.resolve_left h0k
        have hck := cell_later hb4 (hcell (k - 1) (by omega))
        have hl : (lat zs k != zs[k - 1]?.getD 0) = false := by simp [lat, h0k, List.getD]
        simp only [hd2, decide_true, Bool.or_true, if_true] at hlen
        clear hcell hT3 HT hr
        cases pre with
        | true =>
          go_wp2_with fail
          go_ret
          exact ⟨rfl, hb4⟩
        | false =>
          go_wp2_with fail
          go_ret
          exact ⟨rfl, hb4⟩
end Go.Proofs.Ybulkbzxq
