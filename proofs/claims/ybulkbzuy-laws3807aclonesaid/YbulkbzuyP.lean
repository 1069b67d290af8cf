import Derived.Test.YbulkbzuyLaw1
import Derived.ProofKit
import Derived.OpenShut
import Derived.ChangeOld
import Derived.Deep.Slices
namespace Go.Proofs.Ybulkbzuy
open Go.ChangeShapes Go.WideShapes Go.ChangeAt Go.RowKit Go.Deep

theorem own : ownKnob Yba.prog.godebug = none := by kernel_rfl
theorem laidOut : laidOutB Yba.prog = true := by kernel_rfl

set_option maxHeartbeats 1000000 in
set_option maxRecDepth 100000 in
theorem law_long (a0 a1 a2 a3 a7 a8 : Int) (x4 x5 x6 : Option Addr) (n4 c4 n5 c5 n6 c6 : Nat) (w : World) (h : 1024 < n4 ∨ 1024 < n5 ∨ 1024 < n6) :
    Calls Yba.prog 3 #[.int .i64 a0, .int .i64 a1, .int .i64 a2, .int .i64 a3, .slice x4 n4 c4, .slice x5 n5 c5, .slice x6 n6 c6, .int .i64 a7, .int .u8 a8] w fun e w' => e = .returned (.bool true) ∧ Below w.heap.size w w' := by
  by_cases h4 : 1024 < n4
  · have t4 : decide (1024 < (n4 : Int)) = true := by simp; omega
    clear h h4
    go_enter Yba.func3, Yba.ntmps3
    go_wp2
    go_ret
    exact ⟨rfl, Below.refl _ _⟩
  · have t4 : decide (1024 < (n4 : Int)) = false := by simp; omega
    by_cases h5 : 1024 < n5
    · have t5 : decide (1024 < (n5 : Int)) = true := by simp; omega
      clear h h4 h5
      go_enter Yba.func3, Yba.ntmps3
      go_wp2
      go_ret
      exact ⟨rfl, Below.refl _ _⟩
    · have t5 : decide (1024 < (n5 : Int)) = false := by simp; omega
      have t6 : decide (1024 < (n6 : Int)) = true := by simp; omega
      clear h h4 h5
      go_enter Yba.func3, Yba.ntmps3
      go_wp2
      go_ret
      exact ⟨rfl, Below.refl _ _⟩

/-- What a slice that came in gives: its first 'n' cells. -/
theorem inrow_ints {w : World} {x : Addr} {n : Nat} {zs : List Int} (hn : n ≤ zs.length) (h : ∀ i, i < zs.length → w.cell? (x.add i) = some (.int .i64 (zs.getD i 0))) :
    InRow w (some x) n ((zs.take n).map (Value.int .i64)) := by
  refine ⟨by simp; omega, by simp, fun y hy j u hu => ?_, fun u hu => ?_⟩
  · obtain rfl := Option.some.inj hy
    have hj : j < n ∧ j < zs.length := by
      have := (List.getElem?_eq_some_iff.1 hu).1
      simp at this
      omega
    rw [h j hj.2]
    have e : ((zs.take n).map (Value.int .i64))[j]? = some (Value.int .i64 (zs.getD j 0)) := by simp [List.getD, hj.1, List.getElem?_eq_getElem hj.2]
    rw [e] at hu
    exact hu
  · obtain ⟨z, _, rfl⟩ := List.mem_map.1 hu
    rfl

theorem inrow_vals {w : World} {x : Addr} {n : Nat} {V : Nat → Value} (h : ∀ i, i < n → w.cell? (x.add i) = some (V i)) (h1 : ∀ i, i < n → (V i).oneCell' = true) :
    InRow w (some x) n ((List.range n).map V) := by
  refine ⟨by simp, by simp, fun y hy j u hu => ?_, fun u hu => ?_⟩
  · obtain rfl := Option.some.inj hy
    have hj : j < n := by
      have := (List.getElem?_eq_some_iff.1 hu).1
      simpa using this
    rw [h j hj]
    simpa [List.getElem?_range hj] using hu
  · obtain ⟨i, hi, rfl⟩ := List.mem_map.1 hu
    exact h1 i (List.mem_range.1 hi)

theorem float_one {H : Type} {enc : TypeId × Value → H} {w : World} {base fuel : Nat} {sp : Nat → Bool} {held : Bool} {v : Value} {x : DataW H × List MemPlace} (h : DataW.trod enc Yba.prog w base sp held fuel 27 [v] = some x) : v.oneCell' = true := by
  cases fuel with
  | zero => simp [DataW.trod] at h
  | succ m =>
    unfold DataW.trod at h
    rw [Yba.underlying27] at h
    cases v <;> first | rfl | simp at h

theorem walk (a0 a1 a2 a3 a7 a8 : Int) (x4 x5 x6 : Option Addr) (n4 c4 n5 c5 n6 c6 : Nat) (z4 z6 : List Int) (f5 : List Value) (w : World) (h8 : (Lit.int .u8 a8).wf = true)
    (r4 : InRow w x4 n4 (z4.map (Value.int .i64))) (r5 : InRow w x5 n5 f5) (r6 : InRow w x6 n6 (z6.map (Value.int .i64))) :
    Calls Yba.prog 3 #[.int .i64 a0, .int .i64 a1, .int .i64 a2, .int .i64 a3, .slice x4 n4 c4, .slice x5 n5 c5, .slice x6 n6 c6, .int .i64 a7, .int .u8 a8] w fun e w' => e = .returned (.bool true) ∧ Below w.heap.size w w' := by
  by_cases h : 1024 < n4 ∨ 1024 < n5 ∨ 1024 < n6
  · exact law_long a0 a1 a2 a3 a7 a8 x4 x5 x6 n4 c4 n5 c5 n6 c6 w h
  · have b := bounds_u8 h8
    exact law_main a0 a1 a2 a3 a7 a8 x4 x5 x6 n4 c4 n5 c5 n6 c6 z4 z6 f5 w b.1 b.2 (by omega) (by omega) (by omega) r4 r5 r6

set_option maxRecDepth 100000 in
theorem lifted (os : Os) (started : os.Started) (H : Type) (enc : TypeId × Value → H) :
    ReturnsInHanded {} Yba.checked os 3 .any (Rows.lawS3807ACloneSpec.pre6 enc Yba.prog Yba.f3 Rows.lawS3807ACloneRow.domain false) (Rows.lawS3807ACloneSpec.post enc Yba.prog Yba.f3 false true false false) := by
  refine returnsInHanded_of_change (C := Yba.checked) own started (by kernel_rfl) Yba.func3
    (ChangeSpec.witness6 (enc := enc) (C := Yba.checked) false ⟨#[], #[.int .i64 0, .int .i64 0, .int .i64 0, .int .i64 0, .slice none 0 0, .slice none 0 0, .slice none 0 0, .int .i64 0, .int .u8 0], []⟩ 8 (by kernel_rfl) (by kernel_rfl) (by kernel_rfl) (by kernel_rfl)) ?_
  intro W base args ds gs before hval0 hW hcnd _
  have hval : ∀ (j : Nat) t v, Yba.f3.params[j]? = some t → args[j]? = some v → Value.okWide Yba.prog W .any base t v := hval0
  have hW' := hW
  obtain ⟨p, q, hA0, hV, rfl, hfz, hnd⟩ := hW
  have hA : DataW.TrodAll enc Yba.prog W 0 (fun _ => true) true Yba.f3.params.toList args.toList ds p := hA0
  rw [Yba.params3] at hA hval
  obtain ⟨v0, vs0, d0, ds0, p0, q0, hargs, rfl, rfl, h0, r0⟩ := trodAll_cons hA
  obtain ⟨v1, vs1, d1, ds1, p1, q1, rfl, rfl, rfl, h1, r1⟩ := trodAll_cons r0
  obtain ⟨v2, vs2, d2, ds2, p2, q2, rfl, rfl, rfl, h2, r2⟩ := trodAll_cons r1
  obtain ⟨v3, vs3, d3, ds3, p3, q3, rfl, rfl, rfl, h3, r3⟩ := trodAll_cons r2
  obtain ⟨v4, vs4, d4, ds4, p4, q4, rfl, rfl, rfl, h4, r4⟩ := trodAll_cons r3
  obtain ⟨v5, vs5, d5, ds5, p5, q5, rfl, rfl, rfl, h5, r5⟩ := trodAll_cons r4
  obtain ⟨v6, vs6, d6, ds6, p6, q6, rfl, rfl, rfl, h6, r6⟩ := trodAll_cons r5
  obtain ⟨v7, vs7, d7, ds7, p7, q7, rfl, rfl, rfl, h7, r7⟩ := trodAll_cons r6
  obtain ⟨v8, vs8, d8, ds8, p8, q8, rfl, rfl, rfl, h8, r8⟩ := trodAll_cons r7
  obtain ⟨rfl, rfl, rfl⟩ := trodAll_nil r8
  obtain rfl : args = #[v0, v1, v2, v3, v4, v5, v6, v7, v8] := by cases args; simp_all
  obtain ⟨rfl, rfl⟩ := trodVars_none hV
  obtain ⟨a0, rfl, rfl, rfl, w0⟩ := open_int Yba.underlying3 (hval 0 3 v0 rfl rfl) h0
  obtain ⟨a1, rfl, rfl, rfl, w1⟩ := open_int Yba.underlying3 (hval 1 3 v1 rfl rfl) h1
  obtain ⟨a2, rfl, rfl, rfl, w2⟩ := open_int Yba.underlying3 (hval 2 3 v2 rfl rfl) h2
  obtain ⟨a3, rfl, rfl, rfl, w3⟩ := open_int Yba.underlying3 (hval 3 3 v3 rfl rfl) h3
  obtain ⟨a7, rfl, rfl, rfl, w7⟩ := open_int Yba.underlying2 (hval 7 2 v7 rfl rfl) h7
  obtain ⟨a8, rfl, rfl, rfl, w8⟩ := open_int Yba.underlying5 (hval 8 5 v8 rfl rfl) h8
  obtain ⟨x4, n4, c4, rfl⟩ := okWide_slice Yba.underlying22 (hval 4 22 v4 rfl rfl)
  obtain ⟨x5, n5, c5, rfl⟩ := okWide_slice Yba.underlying23 (hval 5 23 v5 rfl rfl)
  obtain ⟨x6, n6, c6, rfl⟩ := okWide_slice Yba.underlying24 (hval 6 24 v6 rfl rfl)
  have k4 := h4
  have k5 := h5
  have k6 := h6
  have lt4 : ∀ x ∈ p4, x.block < W.heap.size := by obtain ⟨m, hm⟩ := k4; exact DataW.trod_lt m _ _ _ hm
  have lt5 : ∀ x ∈ p5, x.block < W.heap.size := by obtain ⟨m, hm⟩ := k5; exact DataW.trod_lt m _ _ _ hm
  have lt6 : ∀ x ∈ p6, x.block < W.heap.size := by obtain ⟨m, hm⟩ := k6; exact DataW.trod_lt m _ _ _ hm
  obtain ⟨z4, i4⟩ : ∃ zs : List Int, InRow W x4 n4 (zs.map (Value.int .i64)) := by
    obtain ⟨fuel, hf⟩ := h4
    rcases open_ints Yba.underlying22 Yba.underlying2 (by kernel_rfl) hf with ⟨hcs, _⟩ | ⟨x, l, c, zs, hcs, _, hl, hm, hz, _, hcell, hwz⟩
    · simp [Value.cells] at hcs
      obtain ⟨rfl, rfl, rfl⟩ := hcs
      exact ⟨[], rfl, fun _ => rfl, fun _ h => by simp at h, fun _ h => by simp at h⟩
    · simp [Value.cells] at hcs
      obtain ⟨rfl, rfl, rfl⟩ := hcs
      exact ⟨_, inrow_ints (by simp at hz; omega) hcell⟩
  obtain ⟨z6, i6⟩ : ∃ zs : List Int, InRow W x6 n6 (zs.map (Value.int .i64)) := by
    obtain ⟨fuel, hf⟩ := h6
    rcases open_ints Yba.underlying24 Yba.underlying3 (by kernel_rfl) hf with ⟨hcs, _⟩ | ⟨x, l, c, zs, hcs, _, hl, hm, hz, _, hcell, hwz⟩
    · simp [Value.cells] at hcs
      obtain ⟨rfl, rfl, rfl⟩ := hcs
      exact ⟨[], rfl, fun _ => rfl, fun _ h => by simp at h, fun _ h => by simp at h⟩
    · simp [Value.cells] at hcs
      obtain ⟨rfl, rfl, rfl⟩ := hcs
      exact ⟨_, inrow_ints (by simp at hz; omega) hcell⟩
  obtain ⟨f5, i5⟩ : ∃ fs : List Value, InRow W x5 n5 fs := by
    obtain ⟨fuel, hf⟩ := h5
    rcases open_slice1 Yba.underlying23 (by kernel_rfl) hf with ⟨hcs, _⟩ | ⟨a, len, cap, m, n, V, D, Pl, hcs, _, hl, _, hm, _, hx⟩
    · simp [Value.cells] at hcs
      obtain ⟨rfl, rfl, rfl⟩ := hcs
      exact ⟨[], rfl, fun _ => rfl, fun _ h => by simp at h, fun _ h => by simp at h⟩
    · simp [Value.cells] at hcs
      obtain ⟨rfl, rfl, rfl⟩ := hcs
      simp at hm
      exact ⟨_, inrow_vals (V := V) (fun i hi => (hx i (by omega)).1) (fun i hi => float_one (hx i (by omega)).2)⟩
  clear hA0 hval0
  refine (walk a0 a1 a2 a3 a7 a8 x4 x5 x6 n4 c4 n5 c5 n6 c6 z4 z6 f5 W w8 i4 i5 i6).mono fun e W' ⟨he, bel⟩ => ?_
  subst he
  exact ⟨_, rfl, _, _, _, [], _, [], hW', trodAll_mk1 (shut_bool Yba.underlying4 _), (trodAll_cons_mk (shut_int Yba.underlying3 w0) (trodAll_cons_mk (shut_int Yba.underlying3 w1) (trodAll_cons_mk (shut_int Yba.underlying3 w2) (trodAll_cons_mk (shut_int Yba.underlying3 w3) (trodAll_cons_mk (Below.trod laidOut (by kernel_rfl) (of_decide_eq_true (by kernel_rfl)) k4 bel lt4) (trodAll_cons_mk (Below.trod laidOut (by kernel_rfl) (of_decide_eq_true (by kernel_rfl)) k5 bel lt5) (trodAll_cons_mk (Below.trod laidOut (by kernel_rfl) (of_decide_eq_true (by kernel_rfl)) k6 bel lt6) (trodAll_cons_mk (shut_int Yba.underlying2 w7) (trodAll_cons_mk (shut_int Yba.underlying5 w8) trodAll_mk0))))))))), rfl, bel.frame _, fun h => by cases h⟩

theorem clone_law : Rows.LawS3807ACloneSaid :=
  OpenClaim.holds_of_wide 3 Yba.f3 rfl rfl rfl rfl rfl rfl rfl ⟨rfl, rfl, rfl, rfl, rfl⟩ rfl rfl rfl rfl rfl (by kernel_rfl) Yba.func3 (by kernel_rfl)
    (of_decide_eq_true (by kernel_rfl)) (by unfold Func.isWrapper; first | (rw [if_pos (by decide +kernel)]; kernel_rfl) | (rw [if_neg (by decide +kernel)]; exact ⟨rfl, rfl⟩))
    (fun os started H enc _ => lifted os started H enc)
end Go.Proofs.Ybulkbzuy
