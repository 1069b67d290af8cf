import Derived.Test.YbulkbzuyDoorExactW
import Derived.Test.YbulkbzuyDoorLaid
import Derived.Test.YbulkbzuyDoorTie
import Derived.Test.YbulkbzuyDoorCards
import Derived.SevenTiedAt
namespace Go.Proofs.YbulkbzuyDoor
open Go.ChangeShapes Go.WideShapes Go.ChangeAt Go.RowKit

theorem lawS3807CExact_walk (a0 a1 a2 a3 a4 a5 : Int) (w : World) (_ : (Lit.int .i64 a0).wf = true) (_ : (Lit.int .i64 a1).wf = true) (_ : (Lit.int .i64 a2).wf = true) (_ : (Lit.int .i64 a3).wf = true) (w4 : (Lit.int .u8 a4).wf = true) (_ : (Lit.int .i64 a5).wf = true) (ht : Tabs w) :
    Calls Ybad.prog 3 #[.int .i64 a0, .int .i64 a1, .int .i64 a2, .int .i64 a3, .int .u8 a4, .int .i64 a5] w fun r w' => r = .returned (.bool true) ∧ Below w.heap.size w w' := by
  have b := bounds_u8 w4
  have hc : a4 % 6 = 0 ∨ a4 % 6 = 1 ∨ a4 % 6 = 2 ∨ a4 % 6 = 3 ∨ a4 % 6 = 4 ∨ a4 % 6 = 5 := by omega
  rcases hc with h | h | h | h | h | h
  · exact exact_0 a0 a1 a2 a3 a4 a5 w b.1 b.2 h ht
  · exact exact_1 a0 a1 a2 a3 a4 a5 w b.1 b.2 h ht
  · exact exact_2 a0 a1 a2 a3 a4 a5 w b.1 b.2 h ht
  · exact exact_3 a0 a1 a2 a3 a4 a5 w b.1 b.2 h ht
  · exact exact_4 a0 a1 a2 a3 a4 a5 w b.1 b.2 h ht
  · exact exact_5 a0 a1 a2 a3 a4 a5 w b.1 b.2 h ht

set_option maxRecDepth 100000 in
theorem lawS3807CExact_lifted (os : Os) (started : os.Started) (H : Type) (enc : TypeId × Value → H) :
    ReturnsInHanded {} Ybad.checked os 3 .any (fun w args => (Rows.lawS3807CExactSpec.pre enc Ybad.prog Ybad.f3 [] false w args ∧ laidMetH Ybad.prog laid2 w) ∧ sizedMet enc Ybad.prog Ybad.f3 (OpenSpec.ofChange Rows.lawS3807CExactSpec) false w args)
      (Rows.lawS3807CExactSpec.post enc Ybad.prog Ybad.f3 false true false false) := by
  refine returnsInHanded_of_change_and (C := Ybad.checked) (X := fun w _ => laidMetH Ybad.prog laid2 w) (fun _ _ _ hh h => h.of_heap hh) own started (by kernel_rfl) Ybad.func3
    (ChangeSpec.witness_shaped (enc := enc) (C := Ybad.checked) (os := os) (X := fun w _ => laidMetH Ybad.prog laid2 w) false (World.doorLaid Ybad.prog 542 os) #[.int .i64 0, .int .i64 0, .int .i64 0, .int .i64 0, .int .u8 0, .int .i64 0] 8 rfl (World.shaped_of_RefB (by kernel_rfl) (by kernel_rfl)) (by kernel_rfl) (by kernel_rfl) (by kernel_rfl) (door_met os _)) ?_
  intro W base args ds gs before hval0 hW _ _ hL _
  have hval : ∀ (j : Nat) t v, Ybad.f3.params[j]? = some t → args[j]? = some v → Value.okWide Ybad.prog W .any base t v := hval0
  have hW' := hW
  obtain ⟨p, q, hA0, hV, rfl, hfz, hnd⟩ := hW
  have hA : DataW.TrodAll enc Ybad.prog W 0 (fun _ => true) true Ybad.f3.params.toList args.toList ds p := hA0
  rw [Ybad.params3] at hA hval
  obtain ⟨v0, vs0, d0, ds0, p0, q0, hargs, rfl, rfl, h0, r0⟩ := trodAll_cons hA
  obtain ⟨v1, vs1, d1, ds1, p1, q1, rfl, rfl, rfl, h1, r1⟩ := trodAll_cons r0
  obtain ⟨v2, vs2, d2, ds2, p2, q2, rfl, rfl, rfl, h2, r2⟩ := trodAll_cons r1
  obtain ⟨v3, vs3, d3, ds3, p3, q3, rfl, rfl, rfl, h3, r3⟩ := trodAll_cons r2
  obtain ⟨v4, vs4, d4, ds4, p4, q4, rfl, rfl, rfl, h4, r4⟩ := trodAll_cons r3
  obtain ⟨v5, vs5, d5, ds5, p5, q5, rfl, rfl, rfl, h5, r5⟩ := trodAll_cons r4
  obtain ⟨rfl, rfl, rfl⟩ := trodAll_nil r5
  obtain rfl : args = #[v0, v1, v2, v3, v4, v5] := by cases args; simp_all
  obtain ⟨a0, rfl, rfl, rfl, w0⟩ := open_int Ybad.underlying3 (hval 0 3 v0 rfl rfl) h0
  obtain ⟨a1, rfl, rfl, rfl, w1⟩ := open_int Ybad.underlying3 (hval 1 3 v1 rfl rfl) h1
  obtain ⟨a2, rfl, rfl, rfl, w2⟩ := open_int Ybad.underlying3 (hval 2 3 v2 rfl rfl) h2
  obtain ⟨a3, rfl, rfl, rfl, w3⟩ := open_int Ybad.underlying3 (hval 3 3 v3 rfl rfl) h3
  obtain ⟨a4, rfl, rfl, rfl, w4⟩ := open_int Ybad.underlying5 (hval 4 5 v4 rfl rfl) h4
  obtain ⟨a5, rfl, rfl, rfl, w5⟩ := open_int Ybad.underlying3 (hval 5 3 v5 rfl rfl) h5
  obtain ⟨x0, x1, rfl⟩ : ∃ x0 x1, gs = [x0, x1] := by
    obtain ⟨_, _, _, _, d0, _, _, _, _, _, d1, _, e, _⟩ := trodVars_two hV
    exact ⟨d0, d1, e⟩
  clear hA0 hval0
  refine (lawS3807CExact_walk a0 a1 a2 a3 a4 a5 W w0 w1 w2 w3 w4 w5 (of_laid hL)).mono fun e W' ⟨he, bel⟩ => ?_
  subst he
  exact ⟨_, rfl, _, _, _, [], [], q, hW', trodAll_mk1 (shut_bool Ybad.underlying4 _), (trodAll_cons_mk (shut_int Ybad.underlying3 w0) (trodAll_cons_mk (shut_int Ybad.underlying3 w1) (trodAll_cons_mk (shut_int Ybad.underlying3 w2) (trodAll_cons_mk (shut_int Ybad.underlying3 w3) (trodAll_cons_mk (shut_int Ybad.underlying5 w4) (trodAll_cons_mk (shut_int Ybad.underlying3 w5) trodAll_mk0)))))), Below.trodVars laidOut bel (by kernel_rfl) hV, bel.frame _, fun h => by cases h⟩

theorem lawS3807CExact_row : Rows.LawS3807CExactSaid :=
  OpenClaim.holds_of_wide 3 Ybad.f3 rfl rfl rfl rfl rfl rfl rfl ⟨rfl, rfl, rfl, rfl, rfl⟩ rfl rfl rfl rfl rfl (by kernel_rfl) Ybad.func3 (by kernel_rfl)
    (of_decide_eq_true (by kernel_rfl)) (by unfold Func.isWrapper; first | (rw [if_pos (by decide +kernel)]; kernel_rfl) | (rw [if_neg (by decide +kernel)]; exact ⟨rfl, rfl⟩))
    (fun os started H enc _ => lawS3807CExact_lifted os started H enc)

theorem lawS3807CExact_card : Rows.LawS3807CExactCardSaid :=
  Claim7.holds_tied_plain_at .later [] [.widerDeep, .called] true (true, "302a70b2b567cbf534b6247d3769e3699edb8f6b9b969cc7397db95b976b3b74") false
    lawS3807CExact_row (fun _ h => by cases h) (by kernel_rfl) (fun _ h => by cases h) lawS3807CExact_row_tie rfl ⟨rfl, rfl⟩ (by kernel_rfl) rfl
    (fun f fn hf hfn => by
      obtain rfl : f = 3 := Option.some.inj ((show Ybad.prog.funcNamed Rows.lawS3807CExactRow.func = some 3 by kernel_rfl).symm.trans hf) |>.symm
      obtain rfl : fn = Ybad.f3 := (Option.some.inj (Ybad.func3.symm.trans hfn)).symm
      exact ⟨by kernel_rfl, fun j t ht => by
        rw [Ybad.params3] at ht
        have hm : t ∈ [3, 3, 3, 3, 5, 3] := by simpa using Array.mem_of_getElem? ht
        have hall : ([3, 3, 3, 3, 5, 3].all fun u => !Ybad.prog.wantsStandIn u) = true := by kernel_rfl
        exact (show Ybad.prog.wantsStandIn t = false by simpa using List.all_eq_true.1 hall t hm)⟩)
    (by kernel_rfl)
end Go.Proofs.YbulkbzuyDoor
