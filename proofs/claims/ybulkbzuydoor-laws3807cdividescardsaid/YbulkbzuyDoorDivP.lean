import Derived.Test.YbulkbzuyDoorDivW
import Derived.Test.YbulkbzuyDoorLaid
import Derived.Test.YbulkbzuyDoorTie
import Derived.Test.YbulkbzuyDoorCards
import Derived.SevenTiedAt
namespace Go.Proofs.YbulkbzuyDoor
open Go.ChangeShapes Go.WideShapes Go.ChangeAt Go.RowKit

theorem lawS3807CDivides_walk (a0 a1 a2 : Int) (w : World) (w0 : (Lit.int .u8 a0).wf = true) (w1 : (Lit.int .u8 a1).wf = true) (w2 : (Lit.int .u8 a2).wf = true) (ht : Tabs w) :
    Calls Ybad.prog 4 #[.int .u8 a0, .int .u8 a1, .int .u8 a2] w fun r w' => r = .returned (.bool true) ∧ Below w.heap.size w w' := by
  have b0 := bounds_u8 w0
  have b1 := bounds_u8 w1
  have b2 := bounds_u8 w2
  by_cases h : a0 % 6 ≤ a1 % 6
  · by_cases h2 : a1 % 6 ≤ 1
    · exact div_A_ym a0 a1 a2 w b0.1 b0.2 b1.1 b1.2 b2.1 b2.2 h h2 ht
    · by_cases h1 : a0 % 6 ≤ 1
      · exact div_A_mix a0 a1 a2 w b0.1 b0.2 b1.1 b1.2 b2.1 b2.2 h h1 (by omega)
      · exact div_A_dt a0 a1 a2 w b0.1 b0.2 b1.1 b1.2 b2.1 b2.2 h (by omega) ht
  · by_cases h2 : a0 % 6 ≤ 1
    · exact div_B_ym a0 a1 a2 w b0.1 b0.2 b1.1 b1.2 b2.1 b2.2 (by omega) h2 ht
    · by_cases h1 : a1 % 6 ≤ 1
      · exact div_B_mix a0 a1 a2 w b0.1 b0.2 b1.1 b1.2 b2.1 b2.2 (by omega) h1 (by omega)
      · exact div_B_dt a0 a1 a2 w b0.1 b0.2 b1.1 b1.2 b2.1 b2.2 (by omega) (by omega) ht

set_option maxRecDepth 100000 in
theorem lawS3807CDivides_lifted (os : Os) (started : os.Started) (H : Type) (enc : TypeId × Value → H) :
    ReturnsInHanded {} Ybad.checked os 4 .any (fun w args => (Rows.lawS3807CDividesSpec.pre enc Ybad.prog Ybad.f4 [] false w args ∧ laidMetH Ybad.prog laid2 w) ∧ sizedMet enc Ybad.prog Ybad.f4 (OpenSpec.ofChange Rows.lawS3807CDividesSpec) false w args)
      (Rows.lawS3807CDividesSpec.post enc Ybad.prog Ybad.f4 false true false false) := by
  refine returnsInHanded_of_change_and (C := Ybad.checked) (X := fun w _ => laidMetH Ybad.prog laid2 w) (fun _ _ _ hh h => h.of_heap hh) own started (by kernel_rfl) Ybad.func4
    (ChangeSpec.witness_shaped (enc := enc) (C := Ybad.checked) (os := os) (X := fun w _ => laidMetH Ybad.prog laid2 w) false (World.doorLaid Ybad.prog 542 os) #[.int .u8 0, .int .u8 0, .int .u8 0] 8 rfl (World.shaped_of_RefB (by kernel_rfl) (by kernel_rfl)) (by kernel_rfl) (by kernel_rfl) (by kernel_rfl) (door_met os _)) ?_
  intro W base args ds gs before hval0 hW _ _ hL _
  have hval : ∀ (j : Nat) t v, Ybad.f4.params[j]? = some t → args[j]? = some v → Value.okWide Ybad.prog W .any base t v := hval0
  have hW' := hW
  obtain ⟨p, q, hA0, hV, rfl, hfz, hnd⟩ := hW
  have hA : DataW.TrodAll enc Ybad.prog W 0 (fun _ => true) true Ybad.f4.params.toList args.toList ds p := hA0
  rw [Ybad.params4] at hA hval
  obtain ⟨v0, vs0, d0, ds0, p0, q0, hargs, rfl, rfl, h0, r0⟩ := trodAll_cons hA
  obtain ⟨v1, vs1, d1, ds1, p1, q1, rfl, rfl, rfl, h1, r1⟩ := trodAll_cons r0
  obtain ⟨v2, vs2, d2, ds2, p2, q2, rfl, rfl, rfl, h2, r2⟩ := trodAll_cons r1
  obtain ⟨rfl, rfl, rfl⟩ := trodAll_nil r2
  obtain rfl : args = #[v0, v1, v2] := by cases args; simp_all
  obtain ⟨a0, rfl, rfl, rfl, w0⟩ := open_int Ybad.underlying5 (hval 0 5 v0 rfl rfl) h0
  obtain ⟨a1, rfl, rfl, rfl, w1⟩ := open_int Ybad.underlying5 (hval 1 5 v1 rfl rfl) h1
  obtain ⟨a2, rfl, rfl, rfl, w2⟩ := open_int Ybad.underlying5 (hval 2 5 v2 rfl rfl) h2
  obtain ⟨x0, x1, rfl⟩ : ∃ x0 x1, gs = [x0, x1] := by
    obtain ⟨_, _, _, _, d0, _, _, _, _, _, d1, _, e, _⟩ := trodVars_two hV
    exact ⟨d0, d1, e⟩
  clear hA0 hval0
  refine (lawS3807CDivides_walk a0 a1 a2 W w0 w1 w2 (of_laid hL)).mono fun e W' ⟨he, bel⟩ => ?_
  subst he
  exact ⟨_, rfl, _, _, _, [], [], q, hW', trodAll_mk1 (shut_bool Ybad.underlying4 _), (trodAll_cons_mk (shut_int Ybad.underlying5 w0) (trodAll_cons_mk (shut_int Ybad.underlying5 w1) (trodAll_cons_mk (shut_int Ybad.underlying5 w2) trodAll_mk0))), Below.trodVars laidOut bel (by kernel_rfl) hV, bel.frame _, fun h => by cases h⟩

theorem lawS3807CDivides_row : Rows.LawS3807CDividesSaid :=
  OpenClaim.holds_of_wide 4 Ybad.f4 rfl rfl rfl rfl rfl rfl rfl ⟨rfl, rfl, rfl, rfl, rfl⟩ rfl rfl rfl rfl rfl (by kernel_rfl) Ybad.func4 (by kernel_rfl)
    (of_decide_eq_true (by kernel_rfl)) (by unfold Func.isWrapper; first | (rw [if_pos (by decide +kernel)]; kernel_rfl) | (rw [if_neg (by decide +kernel)]; exact ⟨rfl, rfl⟩))
    (fun os started H enc _ => lawS3807CDivides_lifted os started H enc)

theorem lawS3807CDivides_card : Rows.LawS3807CDividesCardSaid :=
  Claim7.holds_tied_plain_at .later [] [.widerDeep, .called] true (true, "302a70b2b567cbf534b6247d3769e3699edb8f6b9b969cc7397db95b976b3b74") false
    lawS3807CDivides_row (fun _ h => by cases h) (by kernel_rfl) (fun _ h => by cases h) lawS3807CDivides_row_tie rfl ⟨rfl, rfl⟩ (by kernel_rfl) rfl
    (fun f fn hf hfn => by
      obtain rfl : f = 4 := Option.some.inj ((show Ybad.prog.funcNamed Rows.lawS3807CDividesRow.func = some 4 by kernel_rfl).symm.trans hf) |>.symm
      obtain rfl : fn = Ybad.f4 := (Option.some.inj (Ybad.func4.symm.trans hfn)).symm
      exact ⟨by kernel_rfl, fun j t ht => by
        rw [Ybad.params4] at ht
        have hm : t ∈ [5, 5, 5] := by simpa using Array.mem_of_getElem? ht
        have hall : ([5, 5, 5].all fun u => !Ybad.prog.wantsStandIn u) = true := by kernel_rfl
        exact (show Ybad.prog.wantsStandIn t = false by simpa using List.all_eq_true.1 hall t hm)⟩)
    (by kernel_rfl)
end Go.Proofs.YbulkbzuyDoor
