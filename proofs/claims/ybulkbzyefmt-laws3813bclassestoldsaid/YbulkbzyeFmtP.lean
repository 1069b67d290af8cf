import Derived.Test.YbulkbzyeFmtL
import Derived.Test.YbulkbzyeFmtCards
import Derived.Test.YbulkbzyeFmtTie
import Derived.ProofKit
import Derived.Stop.JoinedAt
import Derived.Stop.JoinedTold
import Derived.Stop.LaidErr
import Derived.Stop.LaidTwo
import Derived.LaidLaws
import Derived.LaidHandle
import Derived.SizedLaws
import Derived.SevenTiedAt
import Derived.OpenShut
import Derived.Deep.DeepWitnessRef
import Derived.Below
import Derived.LaidMore
namespace Go.Proofs.YbulkbzyeFmt
open Go.ChangeShapes Go.WideShapes Go.ChangeAt Go.RowKit Go.Kit
open Go.Extern.Stop Go.Stop Go.Extern
set_option linter.unusedVariables false

abbrev nE : String := "io.EOF"
abbrev nU : String := "io.ErrUnexpectedEOF"
abbrev nT : String := "example.com/rankd/rankd/server.errTruncated"
abbrev nH : String := "errors.errorType"
def laid4 : List (String × DataW Unit) := [(nH, Rows.laid_errors_errorType), (nE, Rows.laid_io_EOF), (nU, Rows.laid_io_ErrUnexpectedEOF), (nT, Rows.laid_example_com_rankd_rankd_server_errTruncated)]
theorem own : ownKnob Ybaf.prog.godebug = none := by kernel_rfl
theorem gE : Ybaf.prog.globalNamed nE = some 0 := by kernel_rfl
theorem gU : Ybaf.prog.globalNamed nU = some 1 := by kernel_rfl
theorem gT : Ybaf.prog.globalNamed nT = some 2 := by kernel_rfl
theorem gH : Ybaf.prog.globalNamed nH = some 3 := by kernel_rfl
theorem tE : (Ybaf.prog.globals[0]?).map (·.type) = some 23 := by kernel_rfl
theorem tU : (Ybaf.prog.globals[1]?).map (·.type) = some 23 := by kernel_rfl
theorem tT : (Ybaf.prog.globals[2]?).map (·.type) = some 23 := by kernel_rfl
theorem star : "*" ++ "errors.errorString" = "*errors.errorString" := by decide
theorem row78 (u : TypeId) (h : Ybaf.prog.typeName? 3 u = some "*errors.errorString") : u = 78 :=
  typeName_ptr_named (nm := "errors.errorString") (by rw [star]; kernel_rfl) (by kernel_rfl) (by decide) u (by rw [star]; exact h)
theorem rt : (Ybaf.prog.cutTypes.find? (·.1 == "internal/reflectlite.rtype")).map (·.2) = some 65 := by kernel_rfl
theorem oneRow : ((List.range 116).filter fun t => Ybaf.prog.rowNamed t [101, 114, 114, 111, 114]) = [23] := by kernel_rfl
theorem tsize : Ybaf.prog.types.size = 116 := by kernel_rfl
theorem hand23 : typeHandle Ybaf.prog 23 = .pointer (some ⟨4, 23, none⟩) := by kernel_rfl

/-- What the listed variables give the walks. -/
theorem of_laid {W : World} (h : laidMetH Ybaf.prog laid4 W) : ∃ p0 p1 pT, Vars W p0 p1 pT ∧ W.var? Ybaf.prog nT = some #[.iface 78 (.pointer (some pT))] := by
  have h' : laidMet Ybaf.prog [(nE, Rows.laid_io_EOF), (nU, Rows.laid_io_ErrUnexpectedEOF), (nT, Rows.laid_example_com_rankd_rankd_server_errTruncated)] W ∧ handlesMet Ybaf.prog [(nH, Rows.laid_errors_errorType)] W := h
  obtain ⟨name, u, ty, e1, e2, e3, e4, e5⟩ := h'.2 _ (List.mem_singleton.2 rfl)
  have en : name = [101, 114, 114, 111, 114] := (Option.some.inj e1).symm
  subst en
  obtain rfl := Option.some.inj (rt.symm.trans e2)
  have hm : ty ∈ (List.range 116).filter fun t => Ybaf.prog.rowNamed t [101, 114, 114, 111, 114] := List.mem_filter.2 ⟨List.mem_range.2 (by rw [← tsize]; exact e3), e4⟩
  rw [oneRow] at hm
  obtain rfl := List.mem_singleton.1 hm
  rw [hand23] at e5
  obtain ⟨a0, a1, s0, s1, c0, c1, t0, t1, hv0, hv1, hc0, hs0, hz0, hc1, hs1, hz1, hne, hb0, hb1⟩ := laid_sentinels2 h'.1 gE tE gU tU Ybaf.underlying23 row78 Ybaf.underlying78 Ybaf.underlying80 rfl rfl Ybaf.underlying9 (by kernel_rfl) (by kernel_rfl)
  obtain ⟨a1', aT, s1', sT, c1', cT, t1', tT', hv1', hvT, _, _, _, _, _, _, _, _, hbT⟩ := laid_sentinels2 h'.1.tail gU tU gT tT Ybaf.underlying23 row78 Ybaf.underlying78 Ybaf.underlying80 rfl rfl Ybaf.underlying9 (by kernel_rfl) (by kernel_rfl)
  exact ⟨a0, a1, aT, ⟨by simpa using World.var?_cell gE hv0 0, by simpa using World.var?_cell gU hv1 0, by simpa using World.var?_cell gT hvT 0, by simpa using World.var?_cell gH e5 0, ⟨_, _, hb0⟩, ⟨_, _, hb1⟩, ⟨_, _, hbT⟩, Ne.symm hne⟩, hvT⟩

theorem door_met (os : Os) (args : Array Value) : laidMetH Ybaf.prog laid4 ((World.doorLaid Ybaf.prog 73 os).forCall (fun _ _ => 0) ⟨#[], args, []⟩).memory :=
  laidMetH_of_parts3 (fuel := 8) (laidMet_of_run' 8 (by kernel_rfl) (by kernel_rfl)) (by kernel_rfl) (by kernel_rfl)

theorem var_later {W W' : World} {n : String} {g : Nat} {cs : Array Value} (h : Below W.heap.size W W') (hg : Ybaf.prog.globalNamed n = some g) (hgB : g < W.heap.size) (hv : W.var? Ybaf.prog n = some cs) : W'.var? Ybaf.prog n = some cs := by
  unfold World.var? at hv ⊢
  simp only [hg, Option.bind_some] at hv ⊢
  rw [h.block g hgB]
  exact hv

set_option maxRecDepth 100000 in
set_option maxHeartbeats 4000000 in
theorem lifted (os : Os) (started : os.Started) (H : Type) (enc : TypeId × Value → H) :
    ReturnsInTold none {} Ybaf.checked os 3 .any Input.okWide ((OpenSpec.ofChange Rows.lawS3813BClassesSpec).preRow enc Ybaf.prog Ybaf.f3 [] false laid4) (fun F => ((OpenSpec.ofChange Rows.lawS3813BClassesSpec).at F).post enc Ybaf.prog Ybaf.f3 false true false false) (aloneAtReturn Ybaf.prog) nothingAlways := by
  refine returnsInTold_of_row (C := Ybaf.checked) (s := OpenSpec.ofChange Rows.lawS3813BClassesSpec) (by kernel_rfl) own started (by kernel_rfl) Ybaf.func3
    (OpenSpec.witness_stopped_atRef (enc := enc) (C := Ybaf.checked) false (World.doorLaid Ybaf.prog 73 os) #[.int .u8 0, .int .i64 0, .int .i64 0, .bool false] rfl (by kernel_rfl) (by kernel_rfl) (by kernel_rfl)
      (OpenSpec.preRow_of_B rfl 8 (by kernel_rfl) (by kernel_rfl) (door_met os _))) ?_
  intro F W base args ds gs before _ hF hval0 hW _ _ hsz hL _
  have hval : ∀ (j : Nat) t v, Ybaf.f3.params[j]? = some t → args[j]? = some v → Value.okWide Ybaf.prog W .any base t v := hval0
  have hW' := hW
  obtain ⟨p, q, hA0, hV0, rfl, hfz, hnd⟩ := hW
  have hA : DataW.TrodAll enc Ybaf.prog W 0 (fun _ => true) true Ybaf.f3.params.toList args.toList ds p := hA0
  have hV : DataW.TrodVars enc Ybaf.prog W (fun _ => true) [nT] gs q := hV0
  rw [Ybaf.params3] at hA hval
  obtain ⟨v0, vs0, d0, ds0, q0, r0', hargs, rfl, rfl, h0, r0⟩ := trodAll_cons hA
  obtain ⟨v1, vs1, d1, ds1, q1, r1', rfl, rfl, rfl, h1, r1⟩ := trodAll_cons r0
  obtain ⟨v2, vs2, d2, ds2, q2, r2', rfl, rfl, rfl, h2, r2⟩ := trodAll_cons r1
  obtain ⟨v3, vs3, d3, ds3, q3, r3', rfl, rfl, rfl, h3, r3⟩ := trodAll_cons r2
  obtain ⟨rfl, rfl, rfl⟩ := trodAll_nil r3
  obtain rfl : args = #[v0, v1, v2, v3] := by cases args; simp_all
  obtain ⟨sel, rfl, rfl, rfl, w0⟩ := open_int Ybaf.underlying5 (hval 0 5 v0 rfl rfl) h0
  obtain ⟨code, rfl, rfl, rfl, w1⟩ := open_int Ybaf.underlying2 (hval 1 2 v1 rfl rfl) h1
  obtain ⟨off, rfl, rfl, rfl, w2⟩ := open_int Ybaf.underlying2 (hval 2 2 v2 rfl rfl) h2
  obtain ⟨wrap, rfl, rfl, rfl⟩ := open_bool Ybaf.underlying4 (hval 3 4 v3 rfl rfl) h3
  obtain ⟨p0, p1, pT, vars, hvT⟩ := of_laid hL
  have vr : ∀ {X : World}, X.var? Ybaf.prog nT = some #[.iface 78 (.pointer (some pT))] → ∀ sp : Nat → Bool, DataW.TrodVars enc Ybaf.prog X sp [nT] [tok enc (.iface 78 (.pointer (some pT)))] [.cell 2 0] :=
    fun x sp => vars_read1 enc gT tT Ybaf.underlying23 x trivial sp
  obtain ⟨rfl, rfl⟩ := hV.unique (vr hvT _)
  clear hA0 hV0 hval0
  have b0 := bounds_u8 w0
  have hlt : 2 < W.heap.size := by
    have := World.block_lt_of_cell? _ _ vars.g2
    simpa using this
  refine (classes_any F.told p0 p1 pT sel code off wrap W hF vars (by omega) (by omega)).mono fun e W' ⟨he, bel⟩ => ?_
  subst he
  exact ⟨_, rfl, _, _, _, [], _, _, hW', trodAll_mk1 (shut_bool Ybaf.underlying4 _), (trodAll_cons_mk (shut_int Ybaf.underlying5 w0) (trodAll_cons_mk (shut_int Ybaf.underlying2 w1) (trodAll_cons_mk (shut_int Ybaf.underlying2 w2) (trodAll_cons_mk (shut_bool Ybaf.underlying4 _) trodAll_mk0)))), vr (var_later bel gT hlt hvT) _, bel.frame _, fun h => by cases h⟩

theorem laidOut : laidOutB Ybaf.pinned.checked.prog = true := by kernel_rfl
theorem stops : Ybaf.pinned.checked.prog.stops = Rows.lawS3813BClassesRow.stops := by kernel_rfl
theorem stopKnobs : Ybaf.pinned.checked.prog.stopKnobs = [] := by kernel_rfl
theorem quietly (os : Os) : Stop.quiet Ybaf.pinned.checked.prog os := by
  intro k hk
  rw [stopKnobs] at hk
  cases hk

theorem classes_told : Rows.LawS3813BClassesToldSaid :=
  Claim7.holds_of_told_tied_any_at .later 3 Ybaf.f3 (Rows.lawS3813BClassesRow.stops.headD "") [] [] _ _ _ _ _ (by kernel_rfl) rfl rfl rfl laidOut (by kernel_rfl) rfl ⟨rfl, rfl, rfl, rfl, rfl, rfl, rfl⟩ rfl rfl (by kernel_rfl) (by kernel_rfl) Ybaf.func3 (by kernel_rfl)
    (of_decide_eq_true (by kernel_rfl)) (of_decide_eq_true (by kernel_rfl)) stops.symm rfl stopKnobs.symm (by kernel_rfl)
    (by kernel_rfl) (by kernel_rfl) (by kernel_rfl) (by kernel_rfl) (by kernel_rfl) (by kernel_rfl) (by kernel_rfl) (by kernel_rfl) (by kernel_rfl) rfl (by kernel_rfl) rfl rfl
    rfl rfl
    rfl (by kernel_rfl) (by kernel_rfl) (by kernel_rfl) (by decide) (by kernel_rfl) lawS3813BClasses_row_tie
    (OpenClaim.moreEntering_of (by kernel_rfl) (by kernel_rfl) (by kernel_rfl) (by kernel_rfl) (by kernel_rfl) (by kernel_rfl) (by kernel_rfl) (by kernel_rfl) (by kernel_rfl) (by kernel_rfl))
    ⟨_, WideRow.started_initial, quietly _⟩
    (fun os started _ H enc _ => lifted os started H enc)
end Go.Proofs.YbulkbzyeFmt
