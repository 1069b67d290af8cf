import Derived.Test.YbulkbzuyDoorUnit
import Derived.ProofKit
import Derived.LaidMore
import Derived.OpenShut
import Derived.OpenVars
import Derived.Stop.Joined
namespace Go.Proofs.YbulkbzuyDoor
open Go.ChangeShapes Go.WideShapes Go.ChangeAt Go.RowKit

theorem own : ownKnob Ybad.prog.godebug = none := by kernel_rfl
theorem laidOut : laidOutB Ybad.prog = true := by kernel_rfl
/-- the two variables' names, off the row. -/
def nPow : String := Rows.lawS3807CExactSpec.vars.getD 0 ""
def nFacts : String := Rows.lawS3807CExactSpec.vars.getD 1 ""
theorem gPow : Ybad.prog.globalNamed nPow = some 0 := by kernel_rfl
theorem gFacts : Ybad.prog.globalNamed nFacts = some 1 := by kernel_rfl
theorem tPow : (Ybad.prog.globals[0]?).map (·.type) = some 34 := by kernel_rfl
theorem tFacts : (Ybad.prog.globals[1]?).map (·.type) = some 36 := by kernel_rfl
theorem c28 : Ybad.prog.cellsOf 28 = 1 := by kernel_rfl
theorem c34 : Ybad.prog.cellsOf 34 = 19 := by kernel_rfl
theorem c35 : Ybad.prog.cellsOf 35 = 8 := by kernel_rfl
theorem c3 : Ybad.prog.cellsOf 3 = 1 := by kernel_rfl

/-- the rows' list of variables with what they hold. -/
def laid2 : List (String × DataW Unit) := Rows.lawS3807CExactRow.laid

theorem door_met (os : Os) (args : Array Value) : laidMetH Ybad.prog laid2 ((World.doorLaid Ybad.prog 542 os).forCall (fun _ _ => 0) ⟨#[], args, []⟩).memory :=
  laidMetH_of_parts3 (fuel := 8) (laidMet_of_run' 8 (by kernel_rfl) (by kernel_rfl)) (by kernel_rfl) (by kernel_rfl)

section
variable {H : Type} {enc : TypeId × Value → H} {P : Program} {w : World} {base : Nat} {spare : Nat → Bool} {held : Bool} {fuel : Nat} {t : TypeId} {cs : List Value} {p : List MemPlace}

/-- An array that reads as the list ds: its i-th element reads as the i-th. -/
theorem arr_at {n : Nat} {e : TypeId} {ds : List (DataW H)} (ht : P.underlying t = some (.array n e)) (h : DataW.trod enc P w base spare held fuel t cs = some (.agg ds, p)) (i : Nat) (d : DataW H) (hd : ds[i]? = some d) :
    ∃ m q, DataW.trod enc P w base spare held m e ((cs.drop (i * P.cellsOf e)).take (P.cellsOf e)) = some (d, q) := by
  obtain ⟨xs, m, rfl, hx, _, hn, hel⟩ := DataW.trod_array ht h
  simp only [Prod.mk.injEq, DataW.agg.injEq] at hx
  rw [hx.1, List.getElem?_map, Option.map_eq_some_iff] at hd
  obtain ⟨x, hx1, rfl⟩ := hd
  have hi : i < n := by rw [← hn]; exact (List.getElem?_eq_some_iff.1 hx1).1
  exact ⟨m, x.2, by rw [hel i hi, hx1]⟩

theorem str_at {fs : Array Field} {ds : List (DataW H)} (ht : P.underlying t = some (.struct fs)) (h : DataW.trod enc P w base spare held fuel t cs = some (.agg ds, p)) (i ty off : Nat) (hf : (fs[i]?).map (fun f => (f.type, f.offset)) = some (ty, off)) (d : DataW H) (hd : ds[i]? = some d) :
    ∃ m q, DataW.trod enc P w base spare held m ty ((cs.drop off).take (P.cellsOf ty)) = some (d, q) := by
  obtain ⟨xs, m, rfl, hx, _, hn, hel⟩ := DataW.trod_struct ht h
  simp only [Prod.mk.injEq, DataW.agg.injEq] at hx
  rw [hx.1, List.getElem?_map, Option.map_eq_some_iff] at hd
  obtain ⟨x, hx1, rfl⟩ := hd
  obtain ⟨f, hf1, hf2⟩ := Option.map_eq_some_iff.1 hf
  obtain ⟨rfl, rfl⟩ := Prod.mk.inj hf2
  exact ⟨m, x.2, by rw [hel i f hf1, hx1]⟩

theorem int_at {k : IntKind} {z : Int} (ht : P.underlying t = some (.int k)) (h : DataW.trod enc P w base spare held fuel t cs = some (.lit (.int k z), p)) : cs = [.int k z] := by
  obtain ⟨y, e1, e2, _⟩ := DataW.trod_int ht h
  simp at e2
  rw [e1, e2.1]
end

/-- the listed data, element by element. -/
theorem powDat : ∃ ds, Rows.laid_example_com_scalewright_scalewright_pow10 (H := Unit) = .agg ds ∧ ∀ k, k < 19 → ds[k]? = some (.lit (.int .u64 (powR k))) :=
  ⟨_, rfl, fun k hk => by
    have : k = 0 ∨ k = 1 ∨ k = 2 ∨ k = 3 ∨ k = 4 ∨ k = 5 ∨ k = 6 ∨ k = 7 ∨ k = 8 ∨ k = 9 ∨ k = 10 ∨ k = 11 ∨ k = 12 ∨ k = 13 ∨ k = 14 ∨ k = 15 ∨ k = 16 ∨ k = 17 ∨ k = 18 := by omega
    rcases this with rfl | rfl | rfl | rfl | rfl | rfl | rfl | rfl | rfl | rfl | rfl | rfl | rfl | rfl | rfl | rfl | rfl | rfl | rfl <;> rfl⟩

theorem perDat : ∀ f : Fin 6, 1 ≤ f.val → ∃ ds es, Rows.laid_example_com_scalewright_scalewright_fieldFacts (H := Unit) = .agg ds ∧ ds[f.val]? = some (.agg es) ∧ es[7]? = some (.lit (.int .i64 (perF f.val))) := fun f _ =>
  match f with
  | 0 => by contradiction
  | 1 => ⟨_, _, rfl, rfl, rfl⟩
  | 2 => ⟨_, _, rfl, rfl, rfl⟩
  | 3 => ⟨_, _, rfl, rfl, rfl⟩
  | 4 => ⟨_, _, rfl, rfl, rfl⟩
  | 5 => ⟨_, _, rfl, rfl, rfl⟩

theorem of_laid {W : World} (h : laidMetH Ybad.prog laid2 W) : Tabs W := by
  rw [MakeChecks.laidMetH_plain _ _ _ (by kernel_rfl)] at h
  have h : laidMet Ybad.prog [(nFacts, Rows.laid_example_com_scalewright_scalewright_fieldFacts), (nPow, Rows.laid_example_com_scalewright_scalewright_pow10)] W := h
  obtain ⟨ps, ⟨g0, t0, cs0, f0, p0, q0, hg0, ht0, hv0, hd0, ⟨g1, t1, cs1, f1, p1, q1, hg1, ht1, hv1, hd1, _, _⟩, _⟩, _, _⟩ := h
  obtain rfl := Option.some.inj (gFacts.symm.trans hg0)
  obtain rfl := Option.some.inj (gPow.symm.trans hg1)
  obtain rfl := Option.some.inj (tFacts.symm.trans ht0)
  obtain rfl := Option.some.inj (tPow.symm.trans ht1)
  refine ⟨fun k hk => ?_, fun f h1 h6 => ?_⟩
  · obtain ⟨ds, e1, e2⟩ := powDat
    rw [e1] at hd1
    obtain ⟨m, q, hm⟩ := arr_at Ybad.underlying34 hd1 k _ (e2 k hk)
    rw [c28] at hm
    have hc := int_at Ybad.underlying28 hm
    rw [World.var?_cell hg1 hv1 k]
    have := congrArg (·[0]?) hc
    simpa [List.getElem?_take, List.getElem?_drop] using this
  · obtain ⟨ds, es, e1, e2, e3⟩ := perDat ⟨f, h6⟩ h1
    rw [e1] at hd0
    obtain ⟨m, q, hm⟩ := arr_at Ybad.underlying36 hd0 f _ e2
    rw [c35] at hm
    obtain ⟨m2, q2, hm2⟩ := str_at Ybad.underlying35 hm 7 3 7 rfl _ e3
    rw [c3] at hm2
    have hc := int_at Ybad.underlying3 hm2
    rw [World.var?_cell hg0 hv0]
    have := congrArg (·[0]?) hc
    simpa [List.getElem?_take, List.getElem?_drop] using this
end Go.Proofs.YbulkbzuyDoor
