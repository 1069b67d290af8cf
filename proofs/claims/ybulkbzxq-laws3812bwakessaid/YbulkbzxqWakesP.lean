import Derived.Test.YbulkbzxqWakes3
import Derived.Deep.SlicePairs
import Derived.WalkKit
import Derived.ProofKit
import Derived.OpenShut
import Derived.ShutString
import Derived.ChangeOld
import Derived.Below
namespace Go.Proofs.Ybulkbzxq.lawS3812BWakes
open Go.ChangeShapes Go.WideShapes Go.ChangeAt Go.RowKit
open Go.ChangeMaps (open_string shut_string)
set_option linter.unusedVariables false

theorem own : ownKnob Yba.prog.godebug = none := by kernel_rfl
theorem laidOut : laidOutB Yba.prog = true := by kernel_rfl

theorem walk (a0 : Option Addr) (n c0 : Nat) (V : Nat → ByteArray) (D : Nat → Bool) (w : World) (hr : Ybulkbzxq.StepsOf w a0 n V D) :
    Calls Yba.prog 4 #[.slice a0 n c0] w fun e w' => e = .returned (.bool true) ∧ Below w.heap.size w w' := by
  by_cases hn : 1024 < n
  · exact Ybulkbzxq.wakes_long a0 n c0 w hn
  · exact Ybulkbzxq.wakes_short a0 n c0 V D w (by omega) hr

/-- A slice of steps that came in: what the walk is told of it. -/
theorem steps_of {H : Type} {enc : TypeId × Value → H} {w : World} {spare : Nat → Bool} {held : Bool} {fuel : Nat} {a0 : Option Addr} {len cap : Nat} {x : DataW H × List MemPlace}
    (h : DataW.trod enc Yba.prog w 0 spare held fuel 38 [.slice a0 len cap] = some x) : ∃ V D, Ybulkbzxq.StepsOf w a0 len V D := by
  rcases Go.Deep.open_slice_pairs Yba.underlying38 Yba.underlying42 (by kernel_rfl) (by kernel_rfl) (by kernel_rfl) (by kernel_rfl) (by kernel_rfl) h with ⟨hcs, _⟩ | ⟨a, l, c, m, k, V0, V1, D0, D1, P0, P1, hcs, _, hl, _, hm, _, hx⟩
  · simp at hcs
    exact ⟨fun _ => ByteArray.empty, fun _ => false, .inl hcs.2.1⟩
  · simp at hcs
    obtain ⟨rfl, rfl, rfl⟩ := hcs
    have hlm : len ≤ m := by rw [hm]; split <;> omega
    obtain ⟨V, hV⟩ := Go.Deep.choose_lt (α := ByteArray) (n := len) (p := fun i s => w.cell? (a.add (i * 2)) = some (.string s)) fun i hi => by
      obtain ⟨c0, _, t0, _⟩ := hx i (by omega)
      obtain ⟨s, hs, _⟩ := DataW.trod_string Yba.underlying9 t0
      simp at hs
      exact ⟨s, by rw [c0, hs]⟩
    obtain ⟨D, hD⟩ := Go.Deep.choose_lt (α := Bool) (n := len) (p := fun i b => w.cell? (a.add (i * 2 + 1)) = some (.bool b)) fun i hi => by
      obtain ⟨_, c1, _, t1⟩ := hx i (by omega)
      obtain ⟨b, hb, _⟩ := DataW.trod_bool Yba.underlying4 t1
      simp at hb
      exact ⟨b, by rw [c1, hb]⟩
    refine ⟨V, D, ?_⟩
    by_cases h0 : len = 0
    · exact .inl h0
    · obtain ⟨b, off, spot⟩ := a
      have hspot : spot = none := by simpa [Addr.add] using World.cell?_spot (hV 0 (by omega))
      subst hspot
      exact .inr ⟨b, off, rfl, fun j hj => ⟨by have := hV j hj; rwa [Go.WideShapes.add_plain] at this, by have := hD j hj; rwa [Go.WideShapes.add_plain, ← Nat.add_assoc] at this⟩⟩

set_option maxRecDepth 100000 in
theorem lifted (os : Os) (started : os.Started) (H : Type) (enc : TypeId × Value → H) :
    ReturnsInHanded {} Yba.checked os 4 .any (Rows.lawS3812BWakesSpec.pre6 enc Yba.prog Yba.f4 Rows.lawS3812BWakesRow.domain false) (Rows.lawS3812BWakesSpec.post enc Yba.prog Yba.f4 false true false false) := by
  refine returnsInHanded_of_change (C := Yba.checked) own started (by kernel_rfl) Yba.func4
    (ChangeSpec.witness6 (enc := enc) (C := Yba.checked) false ⟨#[], #[.slice none 0 0], []⟩ 8 (by kernel_rfl) (by kernel_rfl) (by kernel_rfl) (by kernel_rfl)) ?_
  intro W base args ds gs before hval0 hW hcnd _
  have hval : ∀ (j : Nat) t v, Yba.f4.params[j]? = some t → args[j]? = some v → Value.okWide Yba.prog W .any base t v := hval0
  have hW' := hW
  obtain ⟨p, q, hA0, hV, rfl, hfz, hnd⟩ := hW
  have hA : DataW.TrodAll enc Yba.prog W 0 (fun _ => true) true Yba.f4.params.toList args.toList ds p := hA0
  rw [Yba.params4] at hA hval
  obtain ⟨v0, vs0, d0, ds0, p0, q0, hargs, rfl, rfl, h0, r0⟩ := trodAll_cons hA
  obtain ⟨rfl, rfl, rfl⟩ := trodAll_nil r0
  obtain rfl : args = #[v0] := by cases args; simp_all
  obtain ⟨rfl, rfl⟩ := trodVars_none hV
  obtain ⟨a0, len0, cap0, rfl⟩ := okWide_slice Yba.underlying38 (hval 0 38 v0 rfl rfl)
  have k0 := h0
  have lt0 : ∀ x ∈ p0, x.block < W.heap.size := by obtain ⟨m, hm⟩ := k0; exact DataW.trod_lt m _ _ _ hm
  obtain ⟨V, D, w0⟩ : ∃ V D, Ybulkbzxq.StepsOf W a0 len0 V D := by
    obtain ⟨fuel, hf⟩ := h0
    exact steps_of hf
  clear hA0 hval0
  refine (walk a0 len0 cap0 V D W w0).mono fun e W' ⟨he, bel⟩ => ?_
  subst he
  exact ⟨_, rfl, _, _, _, [], _, [], hW', trodAll_mk1 (shut_bool Yba.underlying4 _), (trodAll_cons_mk (Below.trod laidOut (by kernel_rfl) (of_decide_eq_true (by kernel_rfl)) k0 bel lt0) trodAll_mk0), rfl, bel.frame _, fun h => by cases h⟩

theorem over : Rows.lawS3812BWakesRow.holds Yba.pinned (OpenSpec.ofChange Rows.lawS3812BWakesSpec) :=
  OpenClaim.holds_of_wide 4 Yba.f4 rfl rfl rfl rfl rfl rfl rfl ⟨rfl, rfl, rfl, rfl, rfl⟩ rfl rfl rfl rfl rfl (by kernel_rfl) Yba.func4 (by kernel_rfl)
    (of_decide_eq_true (by kernel_rfl)) (by unfold Func.isWrapper; first | (rw [if_pos (by decide +kernel)]; kernel_rfl) | (rw [if_neg (by decide +kernel)]; exact ⟨rfl, rfl⟩))
    (fun os started H enc _ => lifted os started H enc)

/-- ████ THE STATEMENT ████ -/
theorem proved : Rows.LawS3812BWakesSaid := over
end Go.Proofs.Ybulkbzxq.lawS3812BWakes
namespace Go.Proofs.Ybulkbzxq
theorem wakes_law : Rows.LawS3812BWakesSaid := lawS3812BWakes.proved
end Go.Proofs.Ybulkbzxq
