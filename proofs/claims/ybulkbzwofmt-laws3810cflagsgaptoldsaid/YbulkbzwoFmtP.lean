import Derived.Test.YbulkbzwoFmtL
import Derived.Test.YbulkbzwoFmtCards
import Derived.ProofKit
import Derived.Stop.JoinedAt
import Derived.Stop.JoinedTold
import Derived.SizedLaws
import Derived.SevenToldRow
import Derived.Deep.Slices
import Derived.Below
import Derived.OpenShut
namespace Go.Proofs.YbulkbzwoFmt
open Go.ChangeShapes Go.WideShapes Go.ChangeAt Go.RowKit Go.Kit
open Go.ChangeMaps (open_string shut_string)
open Go.Extern.Stop Go.Stop Go.Extern

theorem own : ownKnob Ybaf.prog.godebug = none := by kernel_rfl

theorem laidOutP : laidOutB Ybaf.prog = true := by kernel_rfl

/-- A slice of strings that came in: what the walk is told of it. -/
theorem rowC_of {H : Type} {enc : TypeId × Value → H} {w : World} {spare : Nat → Bool} {held : Bool} {fuel : Nat} {a0 : Option Addr} {len cap : Nat} {x : DataW H × List MemPlace}
    (h : DataW.trod enc Ybaf.prog w 0 spare held fuel 22 [.slice a0 len cap] = some x) : (a0 = none → len = 0) ∧ ∃ C, RowC w a0 len C := by
  rcases Go.Deep.open_slice1 Ybaf.underlying22 (by kernel_rfl) h with ⟨hcs, _⟩ | ⟨a, l, c, m, k, V, D, Pl, hcs, _, hl, _, hm, _, hx⟩
  · simp at hcs
    exact ⟨fun _ => hcs.2.1, fun _ => ByteArray.empty, .inl hcs.2.1⟩
  · simp at hcs
    obtain ⟨rfl, rfl, rfl⟩ := hcs
    have hlm : len ≤ m := by rw [hm]; split <;> omega
    obtain ⟨C, hC⟩ := Go.Deep.choose_lt (α := ByteArray) (n := len) (p := fun i s => w.cell? (a.add i) = some (.string s)) fun i hi => by
      obtain ⟨c0, t0⟩ := hx i (by omega)
      obtain ⟨s, hs, _⟩ := DataW.trod_string Ybaf.underlying9 t0
      simp at hs
      exact ⟨s, by rw [c0, hs]⟩
    refine ⟨nofun, C, ?_⟩
    by_cases h0 : len = 0
    · exact .inl h0
    · obtain ⟨b, off, spot⟩ := a
      have hspot : spot = none := by simpa [Addr.add] using World.cell?_spot (hC 0 (by omega))
      subst hspot
      exact .inr ⟨b, off, rfl, fun j hj => by have := hC j hj; rwa [Go.WideShapes.add_plain] at this⟩

theorem gap_any (F : Interp) (a0 : Option Addr) (n0 c0 : Nat) (f t : ByteArray) (C : Nat → ByteArray) (w : World) (hF : F.answers w.tape) (hr : RowC w a0 n0 C) (h0 : a0 = none → n0 = 0) :
    Calls Ybaf.prog 3 #[.slice a0 n0 c0, .string f, .string t] w fun e w' => e = .returned (.bool true) ∧ Below w.heap.size w w' := by
  by_cases hn : 1024 < n0
  · exact gap_long a0 n0 c0 f t w hn
  · exact gap_short F a0 n0 c0 f t C w hF (by omega) hr h0

set_option maxRecDepth 100000 in
theorem lifted (os : Os) (started : os.Started) (H : Type) (enc : TypeId × Value → H) :
    ReturnsInTold none {} Ybaf.checked os 3 .any Input.okWide ((OpenSpec.ofChange Rows.lawS3810CFlagsGapSpec).preRow enc Ybaf.prog Ybaf.f3 [] false []) (fun F => ((OpenSpec.ofChange Rows.lawS3810CFlagsGapSpec).at F).post enc Ybaf.prog Ybaf.f3 false true false false) (aloneAtReturn Ybaf.prog) nothingAlways := by
  refine returnsInTold_of_row (C := Ybaf.checked) (s := OpenSpec.ofChange Rows.lawS3810CFlagsGapSpec) (by kernel_rfl) own started (by kernel_rfl) Ybaf.func3
    (OpenSpec.witness_stopped (enc := enc) (C := Ybaf.checked) false ⟨#[], #[.slice none 0 0, .string ⟨#[]⟩, .string ⟨#[]⟩], []⟩ 8 (by kernel_rfl) (by kernel_rfl) (by kernel_rfl) (by kernel_rfl)) ?_
  intro F W base args ds gs before _ hF hval0 hW _ _ hsz _ _
  have hval : ∀ (j : Nat) t v, Ybaf.f3.params[j]? = some t → args[j]? = some v → Value.okWide Ybaf.prog W .any base t v := hval0
  have hW' := hW
  obtain ⟨p, q, hA0, hV, rfl, hfz, hnd⟩ := hW
  have hA : DataW.TrodAll enc Ybaf.prog W 0 (fun _ => true) true Ybaf.f3.params.toList args.toList ds p := hA0
  rw [Ybaf.params3] at hA hval
  obtain ⟨v0, vs0, d0, ds0, p0, q0, hargs, rfl, rfl, h0, r0⟩ := trodAll_cons hA
  obtain ⟨v1, vs1, d1, ds1, p1, q1, rfl, rfl, rfl, h1, r1⟩ := trodAll_cons r0
  obtain ⟨v2, vs2, d2, ds2, p2, q2, rfl, rfl, rfl, h2, r2⟩ := trodAll_cons r1
  obtain ⟨rfl, rfl, rfl⟩ := trodAll_nil r2
  obtain rfl : args = #[v0, v1, v2] := by cases args; simp_all
  obtain ⟨rfl, rfl⟩ := trodVars_none hV
  obtain ⟨a0, len0, cap0, rfl⟩ := okWide_slice Ybaf.underlying22 (hval 0 22 v0 rfl rfl)
  have k0 := h0
  have lt0 : ∀ x ∈ p0, x.block < W.heap.size := by obtain ⟨m, hm⟩ := k0; exact DataW.trod_lt m _ _ _ hm
  obtain ⟨hz, C, hr⟩ : (a0 = none → len0 = 0) ∧ ∃ C, RowC W a0 len0 C := by
    obtain ⟨fuel, hf⟩ := h0
    exact rowC_of hf
  obtain ⟨f, rfl, rfl, rfl, w1⟩ := open_string Ybaf.underlying9 (hval 1 9 v1 rfl rfl) h1
  obtain ⟨t, rfl, rfl, rfl, w2⟩ := open_string Ybaf.underlying9 (hval 2 9 v2 rfl rfl) h2
  clear hA0 hval0
  refine (gap_any F.told a0 len0 cap0 f t C W hF hr hz).mono fun e W' ⟨he, bel⟩ => ?_
  subst he
  exact ⟨_, rfl, _, _, _, [], _, [], hW', trodAll_mk1 (shut_bool Ybaf.underlying4 _), (trodAll_cons_mk (Below.trod laidOutP (by kernel_rfl) (of_decide_eq_true (by kernel_rfl)) k0 bel lt0) (trodAll_cons_mk (shut_string Ybaf.underlying9 w1) (trodAll_cons_mk (shut_string Ybaf.underlying9 w2) trodAll_mk0))), rfl, bel.frame _, fun h => by cases h⟩

theorem laidOut : laidOutB Ybaf.pinned.checked.prog = true := by kernel_rfl
theorem stops : Ybaf.pinned.checked.prog.stops = Rows.lawS3810CFlagsGapRow.stops := by kernel_rfl
theorem stopKnobs : Ybaf.pinned.checked.prog.stopKnobs = [] := by kernel_rfl
theorem quietly (os : Os) : Stop.quiet Ybaf.pinned.checked.prog os := by
  intro k hk
  rw [stopKnobs] at hk
  cases hk

theorem flags_gap_told : Rows.LawS3810CFlagsGapToldSaid :=
  Claim7.holds_of_told_any 3 Ybaf.f3 (Rows.lawS3810CFlagsGapRow.stops.headD "") [] [] _ _ _ (by kernel_rfl) rfl rfl rfl laidOut (by kernel_rfl) rfl ⟨rfl, rfl, rfl, rfl, rfl, rfl, rfl⟩ rfl rfl (by kernel_rfl) (by kernel_rfl) Ybaf.func3 (by kernel_rfl)
    (of_decide_eq_true (by kernel_rfl)) (of_decide_eq_true (by kernel_rfl)) stops.symm rfl stopKnobs.symm (by kernel_rfl)
    (by kernel_rfl) (by kernel_rfl) (by kernel_rfl) (by kernel_rfl) (by kernel_rfl) (by kernel_rfl) (by kernel_rfl) (by kernel_rfl) (by kernel_rfl) rfl (by kernel_rfl) rfl rfl
    rfl rfl
    rfl (by kernel_rfl) (by kernel_rfl) (by kernel_rfl) (by decide) (by kernel_rfl)
    (OpenClaim.moreEntering_of (by kernel_rfl) (by kernel_rfl) (by kernel_rfl) (by kernel_rfl) (by kernel_rfl) (by kernel_rfl) (by kernel_rfl) (by kernel_rfl) (by kernel_rfl) (by kernel_rfl))
    ⟨_, WideRow.started_initial, quietly _⟩
    (fun os started _ H enc _ => lifted os started H enc)
end Go.Proofs.YbulkbzwoFmt
