import Derived.Test.YbulkbzxqRows
import Derived.Test.YbulkbzxqLocks
import Derived.Conc.MuLone
import Derived.Conc.LoneSelect
import Derived.WalkKit
import Derived.WalkSpells
import Derived.WalkLawsBesides
import Derived.Laws.Rows
namespace Go.Proofs.Ybulkbzxq
open Go.RowKit Go.Conc Go.MuLone

section
variable {P : Program} {Q : Exit → Act → World → Prop} {a : Act} {w : World}

/-- 'Code.wp' for a frame that was entered by an ordinary call: a communication may be carried out there. -/
def WpN (P : Program) (c : Code) (Q : Exit → Act → World → Prop) (a : Act) (w : World) : Prop :=
  ∀ (b : Frame) (k : List Item) (cs : List Frame), b.kind ≠ .early →
    ∃ e a' w', Q e a' w' ∧ Arrives P (lone (b.at a (.code c :: k)) cs w) b k cs e a' w'

theorem wpN_of_wp {c : Code} (h : c.wp P Q a w) : WpN P c Q a w := fun b k cs _ => h b k cs

/-- A statement that ends normally, by the machine's own steps. -/
theorem wpN_of_lone {c : Code} (h : ∀ (b : Frame) (k : List Item) (cs : List Frame), b.kind ≠ .early →
    LoneTo P (fun g' w' => ∃ a', g' = G (b.at a' k) cs ∧ Q .normal a' w') (G (b.at a (.code c :: k)) cs) w) : WpN P c Q a w := fun b k cs hb => by
  obtain ⟨g', w', hs, a', rfl, hq⟩ := h b k cs hb
  exact ⟨.normal, a', w', hq, hs⟩

theorem wpN_seq {x y : Code} (h : WpN P x (Exit.then (WpN P y Q) Q) a w) : WpN P (.seq x y) Q a w := by
  intro b k cs hb
  obtain ⟨e, a₁, w₁, hq, harr⟩ := h b (.code y :: k) cs hb
  cases e with
  | normal =>
    obtain ⟨e₂, a₂, w₂, hq₂, harr₂⟩ := hq b k cs hb
    exact ⟨e₂, a₂, w₂, hq₂, .of_steps (.head step_seq harr) harr₂⟩
  | exit id => exact ⟨_, a₁, w₁, hq, .of_steps (.one step_seq) (.pass (x := .code y) rfl (fun _ _ => .inl (by simp)) harr)⟩
  | goto l => exact ⟨_, a₁, w₁, hq, .of_steps (.one step_seq) (.pass (x := .code y) rfl (fun _ _ => .inl (by simp)) harr)⟩
  | ret => exact ⟨_, a₁, w₁, hq, .of_steps (.one step_seq) (.pass (x := .code y) rfl (fun _ _ => .inl (by simp)) harr)⟩
  | panic ch => exact ⟨_, a₁, w₁, hq, .of_steps (.one step_seq) (.pass (x := .code y) rfl (fun _ _ => .inl (by simp)) harr)⟩
  | outgrown => exact ⟨_, a₁, w₁, hq, .of_steps (.one step_seq) (.pass (x := .code y) rfl (fun _ _ => .inl (by simp)) harr)⟩

theorem wpN_seq_k {x y : Code} (h : ∀ K : Act → World → Prop, (∀ a w, WpN P y Q a w → K a w) → WpN P x (Exit.then K Q) a w) : WpN P (.seq x y) Q a w :=
  wpN_seq (h _ fun _ _ h => h)

theorem wpN_cond {c : Operand} {x y : Code} {t : Bool} (hc : a.eval c = .bool t) (h : WpN P (if t then x else y) Q a w) : WpN P (.cond c x y) Q a w :=
  fun b k cs hb => let ⟨e, a', w', q, r⟩ := h b k cs hb; ⟨e, a', w', q, .of_steps (.one (step_cond hc)) r⟩

theorem wpN_block {id : Nat} {c : Code} (h : WpN P c (Exit.inBlock id Q) a w) : WpN P (.block id c) Q a w := by
  intro b k cs hb
  obtain ⟨e, a₁, w₁, hq, harr⟩ := h b (.inBlock id :: k) cs hb
  cases e with
  | normal => exact ⟨.normal, a₁, w₁, hq, .head step_block (Steps.trans harr (.one step_inBlock))⟩
  | exit id' =>
    by_cases hid : id' = id
    · simp only [Exit.inBlock, hid, if_true] at hq
      exact ⟨.normal, a₁, w₁, hq, .head step_block (harr k (by simp [exitTo, hid]))⟩
    · simp only [Exit.inBlock, hid, if_false] at hq
      refine ⟨.exit id', a₁, w₁, hq, fun k' hk => .head step_block (harr k' ?_)⟩
      have : (id == id') = false := by simp; exact fun h => hid h.symm
      simp [exitTo, this, hk]
  | goto l => exact ⟨_, a₁, w₁, hq, fun k' hk => .head step_block (harr k' (by simp [gotoIn, hk]))⟩
  | ret => exact ⟨_, a₁, w₁, hq, .of_steps (.one step_block) harr⟩
  | panic ch => exact ⟨_, a₁, w₁, hq, .of_steps (.one step_block) harr⟩
  | outgrown => exact ⟨_, a₁, w₁, hq, .of_steps (b := b) (k := k) (cs := cs) (e := .outgrown) (.one step_block) harr⟩

theorem wpN_loop {c : Code} (I : Act → World → Prop) (μ : Act → World → Nat) (h₀ : I a w)
    (round : ∀ a w, I a w → WpN P c (Exit.then (fun a' w' => I a' w' ∧ μ a' w' < μ a w) Q) a w) : WpN P (.loop c) Q a w := by
  intro b k cs hb
  have key : ∀ n a w, μ a w = n → I a w →
      ∃ e a' w', Q e a' w' ∧ Arrives P (lone (b.at a (.code c :: .inLoop c :: k)) cs w) b k cs e a' w' := by
    intro n
    induction n using Nat.strongRecOn with
    | _ n ih =>
      intro a w hn hI
      obtain ⟨e, a₁, w₁, hq, harr⟩ := round a w hI b (.inLoop c :: k) cs hb
      cases e with
      | normal =>
        obtain ⟨hI₁, hlt⟩ := hq
        obtain ⟨e₂, a₂, w₂, hq₂, harr₂⟩ := ih (μ a₁ w₁) (hn ▸ hlt) a₁ w₁ rfl hI₁
        exact ⟨e₂, a₂, w₂, hq₂, .of_steps (Steps.trans harr (.one step_inLoop)) harr₂⟩
      | exit id => exact ⟨_, a₁, w₁, hq, .pass (x := .inLoop c) rfl (fun _ _ => .inl (by simp)) harr⟩
      | goto l => exact ⟨_, a₁, w₁, hq, .pass (x := .inLoop c) rfl (fun _ _ => .inl (by simp)) harr⟩
      | ret => exact ⟨_, a₁, w₁, hq, .pass (x := .inLoop c) rfl (fun _ _ => .inl (by simp)) harr⟩
      | panic ch => exact ⟨_, a₁, w₁, hq, .pass (x := .inLoop c) rfl (fun _ _ => .inl (by simp)) harr⟩
      | outgrown => exact ⟨_, a₁, w₁, hq, .pass (x := .inLoop c) rfl (fun _ _ => .inl (by simp)) harr⟩
  obtain ⟨e, a', w', hq, harr⟩ := key _ a w rfl h₀
  exact ⟨e, a', w', hq, .of_steps (.one step_loop) harr⟩
end

theorem calls_of_wpN {P : Program} {f : FuncId} {fn : Func} {c : Code} {args : Array Value} {w : World} {R : Ending → World → Prop}
    (hf : P.funcs[f]? = some fn) (hb : fn.body = some c)
    (h : WpN P c (bodyPost P fn R) { tmps := args ++ Array.replicate (fn.ntmps - args.size) undef, defers := [] } w) :
    Calls P f args w R := by
  intro cs
  let b : Frame := { (default : Frame) with fn := f, kind := .normal }
  have henter : Frame.enter P f args .normal =
      b.at { tmps := args ++ Array.replicate (fn.ntmps - args.size) undef, defers := [] } [.code c] := by
    simp [Frame.enter, Frame.at, hf, hb, b]
  obtain ⟨e, a', w', hq, harr⟩ := h b [] cs (by simp [b])
  rw [← henter] at harr
  cases e with
  | normal =>
    obtain ⟨hd, v, hr, hR⟩ := hq
    exact ⟨.returned v, w', _, hR, Steps.trans harr (.one step_end), rfl, rfl, hd, rfl, fn, hf, hr⟩
  | ret =>
    obtain ⟨hd, v, hr, hR⟩ := hq
    obtain ⟨todo, hs⟩ := harr
    exact ⟨.returned v, w', _, hR, hs, rfl, rfl, hd, rfl, fn, hf, hr⟩
  | panic chain =>
    obtain ⟨hd, hR⟩ := hq
    obtain ⟨todo, hs⟩ := harr
    exact ⟨.panicked chain, w', _, hR, hs, rfl, rfl, hd, fn, hf⟩
  | exit id => exact hq.elim
  | goto l => exact hq.elim
  | outgrown => exact ⟨.outgrown, w', b, hq, harr.resolve_left (by simp [b]), rfl, trivial⟩
end Go.Proofs.Ybulkbzxq
