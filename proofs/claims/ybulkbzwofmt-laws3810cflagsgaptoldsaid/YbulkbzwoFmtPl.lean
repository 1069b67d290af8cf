import Derived.Test.YbulkbzwoFmtO
namespace Go.Proofs.YbulkbzwoFmt
open Go.RowKit Go.Sort Go.Lib

theorem le_cases {a b : List UInt8} (h : a ≤ b) : a < b ∨ a = b := by
  by_cases h1 : a < b
  · exact .inl h1
  · exact .inr (List.le_antisymm h (List.not_lt.1 h1))

theorem lt_le {a b c : List UInt8} (h1 : a < b) (h2 : b ≤ c) : a < c := by
  rcases le_cases h2 with h | h
  · exact List.lt_trans h1 h
  · rw [← h]; exact h1

theorem countP_iff (q : Nat → Bool) (n : Nat) (hq : ∀ x y, x ≤ y → y < n → q y = true → q x = true) (k : Nat) (hk : k < n) : k < (List.range n).countP q ↔ q k = true := by
  induction n with
  | zero => omega
  | succ n ih =>
    have ih' := ih (fun x y h1 h2 h3 => hq x y h1 (by omega) h3)
    have hle := List.countP_le_length (p := q) (l := List.range n)
    simp only [List.length_range] at hle
    rw [List.range_succ, List.countP_append]
    cases hn : q n with
    | true =>
      have hall : (List.range n).countP q = n := by
        have := List.countP_eq_length (p := q) (l := List.range n)
        simp only [List.length_range] at this
        exact this.2 fun a ha => hq a n (by have := List.mem_range.1 ha; omega) (by omega) hn
      have := hq k n (by omega) (by omega) hn
      simp [hall, hn, this]
      omega
    | false =>
      by_cases e : k = n
      · subst e
        simp [hn]
        omega
      · simpa [hn] using ih' (by omega)

theorem after_iff (d s : ByteArray) : after d s = true ↔ d.toList < s.toList := by
  unfold after
  rw [bytesLess_eq]
  simp only [Bool.and_eq_true, Bool.not_eq_true', decide_eq_false_iff_not, beq_eq_false_iff_ne, ne_eq]
  constructor
  · rintro ⟨h1, h2⟩
    rcases le_cases (List.not_lt.1 h1) with h | h
    · exact h
    · exact absurd h.symm h2
  · intro h
    refine ⟨fun h2 => List.lt_irrefl _ (List.lt_trans h h2), fun e => ?_⟩
    rw [e] at h
    exact List.lt_irrefl _ h

/-- Ascending. -/
def Asc (zs : List (List UInt8)) : Prop := ∀ x y, x ≤ y → y < zs.length → zs.getD x [] ≤ zs.getD y []

theorem B_toList (zs : List (List UInt8)) (i : Nat) : (B zs i).toList = zs.getD i [] := by simp [B]

theorem Asc.mono {zs : List (List UInt8)} (h : Asc zs) (d : ByteArray) (x y : Nat) (hxy : x ≤ y) (hy : y < zs.length) (ha : after d (B zs x) = true) : after d (B zs y) = true := by
  rw [after_iff, B_toList] at *
  exact lt_le ha (h x y hxy hy)

theorem asc_of {zs : List (List UInt8)} (h : zs.Pairwise (· ≤ ·)) : Asc zs := by
  intro x y hxy hy
  rcases Nat.lt_or_eq_of_le hxy with h1 | rfl
  · have := List.pairwise_iff_getElem.1 h x y (by omega) hy h1
    simpa [List.getD, hy, show x < zs.length by omega] using this
  · exact List.le_refl _

theorem asc_compact {zs : List (List UInt8)} (h : zs.Pairwise (· ≤ ·)) : (compact zs).Pairwise (· ≤ ·) := by
  have hs : (compact zs).Sublist zs := by
    unfold compact compactUpTo
    have := range_map_get zs.toArray
    have h2 : ((List.range zs.length).filter (keeps zs.toArray)).map (zs.toArray[·]!) |>.Sublist ((List.range zs.length).map (zs.toArray[·]!)) := List.filter_sublist.map _
    have h3 : (List.range zs.length).map (zs.toArray[·]!) = zs := by simpa using this
    rwa [h3] at h2
  exact h.sublist hs

theorem asc_sorted (zs : List (List UInt8)) : (zs.mergeSort fun x y => decide (x ≤ y)).Pairwise (· ≤ ·) := by
  have := List.pairwise_mergeSort (le := fun x y : List UInt8 => decide (x ≤ y)) (fun a b c h1 h2 => by simp at *; exact List.le_trans h1 h2) (fun a b => by simp; exact List.le_total a b) zs
  exact this.imp (by simp)

/-- k is counted iff it does not lie after d. -/
theorem cnt_iff {C : Nat → ByteArray} {n : Nat} {d : ByteArray} (hm : ∀ x y, x ≤ y → y < n → after d (C x) = true → after d (C y) = true) (k : Nat) (hk : k < n) : k < cnt C n d ↔ after d (C k) = false := by
  unfold cnt
  rw [countP_iff (fun i => !after d (C i)) n (fun x y h1 h2 h3 => ?_) k hk]
  · simp
  · rcases hx : after d (C x) with _ | _
    · rfl
    · rw [hm x y h1 h2 hx] at h3
      cases h3

/-- The law in plain words. -/
theorem hit_iff (zs : List (List UInt8)) (h : Asc zs) (f t : ByteArray) :
    (cnt (B zs) zs.length f < cnt (B zs) zs.length t ∧ ((B zs (cnt (B zs) zs.length f)).toList == t.toList) = false) ↔ ∃ k, k < zs.length ∧ Op.bytesLess f.toList (B zs k).toList = true ∧ Op.bytesLess (B zs k).toList t.toList = true := by
  have hf := cnt_iff (h.mono f)
  have ht := cnt_iff (h.mono t)
  have lt := cnt_le (B zs) zs.length t
  constructor
  · rintro ⟨h1, h2⟩
    have hi : cnt (B zs) zs.length f < zs.length := by omega
    refine ⟨_, hi, ?_⟩
    have e1 : after f (B zs (cnt (B zs) zs.length f)) = true := by
      rcases hb : after f (B zs (cnt (B zs) zs.length f)) with _ | _
      · exact absurd ((hf _ hi).2 hb) (Nat.lt_irrefl _)
      · rfl
    have e2 := (ht _ hi).1 h1
    rw [after_iff] at e1
    have e3 : ¬ t.toList < (B zs (cnt (B zs) zs.length f)).toList := fun hlt => by rw [(after_iff _ _).2 hlt] at e2; cases e2
    rw [bytesLess_eq, bytesLess_eq]
    refine ⟨by simpa using e1, ?_⟩
    rcases le_cases (List.not_lt.1 e3) with h | h
    · simpa using h
    · rw [h] at h2; simp at h2
  · rintro ⟨k, hk, e1, e2⟩
    rw [bytesLess_eq] at e1 e2
    simp only [decide_eq_true_eq] at e1 e2
    have k1 : ¬ k < cnt (B zs) zs.length f := fun hlt => by
      have := (hf k hk).1 hlt
      rw [(after_iff _ _).2 e1] at this
      cases this
    have k2 : k < cnt (B zs) zs.length t := by
      refine (ht k hk).2 ?_
      rcases hb : after t (B zs k) with _ | _
      · rfl
      · exact absurd (List.lt_trans e2 ((after_iff _ _).1 hb)) (List.lt_irrefl _)
    refine ⟨by omega, ?_⟩
    have := h (cnt (B zs) zs.length f) k (by omega) hk
    rw [B_toList] at e2 ⊢
    have := List.lt_of_le_of_lt this e2
    rcases hb : ((zs.getD (cnt (B zs) zs.length f) []) == t.toList) with _ | _
    · rfl
    · rw [beq_iff_eq] at hb
      rw [hb] at this
      exact absurd this (List.lt_irrefl _)
end Go.Proofs.YbulkbzwoFmt
