import Derived.Test.YbulkbzuyCl
import Derived.LaidEqlPtr
import Derived.Lib.Builder
import Derived.Test.YbulkbzuyEqW
import Derived.OpenShut
namespace Go.Proofs.Ybulkbzuy
open Go.RowKit

theorem run_neq_iface_ptr_same {P : Program} (w : World) {ti tp te : TypeId} {ms : Array (String × TypeId)} {i j : TypeInfo} (a : Addr)
    (hi : P.underlying ti = some (.interface ms)) (hp : P.underlying tp = some (.pointer te)) (hinfo : P.info? tp = some i) (hcomp : i.comparable = true) (hte : P.info? te = some j) :
    (binOp .neq ti (.iface tp (.pointer (some a))) (.iface tp (.pointer (some a)))).run P w = .ok (.bool false) w := by
  simp only [binOp]
  simp [Op.equal, Op.maxDepth, run_equalIn_iface_ptr_same w 9998 a hi hp hinfo hcomp hte]

theorem run_neq_ptr_other {P : Program} (w : World) {tp te : TypeId} {j : TypeInfo} {a b : Addr} {ca cb : Array Value} {ta tb : TypeId} (hp : P.underlying tp = some (.pointer te)) (hte : P.info? te = some j) (hsz : j.size ≠ 0)
    (hne : a ≠ b) (ha : w.heap[a.block]? = some (.cells ca ta (0, 0))) (hb : w.heap[b.block]? = some (.cells cb tb (0, 0))) :
    (binOp .neq tp (.pointer (some a)) (.pointer (some b))).run P w = .ok (.bool true) w := by
  have h : ∀ d : Nat, (Op.equalIn (d + 1) tp (.pointer (some a)) (.pointer (some b))).run P w = .ok false w := fun d => by
    simp [Op.equalIn, run_underlying hp, sizeOf, typeInfo, hte, hsz, run_sameAddr_other w hne ha hb]
  simp only [binOp]
  simp [Op.equal, Op.maxDepth, h 9999]

theorem some_of_size {P : Program} {t : TypeId} {s : Nat} (h : (P.info? t).map (·.size) = some s) : ∃ j, P.info? t = some j ∧ j.size = s := Option.map_eq_some_iff.1 h
theorem some_of_comp {P : Program} {t : TypeId} (h : (P.info? t).map (·.comparable) = some true) : ∃ i, P.info? t = some i ∧ i.comparable = true := Option.map_eq_some_iff.1 h

/-- a pointer to T held against itself. -/
theorem eqSame {tp te : TypeId} {s : Nat} (hp : Yba.prog.underlying tp = some (.pointer te)) (hs : (Yba.prog.info? te).map (·.size) = some s) (W : World) (a : Addr) :
    (binOp .eql tp (.pointer (some a)) (.pointer (some a))).run Yba.prog W = .ok (.bool true) W ∧ (binOp .neq tp (.pointer (some a)) (.pointer (some a))).run Yba.prog W = .ok (.bool false) W := by
  obtain ⟨j, hj, _⟩ := some_of_size hs
  exact ⟨run_eql_ptr_same W a hp hj, Lib.run_neq_ptr_same W a hp hj⟩

theorem eqOther {tp te : TypeId} {s : Nat} (hp : Yba.prog.underlying tp = some (.pointer te)) (hs : (Yba.prog.info? te).map (·.size) = some (s + 1)) (W : World) {a b : Addr} {ca cb : Array Value} {ta tb : TypeId}
    (hne : a ≠ b) (ha : W.heap[a.block]? = some (.cells ca ta)) (hb : W.heap[b.block]? = some (.cells cb tb)) :
    (binOp .eql tp (.pointer (some a)) (.pointer (some b))).run Yba.prog W = .ok (.bool false) W := by
  obtain ⟨j, hj, h0⟩ := some_of_size hs
  exact run_eql_ptr_other W hp hj (by omega) hne ha hb

theorem ifSame {ti tp te : TypeId} {ms : Array (String × TypeId)} {s : Nat} (hi : Yba.prog.underlying ti = some (.interface ms)) (hp : Yba.prog.underlying tp = some (.pointer te)) (hc : (Yba.prog.info? tp).map (·.comparable) = some true) (hs : (Yba.prog.info? te).map (·.size) = some s) (W : World) (a : Addr) :
    (binOp .neq ti (.iface tp (.pointer (some a))) (.iface tp (.pointer (some a)))).run Yba.prog W = .ok (.bool false) W := by
  obtain ⟨j, hj, _⟩ := some_of_size hs
  obtain ⟨i, hi2, hc2⟩ := some_of_comp hc
  exact run_neq_iface_ptr_same W a hi hp hi2 hc2 hj

theorem s44 (W : World) (a : Addr) : (binOp .eql 44 (.pointer (some a)) (.pointer (some a))).run Yba.prog W = .ok (.bool true) W ∧ (binOp .neq 44 (.pointer (some a)) (.pointer (some a))).run Yba.prog W = .ok (.bool false) W :=
  eqSame (s := 15) Yba.underlying44 (by kernel_rfl) W a
theorem s31 (W : World) (a : Addr) : (binOp .eql 31 (.pointer (some a)) (.pointer (some a))).run Yba.prog W = .ok (.bool true) W ∧ (binOp .neq 31 (.pointer (some a)) (.pointer (some a))).run Yba.prog W = .ok (.bool false) W :=
  eqSame (s := 2) Yba.underlying31 (by kernel_rfl) W a
theorem s63 (W : World) (a : Addr) : (binOp .eql 63 (.pointer (some a)) (.pointer (some a))).run Yba.prog W = .ok (.bool true) W ∧ (binOp .neq 63 (.pointer (some a)) (.pointer (some a))).run Yba.prog W = .ok (.bool false) W :=
  eqSame (s := 1) Yba.underlying63 (by kernel_rfl) W a
theorem s65 (W : World) (a : Addr) : (binOp .eql 65 (.pointer (some a)) (.pointer (some a))).run Yba.prog W = .ok (.bool true) W ∧ (binOp .neq 65 (.pointer (some a)) (.pointer (some a))).run Yba.prog W = .ok (.bool false) W :=
  eqSame (s := 1) Yba.underlying65 (by kernel_rfl) W a
theorem s66 (W : World) (a : Addr) : (binOp .eql 66 (.pointer (some a)) (.pointer (some a))).run Yba.prog W = .ok (.bool true) W ∧ (binOp .neq 66 (.pointer (some a)) (.pointer (some a))).run Yba.prog W = .ok (.bool false) W :=
  eqSame (s := 1) Yba.underlying66 (by kernel_rfl) W a
theorem s68 (W : World) (a : Addr) : (binOp .eql 68 (.pointer (some a)) (.pointer (some a))).run Yba.prog W = .ok (.bool true) W ∧ (binOp .neq 68 (.pointer (some a)) (.pointer (some a))).run Yba.prog W = .ok (.bool false) W :=
  eqSame (s := 1) Yba.underlying68 (by kernel_rfl) W a
theorem i54 (W : World) (a : Addr) : (binOp .neq 54 (.iface 35 (.pointer (some a))) (.iface 35 (.pointer (some a)))).run Yba.prog W = .ok (.bool false) W :=
  ifSame (s := 1) Yba.underlying54 Yba.underlying35 (by kernel_rfl) (by kernel_rfl) W a
theorem i56 (W : World) (a : Addr) : (binOp .neq 56 (.iface 38 (.pointer (some a))) (.iface 38 (.pointer (some a)))).run Yba.prog W = .ok (.bool false) W :=
  ifSame (s := 1) Yba.underlying56 Yba.underlying38 (by kernel_rfl) (by kernel_rfl) W a
theorem i58 (W : World) (a : Addr) : (binOp .neq 58 (.iface 41 (.pointer (some a))) (.iface 41 (.pointer (some a)))).run Yba.prog W = .ok (.bool false) W :=
  ifSame (s := 1) Yba.underlying58 Yba.underlying41 (by kernel_rfl) (by kernel_rfl) W a

/-- A slice that came in: where there is an element its cells hold 'news'. -/
def InRow (w : World) (a : Option Addr) (n : Nat) (news : List Value) : Prop :=
  news.length = n ∧ (a = none → n = 0) ∧ (∀ x, a = some x → ∀ (j : Nat) u, news[j]? = some u → w.cell? (x.add j) = some u) ∧ (∀ u ∈ news, u.oneCell' = true)

theorem inrow_at {w W : World} {x : Option Addr} {n : Nat} {zs : List Int} (r : InRow w x n (zs.map (Value.int .i64))) (hb : Below w.heap.size w W) :
    n = 0 ∨ ∃ b off, x = some ⟨b, off, none⟩ ∧ ∀ j, j < n → W.cell? ⟨b, off + j, none⟩ = some (.int .i64 (zs.getD j 0)) := by
  obtain ⟨hl, hnil, hc, _⟩ := r
  simp at hl
  cases x with
  | none => exact .inl (hnil rfl)
  | some a =>
    by_cases h0 : n = 0
    · exact .inl h0
    · obtain ⟨b, off, rfl, h⟩ := ints_at (w := w) (a := a) (k := .i64) (zs := zs) (fun i hi => hc a rfl i _ (by simp [List.getD, List.getElem?_eq_getElem hi])) (by omega)
      exact .inr ⟨b, off, rfl, fun j hj => cell_later hb (h j (by omega))⟩

theorem cellN {w1 wr : World} {g n k : Nat} {t : TypeId} {cur : Array Value} {z4 : List Int} (h : w1.heap[g]? = some (.cells cur t)) (hz : cur.toList.take n = z4.map (Value.int .i64)) (hk : k < n) (hl : z4.length = n) (hb : Below w1.heap.size w1 wr) :
    wr.cell? ⟨g, k, none⟩ = some (.int .i64 (z4.getD k 0)) := by
  refine cell_later hb ?_
  have h1 : cur[k]? = some (.int .i64 (z4.getD k 0)) := by
    have h2 := congrArg (·[k]?) hz
    simp only [List.getElem?_take, hk, if_true, List.getElem?_map] at h2
    rw [Array.getElem?_toList] at h2
    rw [h2, List.getElem?_eq_getElem (by omega)]
    simp [List.getD, List.getElem?_eq_getElem (show k < z4.length by omega)]
  simp [World.cell?, h, h1]

theorem fresh_at {B : Nat} {w W : World} {t : TypeId} {a : Option Addr} {n : Nat} {zs : List Int} (h : Fresh B w t a n (zs.map (Value.int .i64))) (hl : zs.length = n) (hb : Below w.heap.size w W) :
    n = 0 ∨ ∃ b off, a = some ⟨b, off, none⟩ ∧ ∀ j, j < n → W.cell? ⟨b, off + j, none⟩ = some (.int .i64 (zs.getD j 0)) := by
  rcases h with h | ⟨g, cur, rfl, _, hh, hz⟩
  · exact .inl h
  · exact .inr ⟨g, 0, rfl, fun j hj => by rw [Nat.zero_add]; exact cellN hh hz hj hl hb⟩
end Go.Proofs.Ybulkbzuy
