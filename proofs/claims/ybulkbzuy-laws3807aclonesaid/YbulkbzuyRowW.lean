import Derived.Test.YbulkbzuyRows
import Derived.WalkKit
import Derived.WalkSpells
import Derived.WalkLawsBesides
import Derived.Deep.OwnRows
import Derived.Deep.RegionWith
namespace Go.Proofs.Ybulkbzuy
open Go.RowKit

theorem info2 : (Yba.prog.info? 2).map (fun i => (i.zero, i.size, i.bytes)) = some (some (.int .i64 0), 1, 8) := by kernel_rfl
theorem info27 : (Yba.prog.info? 27).map (fun i => (i.zero, i.size, i.bytes)) = some (some (.float .f64 0), 1, 8) := by kernel_rfl
theorem info30 : (Yba.prog.info? 30).map (fun i => (i.zero, i.size, i.bytes)) = some (some (.slice none 0 0), 1, 24) := by kernel_rfl

theorem heap4 (w : World) (a b c d : Obj) : let W := ((((w.alloc a).alloc b).alloc c).alloc d).drew
    W.heap[w.heap.size + 1]? = some b ∧ W.heap[w.heap.size + 1 + 1]? = some c ∧ W.heap[w.heap.size + 1 + 1 + 1]? = some d ∧ Below w.heap.size w W := by
  refine ⟨?_, ?_, ?_, (((((Below.refl _ _).alloc (Nat.le_refl _) _).alloc (by simp) _).alloc (by simp; omega) _).alloc (by simp; omega) _).drew⟩
  · show ((((w.alloc a).alloc b).alloc c).alloc d).heap[w.heap.size + 1]? = some b
    rw [Deep.blk_alloc_lt _ _ _ (by simp <;> omega), Deep.blk_alloc_lt _ _ _ (by simp), ← Deep.nblk_alloc w a, Deep.blk_alloc_new]
  · show ((((w.alloc a).alloc b).alloc c).alloc d).heap[w.heap.size + 1 + 1]? = some c
    rw [Deep.blk_alloc_lt _ _ _ (by simp), ← Deep.nblk_alloc w a, ← Deep.nblk_alloc _ b, Deep.blk_alloc_new]
  · show ((((w.alloc a).alloc b).alloc c).alloc d).heap[w.heap.size + 1 + 1 + 1]? = some d
    rw [← Deep.nblk_alloc w a, ← Deep.nblk_alloc _ b, ← Deep.nblk_alloc _ c, Deep.blk_alloc_new]

set_option maxHeartbeats 1000000 in
theorem newRow_any (n : Nat) (now : Int) (w : World) (hn : n ≤ 1024) :
    Calls Yba.prog 11 #[.int .i64 (n : Int), .int .i64 now] w fun e w' => ∃ g1 g2 g3 : Nat,
      e = .returned (.agg #[.slice (some ⟨g1, 0, none⟩) n n, .slice (some ⟨g2, 0, none⟩) n n, .slice (some ⟨g3, 0, none⟩) n n, .int .i64 now])
      ∧ w.heap.size ≤ g1 ∧ w.heap.size ≤ g2 ∧ w.heap.size ≤ g3 ∧ w'.heap[g1]? = some (.cells (madeCells #[.int .i64 0] n) 2)
      ∧ w'.heap[g2]? = some (.cells (madeCells #[.float .f64 0] n) 27) ∧ w'.heap[g3]? = some (.cells (madeCells #[.slice none 0 0] n) 30) ∧ Below w.heap.size w w' := by
  have m1 := fun W => run_make_row' (P := Yba.prog) 22 2 _ _ Yba.underlying22 info2 rfl .i64 .i64 n (by omega) (by omega) W
  have m2 := fun W => run_make_row' (P := Yba.prog) 23 27 _ _ Yba.underlying23 info27 rfl .i64 .i64 n (by omega) (by omega) W
  have m3 := fun W => run_make_row' (P := Yba.prog) 29 30 _ _ Yba.underlying29 info30 rfl .i64 .i64 n (by omega) (by omega) W
  go_enter Yba.func11, Yba.ntmps11
  go_wp2
  go_region
  all_goals
    go_wp2
    first
      | exact bodyPost_ret (v := .agg #[.slice (some ⟨w.heap.size + 1, 0, none⟩) n n, .slice (some ⟨w.heap.size + 1 + 1, 0, none⟩) n n, .slice (some ⟨w.heap.size + 1 + 1 + 1, 0, none⟩) n n, .int .i64 now]) (by simp [results, Yba.results11, go_sem]) rfl ⟨_, _, _, rfl, by omega, by omega, by omega, (heap4 w _ _ _ _).1, (heap4 w _ _ _ _).2.1, (heap4 w _ _ _ _).2.2.1, (heap4 w _ _ _ _).2.2.2⟩
      | exact bodyPost_ret (v := .agg #[.slice (some ⟨w.heap.size + 1, 0, none⟩) n n, .slice (some ⟨w.heap.size + 1 + 1 + 1, 0, none⟩) n n, .slice (some ⟨w.heap.size + 1 + 1, 0, none⟩) n n, .int .i64 now]) (by simp [results, Yba.results11, go_sem]) rfl ⟨_, _, _, rfl, by omega, by omega, by omega, (heap4 w _ _ _ _).1, (heap4 w _ _ _ _).2.2.1, (heap4 w _ _ _ _).2.1, (heap4 w _ _ _ _).2.2.2⟩
      | exact bodyPost_ret (v := .agg #[.slice (some ⟨w.heap.size + 1 + 1, 0, none⟩) n n, .slice (some ⟨w.heap.size + 1, 0, none⟩) n n, .slice (some ⟨w.heap.size + 1 + 1 + 1, 0, none⟩) n n, .int .i64 now]) (by simp [results, Yba.results11, go_sem]) rfl ⟨_, _, _, rfl, by omega, by omega, by omega, (heap4 w _ _ _ _).2.1, (heap4 w _ _ _ _).1, (heap4 w _ _ _ _).2.2.1, (heap4 w _ _ _ _).2.2.2⟩
      | exact bodyPost_ret (v := .agg #[.slice (some ⟨w.heap.size + 1 + 1 + 1, 0, none⟩) n n, .slice (some ⟨w.heap.size + 1, 0, none⟩) n n, .slice (some ⟨w.heap.size + 1 + 1, 0, none⟩) n n, .int .i64 now]) (by simp [results, Yba.results11, go_sem]) rfl ⟨_, _, _, rfl, by omega, by omega, by omega, (heap4 w _ _ _ _).2.2.1, (heap4 w _ _ _ _).1, (heap4 w _ _ _ _).2.1, (heap4 w _ _ _ _).2.2.2⟩
      | exact bodyPost_ret (v := .agg #[.slice (some ⟨w.heap.size + 1 + 1, 0, none⟩) n n, .slice (some ⟨w.heap.size + 1 + 1 + 1, 0, none⟩) n n, .slice (some ⟨w.heap.size + 1, 0, none⟩) n n, .int .i64 now]) (by simp [results, Yba.results11, go_sem]) rfl ⟨_, _, _, rfl, by omega, by omega, by omega, (heap4 w _ _ _ _).2.1, (heap4 w _ _ _ _).2.2.1, (heap4 w _ _ _ _).1, (heap4 w _ _ _ _).2.2.2⟩
      | exact bodyPost_ret (v := .agg #[.slice (some ⟨w.heap.size + 1 + 1 + 1, 0, none⟩) n n, .slice (some ⟨w.heap.size + 1 + 1, 0, none⟩) n n, .slice (some ⟨w.heap.size + 1, 0, none⟩) n n, .int .i64 now]) (by simp [results, Yba.results11, go_sem]) rfl ⟨_, _, _, rfl, by omega, by omega, by omega, (heap4 w _ _ _ _).2.2.1, (heap4 w _ _ _ _).2.1, (heap4 w _ _ _ _).1, (heap4 w _ _ _ _).2.2.2⟩
end Go.Proofs.Ybulkbzuy
