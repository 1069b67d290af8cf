import Derived.Test.YbulkbzxqFmtW
namespace Go.Proofs.YbulkbzxqFmt
open Go.RowKit

theorem run_neq_iface_ptr_same {P : Program} (w : World) {ti tp te : TypeId} {ms : Array (String × TypeId)} {i j : TypeInfo} (a : Addr)
    (hi : P.underlying ti = some (.interface ms)) (hp : P.underlying tp = some (.pointer te)) (hinfo : P.info? tp = some i) (hcomp : i.comparable = true) (hte : P.info? te = some j) :
    (binOp .neq ti (.iface tp (.pointer (some a))) (.iface tp (.pointer (some a)))).run P w = .ok (.bool false) w := by
  simp only [binOp]
  simp [Op.equal, Op.maxDepth, run_equalIn_iface_ptr_same w 9998 a hi hp hinfo hcomp hte]

theorem comp22 : (Ybaf.prog.info? 22).map (·.comparable) = some true := by kernel_rfl
theorem size24 : (Ybaf.prog.info? 24).map (·.size) = some 2 := by kernel_rfl

theorem if27 (W : World) (a : Addr) : (binOp .neq 27 (.iface 22 (.pointer (some a))) (.iface 22 (.pointer (some a)))).run Ybaf.prog W = .ok (.bool false) W ∧ (binOp .eql 27 (.iface 22 (.pointer (some a))) (.iface 22 (.pointer (some a)))).run Ybaf.prog W = .ok (.bool true) W := by
  obtain ⟨i, hi, hc⟩ := Option.map_eq_some_iff.1 comp22
  obtain ⟨j, hj, _⟩ := Option.map_eq_some_iff.1 size24
  exact ⟨run_neq_iface_ptr_same W a Ybaf.underlying27 Ybaf.underlying22 hi hc hj, run_eql_iface_ptr_same W a Ybaf.underlying27 Ybaf.underlying22 hi hc hj⟩

set_option maxHeartbeats 400000 in
theorem unwrap_any (b : Nat) (v : Addr) (w : World) (h : w.cell? ⟨b, 2, none⟩ = some (.iface 22 (.pointer (some v)))) :
    Calls Ybaf.prog 6 #[.pointer (some ⟨b, 0, none⟩)] w fun e w' => e = .returned (.iface 22 (.pointer (some v))) ∧ w' = w := by
  go_enter Ybaf.func6, Ybaf.ntmps6
  go_wp2
  go_ret
  exact ⟨rfl, rfl⟩

set_option maxHeartbeats 1000000 in
theorem whole_any (file msg : ByteArray) (w : World) (hs : file.size ≤ 140737488355328) (hs2 : msg.size ≤ 140737488355328) :
    Calls Ybaf.prog 3 #[.string file, .string msg] w fun e w' => e = .returned (.bool true) ∧ Below w.heap.size w w' := by
  have i1 := fun W a => (if27 W a).1
  have i2 := fun W a => (if27 W a).2
  go_enter Ybaf.func3, Ybaf.ntmps3
  go_wp2_with fail
  refine (kf_any w.heap.size file msg _ (by simp) (by simp) (by simp) (by simp) (by simp) ?hfz hs hs2).mono ?_
  case hfz => go_simp
  rintro e w1 ⟨rfl, rfl⟩
  unfold preB sepB
  go_wp2_with fail
  refine (unwrap_any (w.heap.size + 1) ⟨w.heap.size, 0, none⟩ _ (by simp)).mono ?_
  rintro e w1 ⟨rfl, rfl⟩
  go_wp2_with fail
  go_ret
  exact ⟨rfl, (((Below.refl _ _).alloc (Nat.le_refl _) _).alloc (by simp) _).drew⟩
end Go.Proofs.YbulkbzxqFmt
