import Derived.Test.YbulkbzxqFmtRows
import Derived.WalkKit
import Derived.WalkSpells
import Derived.WalkLawsBesides
import Derived.Deep.RegionWith
import Derived.LaidEqlPtr
namespace Go.Proofs.YbulkbzxqFmt
open Go.RowKit

set_option maxHeartbeats 400000 in
theorem err_any (b : Nat) (s : ByteArray) (w : World) (h0 : w.cell? ⟨b, 0, none⟩ = some (.string s)) (h1 : w.cell? ⟨b, 1, none⟩ = some (.int .i64 0)) (hf : w.frozen? ⟨b, 1, none⟩ = false) :
    Calls Ybaf.prog 23 #[.pointer (some ⟨b, 0, none⟩)] w fun e w' => e = .returned (.string s) ∧ w' = w.setCell ⟨b, 1, none⟩ (.int .i64 1) := by
  go_enter Ybaf.func23, Ybaf.ntmps23
  go_wp2
  go_ret
  exact ⟨rfl, rfl⟩

theorem meth (a : Addr) (w : World) : (method 152 22 (.pointer (some a)) "Error").run Ybaf.prog w = .ok (23, .pointer (some a)) w := by kernel_rfl

/-- "key file ", ": ". -/
def preB : ByteArray := { data := #[107, 101, 121, 32, 102, 105, 108, 101, 32] }
def sepB : ByteArray := { data := #[58, 32] }

set_option maxHeartbeats 1000000 in
theorem kf_any (b : Nat) (file msg : ByteArray) (w : World) (h0 : w.cell? ⟨b + 1, 0, none⟩ = some (.string file)) (h1 : w.cell? ⟨b + 1, 1, none⟩ = some (.int .i64 0)) (h2 : w.cell? ⟨b + 1, 2, none⟩ = some (.iface 22 (.pointer (some ⟨b, 0, none⟩))))
    (e0 : w.cell? ⟨b, 0, none⟩ = some (.string msg)) (e1 : w.cell? ⟨b, 1, none⟩ = some (.int .i64 0)) (ef : w.frozen? ⟨b, 1, none⟩ = false)
    (hs : file.size ≤ 140737488355328) (hs2 : msg.size ≤ 140737488355328) :
    Calls Ybaf.prog 5 #[.pointer (some ⟨b + 1, 0, none⟩)] w fun e w' => e = .returned (.string (preB ++ file ++ sepB ++ msg)) ∧ w' = (w.setCell ⟨b, 1, none⟩ (.int .i64 1)).drew := by
  have hm := meth
  go_enter Ybaf.func5, Ybaf.ntmps5
  go_wp2
  go_region_with (go_at_call 23; refine (err_any _ _ _ (by exact e0) (by exact e1) (by exact ef)).mono ?_; rintro e w1 ⟨rfl, rfl⟩)
  all_goals
    go_wp2
    go_ret
    exact ⟨rfl, rfl⟩
end Go.Proofs.YbulkbzxqFmt
