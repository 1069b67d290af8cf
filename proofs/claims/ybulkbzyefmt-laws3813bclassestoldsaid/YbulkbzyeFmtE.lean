import Derived.Test.YbulkbzyeFmtFmt
import Derived.Test.YbulkbzyeFmtRows
namespace Go.Proofs.YbulkbzyeFmt
open Go.RowKit Go.Extern.Stop Go.Stop Go.Extern

def f1 : ByteArray := ⟨#[98, 111, 100, 121, 32, 105, 115, 32, 110, 111, 116, 32, 118, 97, 108, 105, 100, 32, 74, 83, 79, 78, 58, 32, 37, 118, 32, 40, 97, 116, 32, 98, 121, 116, 101, 32, 37, 100, 41]⟩
def f2 : ByteArray := ⟨#[114, 101, 97, 100, 105, 110, 103, 32, 98, 111, 100, 121, 58, 32, 37, 119]⟩

theorem err19 (s : Nat) (m : ByteArray) (w : World) (h : w.cell? ⟨s, 0, none⟩ = some (.string m)) :
    Calls Ybaf.prog 19 #[.pointer (some ⟨s, 0, none⟩)] w fun e w' => e = .returned (.string m) ∧ w' = w := by
  go_enter Ybaf.func19, Ybaf.ntmps19
  go_wp2
  go_ret
  exact ⟨rfl, rfl⟩

theorem err39 (p : Option Addr) (w : World) :
    Calls Ybaf.prog 39 #[.pointer p] w fun e w' => (∃ m, e = .returned (.string m)) ∧ w' = w := by
  go_enter Ybaf.func39, Ybaf.ntmps39
  go_wp2
  go_ret
  exact ⟨⟨_, rfl⟩, rfl⟩

theorem err40 (p : Option Addr) (w : World) :
    Calls Ybaf.prog 40 #[.pointer p] w fun e w' => (∃ m, e = .returned (.string m)) ∧ w' = w := by
  go_enter Ybaf.func40, Ybaf.ntmps40
  go_wp2
  go_ret
  exact ⟨⟨_, rfl⟩, rfl⟩

set_option maxHeartbeats 2000000 in
theorem errorf_syntax (F : Interp) (b s : Nat) (m : ByteArray) (off : Int) (w : World) (hF : F.answers w.tape) (h0 : w.cell? ⟨b, 0, none⟩ = some (.iface 24 (.pointer (some ⟨s, 0, none⟩)))) (h1 : w.cell? ⟨b, 1, none⟩ = some (.iface 2 (.int .i64 off))) (hs : w.cell? ⟨s, 0, none⟩ = some (.string m)) :
    Calls Ybaf.prog 9 #[.string f1, .slice (some ⟨b, 0, none⟩) 2 2] w fun e w' => e = .returned (.iface 78 (.pointer (some ⟨w.heap.size, 0, none⟩))) ∧ ∃ t, w' = (w.alloc (.cells #[.string t] 80)).drew := by
  have hF' := answers_open hF
  unfold f1
  go_enter Ybaf.func9, Ybaf.ntmps9
  go_wp2
  apply rows_call Ybaf.nextTurns
  case hr =>
    go_simp
    exact ⟨⟨rfl, rfl, rfl⟩, rfl⟩
  case hi => exact Ybaf.invokeError24 _ _
  case hc =>
    refine (err19 s m _ hs).mono fun e w₃ ⟨he, hx⟩ => ?_
    subst he; subst hx
    apply rows_value Ybaf.nextReturned
    case hr =>
      go_simp
      exact ⟨rfl, rfl⟩
    case h =>
      go_wp2
      go_ret
      exact ⟨rfl, _, rfl⟩

set_option maxHeartbeats 2000000 in
theorem errorf_wrap27 (F : Interp) (b : Nat) (p : Option Addr) (w : World) (hF : F.answers w.tape) (h0 : w.cell? ⟨b, 0, none⟩ = some (.iface 27 (.pointer p))) :
    Calls Ybaf.prog 9 #[.string f2, .slice (some ⟨b, 0, none⟩) 1 1] w fun e w' => e = .returned (.iface 63 (.pointer (some ⟨w.heap.size, 0, none⟩))) ∧ ∃ t, w' = (w.alloc (.cells #[.string t, .iface 27 (.pointer p)] 101)).drew := by
  have hF' := answers_open hF
  unfold f2
  go_enter Ybaf.func9, Ybaf.ntmps9
  go_wp2
  apply rows_call Ybaf.nextTurns
  case hr =>
    go_simp
    exact ⟨⟨rfl, rfl, rfl⟩, rfl⟩
  case hi => exact Ybaf.invokeError27 _ _
  case hc =>
    refine (err39 p _).mono fun e w₃ ⟨⟨m, he⟩, hx⟩ => ?_
    subst he; subst hx
    apply rows_value Ybaf.nextReturned
    case hr =>
      go_simp
      exact ⟨rfl, rfl⟩
    case h =>
      go_wp2
      go_ret
      exact ⟨rfl, _, rfl⟩

set_option maxHeartbeats 2000000 in
theorem errorf_wrap30 (F : Interp) (b : Nat) (p : Option Addr) (w : World) (hF : F.answers w.tape) (h0 : w.cell? ⟨b, 0, none⟩ = some (.iface 30 (.pointer p))) :
    Calls Ybaf.prog 9 #[.string f2, .slice (some ⟨b, 0, none⟩) 1 1] w fun e w' => e = .returned (.iface 63 (.pointer (some ⟨w.heap.size, 0, none⟩))) ∧ ∃ t, w' = (w.alloc (.cells #[.string t, .iface 30 (.pointer p)] 101)).drew := by
  have hF' := answers_open hF
  unfold f2
  go_enter Ybaf.func9, Ybaf.ntmps9
  go_wp2
  apply rows_call Ybaf.nextTurns
  case hr =>
    go_simp
    exact ⟨⟨rfl, rfl, rfl⟩, rfl⟩
  case hi => exact Ybaf.invokeError30 _ _
  case hc =>
    refine (err40 p _).mono fun e w₃ ⟨⟨m, he⟩, hx⟩ => ?_
    subst he; subst hx
    apply rows_value Ybaf.nextReturned
    case hr =>
      go_simp
      exact ⟨rfl, rfl⟩
    case h =>
      go_wp2
      go_ret
      exact ⟨rfl, _, rfl⟩
end Go.Proofs.YbulkbzyeFmt
