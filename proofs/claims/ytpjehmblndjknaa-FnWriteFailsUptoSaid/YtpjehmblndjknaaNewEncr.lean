/-
  Walk: base64.NewEncoder.
-/
import Derived.Test.YtpjehmblndjknaaEncC
namespace Go.Proofs.Ytpjehmblndjknaa
open Go.RowKit
set_option linter.unusedSimpArgs false
set_option linter.unusedVariables false

theorem zcE_size : Try.zeroCells115.size = 1031 := by kernel_rfl
theorem zcE_0 : Try.zeroCells115[0]? = some .nilIface := by kernel_rfl
theorem zcE_6 : Try.zeroCells115[6]? = some (.int .i64 0) := by kernel_rfl

set_option maxRecDepth 100000 in
set_option maxHeartbeats 800000 in
theorem newEncoder_any (eb b : Nat) (w : World) :
    Calls Try.prog 44 #[.pointer (some ⟨eb, 0, none⟩), .iface 100 (.pointer (some ⟨b, 0, none⟩))] w fun e w' => e = .returned (.iface 111 (.pointer (some ⟨w.heap.size, 0, none⟩))) ∧ ESt w' w.heap.size eb b [] ∧ (∃ cs : Array Value, w' = w.alloc (.cells cs 115)) := by
  go_enter Try.func44, Try.ntmps44
  go_wp2_with fail
  go_ret
  refine ⟨rfl, ⟨_, heap_new w _, ?_, ?_, ?_, ?_, fun j x hx => by simp at hx, ?_, by decide⟩, _, rfl⟩
  · rw [Array.size_setIfInBounds, Array.size_setIfInBounds]; exact zcE_size
  · rw [Array.getElem?_setIfInBounds_ne (by decide), Array.getElem?_setIfInBounds_ne (by decide)]; exact zcE_0
  · rw [Array.getElem?_setIfInBounds_ne (by decide), Array.getElem?_setIfInBounds_self_of_lt (by rw [zcE_size]; decide)]
  · rw [Array.getElem?_setIfInBounds_self_of_lt (by rw [Array.size_setIfInBounds, zcE_size]; decide)]
  · rw [Array.getElem?_setIfInBounds_ne (by decide), Array.getElem?_setIfInBounds_ne (by decide)]; exact zcE_6
end Go.Proofs.Ytpjehmblndjknaa
