/-
  Walk: base64.NewEncoder.
-/
import Derived.Test.YtpjehmblndjknaaDoorEncC
namespace Go.Proofs.YtpjehmblndjknaaDoor
open Go.RowKit
set_option linter.unusedSimpArgs false
set_option linter.unusedVariables false

theorem zcE_size : Tryd.zeroCells133.size = 1031 := by kernel_rfl
theorem zcE_0 : Tryd.zeroCells133[0]? = some .nilIface := by kernel_rfl
theorem zcE_6 : Tryd.zeroCells133[6]? = some (.int .i64 0) := by kernel_rfl

set_option maxRecDepth 100000 in
set_option maxHeartbeats 800000 in
theorem newEncoder_any (eb b : Nat) (w : World) :
    Calls Tryd.prog 53 #[.pointer (some ⟨eb, 0, none⟩), .iface 110 (.pointer (some ⟨b, 0, none⟩))] w fun e w' => e = .returned (.iface 129 (.pointer (some ⟨w.heap.size, 0, none⟩))) ∧ ESt w' w.heap.size eb b [] ∧ (∃ cs : Array Value, w' = w.alloc (.cells cs 133)) := by
  go_enter Tryd.func53, Tryd.ntmps53
  go_wp2_with fail
  go_ret
  refine ⟨rfl, ⟨_, heap_new w _, ?_, ?_, ?_, ?_, fun j x hx => by simp at hx, ?_, by decide⟩, _, rfl⟩
  · rw [Array.size_setIfInBounds, Array.size_setIfInBounds]; exact zcE_size
  · rw [Array.getElem?_setIfInBounds_ne (by decide), Array.getElem?_setIfInBounds_ne (by decide)]; exact zcE_0
  · rw [Array.getElem?_setIfInBounds_ne (by decide), Array.getElem?_setIfInBounds_self_of_lt (by rw [zcE_size]; decide)]
  · rw [Array.getElem?_setIfInBounds_self_of_lt (by rw [Array.size_setIfInBounds, zcE_size]; decide)]
  · rw [Array.getElem?_setIfInBounds_ne (by decide), Array.getElem?_setIfInBounds_ne (by decide)]; exact zcE_6
end Go.Proofs.YtpjehmblndjknaaDoor
