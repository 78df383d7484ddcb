/-
  Walk: base64.NewEncoder.
-/
import Derived.Test.YtpjehmblndjknaaGreatDoorEncC
namespace Go.Proofs.YtpjehmblndjknaaGreatDoor
open Go.RowKit
set_option linter.unusedSimpArgs false
set_option linter.unusedVariables false

theorem zcE_size : Tryz.zeroCells145.size = 1031 := by kernel_rfl
theorem zcE_0 : Tryz.zeroCells145[0]? = some .nilIface := by kernel_rfl
theorem zcE_6 : Tryz.zeroCells145[6]? = some (.int .i64 0) := by kernel_rfl

set_option maxRecDepth 100000 in
set_option maxHeartbeats 800000 in
theorem newEncoder_any (eb b : Nat) (w : World) :
    Calls Tryz.prog 64 #[.pointer (some ⟨eb, 0, none⟩), .iface 120 (.pointer (some ⟨b, 0, none⟩))] w fun e w' => e = .returned (.iface 141 (.pointer (some ⟨w.heap.size, 0, none⟩))) ∧ ESt w' w.heap.size eb b [] ∧ (∃ cs : Array Value, w' = w.alloc (.cells cs 145)) := by
  go_enter Tryz.func64, Tryz.ntmps64
  go_wp2_with fail
  go_ret
  refine ⟨rfl, ⟨_, heap_new w _, ?_, ?_, ?_, ?_, fun j x hx => by simp at hx, ?_, by decide⟩, _, rfl⟩
  · rw [Array.size_setIfInBounds, Array.size_setIfInBounds]; exact zcE_size
  · rw [Array.getElem?_setIfInBounds_ne (by decide), Array.getElem?_setIfInBounds_ne (by decide)]; exact zcE_0
  · rw [Array.getElem?_setIfInBounds_ne (by decide), Array.getElem?_setIfInBounds_self_of_lt (by rw [zcE_size]; decide)]
  · rw [Array.getElem?_setIfInBounds_self_of_lt (by rw [Array.size_setIfInBounds, zcE_size]; decide)]
  · rw [Array.getElem?_setIfInBounds_ne (by decide), Array.getElem?_setIfInBounds_ne (by decide)]; exact zcE_6
end Go.Proofs.YtpjehmblndjknaaGreatDoor
