/-
  A new lineBreaker.
-/
import Derived.Test.YtpjehmblndjknaaDoorBreakerU
import Derived.Deep.WholeRow
namespace Go.Proofs.YtpjehmblndjknaaDoor
open Go.RowKit
set_option linter.unusedSimpArgs false
set_option linter.unusedVariables false

theorem zc80_size : Tryd.zeroCells106.size = 66 := by kernel_rfl
theorem zc80_64 : Tryd.zeroCells106[64]? = some (.int .i64 0) := by kernel_rfl
theorem zc80_one : Tryd.zeroCells106.all (·.oneCell') = true := by kernel_rfl
theorem info80 : (Tryd.prog.info? 106).map (·.size) = some 66 := by kernel_rfl

/-- A new lineBreaker. -/
noncomputable def brkNew (T : TypeId) (v : Value) : Array Value := Tryd.zeroCells106.setIfInBounds 65 (.iface T v)
theorem brkNew_size (T : TypeId) (v : Value) : (brkNew T v).size = 66 := by unfold brkNew; rw [Array.size_setIfInBounds]; exact zc80_size
theorem brkNew_one (T : TypeId) (v : Value) : (brkNew T v).all (·.oneCell') = true := by
  rw [← Array.all_toList, List.all_eq_true]
  intro x hx
  unfold brkNew at hx
  rw [Array.toList_setIfInBounds] at hx
  have h := zc80_one
  rw [← Array.all_toList, List.all_eq_true] at h
  rcases List.mem_or_eq_of_mem_set hx with h1 | rfl
  · exact h x h1
  · rfl
theorem brk_store (W : World) (T : TypeId) (v : Value) : (storeCells ⟨W.heap.size, 0, none⟩ (Tryd.zeroCells106.toList.set 65 (.iface T v))).run Tryd.prog (W.alloc (.cells Tryd.zeroCells106 106)) = .ok () (W.alloc (.cells (brkNew T v) 106)) := by
  have h := run_storeCells_new (P := Tryd.prog) W 106 Tryd.zeroCells106 (brkNew T v) (by rw [brkNew_size]; exact info80) (by rw [brkNew_size]; exact zc80_size) (brkNew_one T v)
  unfold brkNew at h
  rw [Array.toList_setIfInBounds] at h
  exact h
theorem Brk.fresh (W : World) (T : TypeId) (v : Value) : Brk (W.alloc (.cells (brkNew T v) 106)) W.heap.size T v [] := by
  refine ⟨_, heap_new W _, brkNew_size T v, by decide, rfl, ?_, ?_⟩
  · unfold brkNew; rw [Array.getElem?_setIfInBounds_ne (by decide)]; exact zc80_64
  · unfold brkNew; rw [Array.getElem?_setIfInBounds_self_of_lt (by rw [zc80_size]; decide)]

end Go.Proofs.YtpjehmblndjknaaDoor
