/-
  Walks: zzIndex and zzContains for one byte: the colon.
-/
import Derived.Test.YtpjehmblndjknaaDoorStr
import Derived.Test.YtpjehmblndjknaaDoorRows
import Derived.Handy
namespace Go.Proofs.YtpjehmblndjknaaDoor
open Go.RowKit
set_option linter.unusedSimpArgs false
set_option linter.unusedVariables false

/-- Is there a colon? -/
def hasColon (l : List UInt8) : Bool := decide ((58 : UInt8) ∈ l)

set_option maxRecDepth 100000 in
set_option maxHeartbeats 800000 in
theorem zzIndex_colon (l : List UInt8) (w : World) (hm : l.length ≤ 9223372036854775806) :
    Calls Tryd.prog 63 #[.string (bs l), .string (bs [58])] w fun e w' => ∃ i : Int, e = .returned (.int .i64 i) ∧ decide (0 ≤ i) = hasColon l ∧ w = w' := by
  go_enter Tryd.func63, Tryd.ntmps63
  go_wp2
  go_loop [5] (fun vk => ∃ k : Nat, k ≤ l.length ∧ vk = .int .i64 (k : Int) ∧ Hid (∀ j, j < k → l[j]? ≠ some 58)) (fun vk => l.length - (intOf vk).toNat)
  case atStart => exact ⟨0, Nat.zero_le _, rfl, fun j h => absurd h (by omega)⟩
  case round =>
    obtain ⟨k, hk, rfl, HA⟩ := hrel
    by_cases hlt : k < l.length
    · have hx : (l.take (k + 1)).drop k = [l[k]] := by
        rw [List.drop_take, show k + 1 - k = 1 by omega, List.drop_eq_getElem_cons hlt]; rfl
      have hx2 : l[k]? = some l[k] := List.getElem?_eq_getElem hlt
      by_cases hq : ((l.take (k + 1)).drop k == [58]) = true
      · have HX : Hid (hasColon l = true) := by
          have h : l[k] = 58 := by rw [hx] at hq; simpa using hq
          rw [h] at hx2
          exact decide_eq_true (List.mem_of_getElem? hx2)
        clear hx hx2
        go_wp2
        go_ret
        exact ⟨_, rfl, by rw [unhide HX]; exact decide_eq_true (by omega), rfl⟩
      · have HA2 : Hid (∀ j, j < k + 1 → l[j]? ≠ some 58) := by
          intro j hj
          by_cases e : j = k
          · subst e
            rw [hx2]
            intro h
            apply hq
            rw [hx, Option.some.inj h]; rfl
          · exact unhide HA j (by omega)
        have hq : ((l.take (k + 1)).drop k == [58]) = false := by simpa using hq
        clear hx hx2
        go_wp2
        refine ⟨⟨k + 1, by omega, by go_num, HA2⟩, ?_⟩
        simp [intOf]; omega
    · have HX : Hid (hasColon l = false) := by
        refine decide_eq_false fun h => ?_
        obtain ⟨j, hj, e⟩ := List.getElem_of_mem h
        exact unhide HA j (by omega) (by rw [List.getElem?_eq_getElem hj, e])
      have hn : ¬ ((k : Int) + 1 ≤ (l.length : Int)) := by omega
      clear hlt
      go_wp2
      go_ret
      exact ⟨_, rfl, by rw [unhide HX]; rfl, rfl⟩

set_option maxRecDepth 100000 in
set_option maxHeartbeats 400000 in
theorem zzContains_colon (l : List UInt8) (w : World) (hm : l.length ≤ 9223372036854775806) :
    Calls Tryd.prog 49 #[.string (bs l), .string (bs [58])] w fun e w' => e = .returned (.bool (hasColon l)) ∧ w = w' := by
  have H := hide (zzIndex_colon l w hm)
  go_enter Tryd.func49, Tryd.ntmps49
  go_wp2_with fail
  refine (unhide H).mono ?_
  rintro e w' ⟨i, rfl, hi, rfl⟩
  have HI := hide hi
  clear hi H
  go_wp2
  go_ret
  exact ⟨by rw [← unhide HI]; rfl, rfl⟩
end Go.Proofs.YtpjehmblndjknaaDoor
