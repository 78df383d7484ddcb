/-
  Walk: spec.line.
-/
import Derived.Test.YtpjehmblndjknaaStr
import Derived.Test.YtpjehmblndjknaaPlain
import Derived.Test.YtpjehmblndjknaaRows
import Derived.BigQuiet
import Derived.Deep.QuietTactic
import Derived.Handy
import Derived.Outline
namespace Go.Proofs.Ytpjehmblndjknaa
open Go.RowKit
set_option linter.unusedSimpArgs false
set_option linter.unusedVariables false

set_option maxRecDepth 100000 in
set_option maxHeartbeats 800000 in
theorem specline_any (l : List UInt8) (w : World) (hm : l.length ≤ 281474976710656) :
    Calls Try.prog 29 #[.string (bs l)] w fun e w' => e = .returned (.tuple #[.string (bs (preNL l)), .string (bs (restP l)), .bool (hasNL l)]) ∧ ∃ n, w' = w.drewN n := by
  generalize hR : Ending.returned (.tuple #[.string (bs (preNL l)), .string (bs (restP l)), .bool (hasNL l)]) = R
  have HR := hide hR
  clear hR
  go_enter Try.func29, Try.ntmps29
  go_wp2
  go_loop [8] (fun vk => ∃ k : Nat, k ≤ l.length ∧ vk = .int .i64 k ∧ Hid (∀ j, j < k → l[j]? ≠ some 10)) (fun vk => l.length - (intOf vk).toNat)
  case atStart => exact ⟨0, Nat.zero_le _, rfl, fun j h => absurd h (by omega)⟩
  case round =>
    obtain ⟨k, hk, rfl, HA⟩ := hrel
    by_cases hlt : k < l.length
    · obtain ⟨x, hx⟩ : ∃ x, l[k] = x := ⟨_, rfl⟩
      have hx2 : l[k]? = some x := by rw [List.getElem?_eq_getElem hlt, hx]
      have hbx := bounds_byte x
      by_cases h10 : x = 10
      · subst h10
        obtain ⟨g1, g2⟩ := nl_at (unhide HA) hx2
        have e1 : R = .returned (.tuple #[.string (bs (l.take k)), .string (bs (l.drop (k + 1))), .bool true]) := by
          rw [← unhide HR, g1, preNL_take, g2]
          unfold restP
          rw [if_pos g1, g2]
        have HE := hide e1
        have q1 : (((10 : UInt8).toNat : Int) == 10) = true := by decide
        clear e1 g1 g2 hx2
        go_wp2
        go_quiet (fail)
        go_wp2
        go_ret3
        exact ⟨(unhide HE).symm, _, rfl⟩
      · have q1 : ((x.toNat : Int) == 10) = false := by
          rw [beq_eq_false_iff_ne]
          intro e
          apply h10
          rw [← UInt8.toNat_inj]
          have : (10 : UInt8).toNat = 10 := rfl
          omega
        have HA2 : Hid (∀ j, j < k + 1 → l[j]? ≠ some 10) := by
          intro j hj
          by_cases e : j = k
          · subst e; rw [hx2]; intro h; exact h10 (Option.some.inj h)
          · exact unhide HA j (by omega)
        clear hx2 h10
        go_wp2
        refine ⟨⟨k + 1, by omega, by go_num, HA2⟩, ?_⟩
        simp [intOf]; omega
    · have g1 := nl_none (fun j hj => unhide HA j (by omega))
      have e1 : R = .returned (.tuple #[.string (bs l), .string (bs []), .bool false]) := by
        rw [← unhide HR, g1, preNL_no g1]
        unfold restP
        rw [g1]; rfl
      have HE := hide e1
      clear e1 g1
      go_wp2
      go_ret3
      exact ⟨(unhide HE).symm, 0, rfl⟩

end Go.Proofs.Ytpjehmblndjknaa
