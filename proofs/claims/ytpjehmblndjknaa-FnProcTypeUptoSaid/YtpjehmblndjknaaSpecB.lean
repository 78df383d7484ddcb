/-
  Walks: spec.Plain.
-/
import Derived.Test.YtpjehmblndjknaaWorks
import Derived.BigQuiet
import Derived.Deep.QuietTactic
import Derived.Deep.Light
namespace Go.Proofs.Ytpjehmblndjknaa
open Go.RowKit Go.Maps
set_option linter.unusedSimpArgs false
set_option linter.unusedVariables false

theorem plainC_true {c : UInt8} (h : plainC c = true) : (97 ≤ (c.toNat : Int) ∧ (c.toNat : Int) ≤ 122) ∨ (65 ≤ (c.toNat : Int) ∧ (c.toNat : Int) ≤ 90) ∨ (48 ≤ (c.toNat : Int) ∧ (c.toNat : Int) ≤ 57) ∨ (c.toNat : Int) = 32 ∨ (c.toNat : Int) = 46 ∨ (c.toNat : Int) = 44 ∨ (c.toNat : Int) = 47 ∨ (c.toNat : Int) = 95 := by
  unfold plainC at h
  simp only [Bool.or_eq_true, Bool.and_eq_true, decide_eq_true_eq] at h
  omega
theorem plainC_false {c : UInt8} (h : plainC c = false) : ((c.toNat : Int) < 97 ∨ 122 < (c.toNat : Int)) ∧ ((c.toNat : Int) < 65 ∨ 90 < (c.toNat : Int)) ∧ ((c.toNat : Int) < 48 ∨ 57 < (c.toNat : Int)) ∧ (c.toNat : Int) ≠ 32 ∧ (c.toNat : Int) ≠ 46 ∧ (c.toNat : Int) ≠ 44 ∧ (c.toNat : Int) ≠ 47 ∧ (c.toNat : Int) ≠ 95 := by
  unfold plainC at h
  simp only [Bool.or_eq_false_iff, Bool.and_eq_false_iff, decide_eq_false_iff_not] at h
  omega

set_option maxRecDepth 100000 in
set_option maxHeartbeats 1600000 in
theorem plain_any (l : List UInt8) (w : World) (hm : l.length ≤ 9223372036854775807) :
    Calls Try.prog 24 #[.string (bs l)] w fun e w' => e = .returned (.bool (plainS l)) ∧ w = w' := by
  generalize hR : plainS l = R
  have HR := hide hR
  clear hR
  go_enter Try.func24, Try.ntmps24
  go_wp2
  go_loop [7] (fun vk => ∃ k : Nat, k ≤ l.length ∧ vk = .int .i64 (k : Int) ∧ Hid (∀ (j : Nat) c, l[j]? = some c → j < k → plainC c = true)) (fun vk => l.length - (intOf vk).toNat)
  case atStart => exact ⟨0, Nat.zero_le _, rfl, fun j c _ h => absurd h (by omega)⟩
  case round =>
    obtain ⟨k, hk, rfl, HA⟩ := hrel
    by_cases hlt : k < l.length
    · obtain ⟨c, hc⟩ : ∃ c, l[k] = c := ⟨_, rfl⟩
      have hb := bounds_byte c
      have HC : Hid (l[k]? = some c) := by rw [← hc]; exact List.getElem?_eq_getElem hlt
      cases hp : plainC c with
      | true =>
        have hcases := plainC_true hp
        have HA2 : Hid (∀ (j : Nat) c, l[j]? = some c → j < k + 1 → plainC c = true) := by
          intro j x hx hj
          by_cases e : j = k
          · subst e; rw [unhide HC] at hx; cases hx; exact hp
          · exact unhide HA j x hx (by omega)
        clear hp
        go_wp2
        all_goals (first
          | (refine ⟨⟨k + 1, by omega, by go_num, HA2⟩, ?_⟩; simp [intOf]; omega)
          | (exfalso; go_light; simp only [bne_iff_ne, ne_eq, bne_eq_false_iff_eq] at *; omega))
      | false =>
        have hcases := plainC_false hp
        obtain ⟨y1, y2, y3, y4, y5, y6, y7, y8⟩ := hcases
        have HF : Hid (R = false) := by
          rw [← unhide HR]
          show plainS l = false
          have : l.all plainC = false := by
            rw [List.all_eq_false]
            exact ⟨c, List.mem_of_getElem? (unhide HC), by simp [hp]⟩
          unfold plainS
          simp [this]
        clear hp
        go_wp2
        all_goals (first
          | (go_ret; exact ⟨ret_bool (unhide HF).symm, rfl⟩)
          | (exfalso; go_light; simp only [bne_iff_ne, ne_eq, bne_eq_false_iff_eq] at *; omega))
    · have hall : l.all plainC = true := by
        rw [List.all_eq_true]
        intro c hc
        obtain ⟨j, hj, rfl⟩ := List.getElem_of_mem hc
        exact unhide HA j _ (List.getElem?_eq_getElem hj) (by omega)
      by_cases h0 : l = []
      · subst h0
        have HF : Hid (R = false) := by rw [← unhide HR]; show plainS [] = false; decide
        clear hall HA HR
        go_wp2
        go_ret
        exact ⟨ret_bool (unhide HF).symm, rfl⟩
      · have hpos : 0 < l.length := List.length_pos_iff.2 h0
        obtain ⟨x, hx⟩ : ∃ x, l[0] = x := ⟨_, rfl⟩
        obtain ⟨y, hy⟩ : ∃ y, l[l.length - 1] = y := ⟨_, rfl⟩
        have hbx := bounds_byte x
        have hby := bounds_byte y
        have hR2 : R = (!decide (x = 32) && !decide (y = 32)) := by
          rw [← unhide HR]
          unfold plainS
          have e1 : l.isEmpty = false := by cases l <;> simp_all
          have e2 : l.head? = some x := by rw [← hx, List.head?_eq_getElem?, List.getElem?_eq_getElem hpos]
          have e3 : l.getLast? = some y := by rw [← hy, List.getLast?_eq_getElem?, List.getElem?_eq_getElem (by omega)]
          rw [hall, e1, e2, e3]
          simp
        have hx32 : (x = 32) ↔ (x.toNat : Int) = 32 := by rw [← UInt8.toNat_inj]; show x.toNat = 32 ↔ _; omega
        have hy32 : (y = 32) ↔ (y.toNat : Int) = 32 := by rw [← UInt8.toNat_inj]; show y.toNat = 32 ↔ _; omega
        have HF := hide hR2
        have HX := hide hx32
        have HY := hide hy32
        have hne : (l == []) = false := by simpa using h0
        have hne2 : (!l.isEmpty) = true := by simpa using h0
        clear hall HA HR hR2 hx32 hy32
        go_wp2
        all_goals (
          go_ret
          refine ⟨ret_bool ?_, rfl⟩
          rw [unhide HF]
          have g1 := unhide HX
          have g2 := unhide HY
          go_light
          clear HF HX HY
          by_cases e1 : (x.toNat : Int) = 32 <;> by_cases e2 : (y.toNat : Int) = 32 <;> simp_all)
end Go.Proofs.Ytpjehmblndjknaa
