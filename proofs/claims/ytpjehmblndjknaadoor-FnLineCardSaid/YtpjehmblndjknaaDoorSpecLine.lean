/-
  Walks: spec.line, spec.Line.
-/
import Derived.Test.YtpjehmblndjknaaDoorStr
import Derived.Test.YtpjehmblndjknaaDoorPlain
import Derived.Test.YtpjehmblndjknaaDoorRows
import Derived.BigQuiet
import Derived.Deep.QuietTactic
import Derived.Handy
import Derived.Outline
namespace Go.Proofs.YtpjehmblndjknaaDoor
open Go.RowKit
set_option linter.unusedSimpArgs false
set_option linter.unusedVariables false

set_option maxRecDepth 100000 in
set_option maxHeartbeats 800000 in
theorem specline_any (l : List UInt8) (w : World) (hm : l.length ≤ 281474976710656) :
    Calls Tryd.prog 11 #[.string (bs l)] w fun e w' => e = .returned (.tuple #[.string (bs (preNL l)), .string (bs (restP l)), .bool (hasNL l)]) ∧ ∃ n, w' = w.drewN n := by
  generalize hR : Ending.returned (.tuple #[.string (bs (preNL l)), .string (bs (restP l)), .bool (hasNL l)]) = R
  have HR := hide hR
  clear hR
  go_enter Tryd.func11, Tryd.ntmps11
  go_wp2
  go_loop [8] (fun vk => ∃ k : Nat, k ≤ l.length ∧ vk = .int .i64 k ∧ Hid (∀ j, j < k → l[j]? ≠ some 10)) (fun vk => l.length - (intOf vk).toNat)
  case atStart => exact ⟨0, Nat.zero_le _, rfl, fun j h => absurd h (by omega)⟩
  case round =>
    obtain ⟨k, hk, rfl, HA⟩ := hrel
    by_cases hlt : k < l.length
    · obtain ⟨x, hx⟩ : ∃ x, l[k] = x := ⟨_, rfl⟩
      have hx2 : l[k]? = some x := by rw [List.getElem?_eq_getElem hlt, hx]
      have hbx := bounds_byte x
      by_cases h10 : x = 10
      · subst h10
        obtain ⟨g1, g2⟩ := nl_at (unhide HA) hx2
        have e1 : R = .returned (.tuple #[.string (bs (l.take k)), .string (bs (l.drop (k + 1))), .bool true]) := by
          rw [← unhide HR, g1, preNL_take, g2]
          unfold restP
          rw [if_pos g1, g2]
        have HE := hide e1
        have q1 : (((10 : UInt8).toNat : Int) == 10) = true := by decide
        clear e1 g1 g2 hx2
        go_wp2
        go_quiet (fail)
        go_wp2
        go_ret3
        exact ⟨(unhide HE).symm, _, rfl⟩
      · have q1 : ((x.toNat : Int) == 10) = false := by
          rw [beq_eq_false_iff_ne]
          intro e
          apply h10
          rw [← UInt8.toNat_inj]
          have : (10 : UInt8).toNat = 10 := rfl
          omega
        have HA2 : Hid (∀ j, j < k + 1 → l[j]? ≠ some 10) := by
          intro j hj
          by_cases e : j = k
          · subst e; rw [hx2]; intro h; exact h10 (Option.some.inj h)
          · exact unhide HA j (by omega)
        clear hx2 h10
        go_wp2
        refine ⟨⟨k + 1, by omega, by go_num, HA2⟩, ?_⟩
        simp [intOf]; omega
    · have g1 := nl_none (fun j hj => unhide HA j (by omega))
      have e1 : R = .returned (.tuple #[.string (bs l), .string (bs []), .bool false]) := by
        rw [← unhide HR, g1, preNL_no g1]
        unfold restP
        rw [g1]; rfl
      have HE := hide e1
      clear e1 g1
      go_wp2
      go_ret3
      exact ⟨(unhide HE).symm, 0, rfl⟩

set_option maxRecDepth 100000 in
set_option maxHeartbeats 1600000 in
theorem specLine_no (l : List UInt8) (w : World) (hm : l.length ≤ 281474976710656) (hnl : hasNL l = false) :
    Calls Tryd.prog 6 #[.string (bs l)] w fun e w' => e = .returned (.tuple #[.string (bs (lineP l)), .string (bs (restP l))]) ∧ ∃ n, w' = w.drewN n := by
  have hline := specline_any l w hm
  have hpl := preNL_le l
  have HF : Hid (lineP l = trimR l) := by unfold lineP; rw [hnl]; rfl
  rw [hnl, preNL_no hnl] at hline
  have HL := hide hline
  clear hline hpl hnl
  generalize hR : Ending.returned (.tuple #[.string (bs (lineP l)), .string (bs (restP l))]) = R
  have HR := hide hR
  clear hR
  go_enter Tryd.func6, Tryd.ntmps6
  go_wp2_with fail
  refine (unhide HL).mono ?_
  rintro e w' ⟨rfl, n0, rfl⟩
  clear HL
  go_wp2
  go_loop [2, 6] (fun vf vn => ∃ G : List UInt8, vf = .string (bs G) ∧ vn = .int .i64 (G.length : Int) ∧ Hid (trimR G = trimR (l)) ∧ G.length ≤ 281474976710656) (fun _ vn => (intOf vn).toNat)
  case atStart => exact ⟨l, rfl, by first | rfl | (rw [List.length_append]; rfl) | simp, rfl, hm⟩
  case round =>
    obtain ⟨G, rfl, rfl, HT, hG⟩ := hrel
    rcases List.eq_nil_or_concat G with rfl | ⟨G', x, rfl⟩
    · have HE : Hid (R = .returned (.tuple #[.string (bs []), .string (bs (restP l))])) := by
        have e := unhide HT
        show _ = _
        rw [← unhide HR, unhide HF, ← e]; rfl
      go_wp2
      go_ret2
      exact ⟨(unhide HE).symm, n0, rfl⟩
    · simp only [List.concat_eq_append] at hG HT ⊢
      have e := unhide HT
      rw [trimR_snoc] at e
      have hbx := bounds_byte x
      have hG2 : G'.length + 1 ≤ 281474976710656 := by have : (G' ++ [x]).length = G'.length + 1 := by simp
                                                       omega
      have hbl : blankB x = (decide ((x.toNat : Int) = 32) || decide ((x.toNat : Int) = 9)) := by
        show isBl x = _
        rw [isBl_nat]
        congr 1 <;> rw [decide_eq_decide] <;> omega
      by_cases q1 : ((x.toNat : Int) == 32) = true
      · have E := hide (by rw [hbl, if_pos (by simp at q1; simp [q1])] at e; exact e : trimR G' = trimR (l))
        clear e hbl hG HT
        go_wp2
        refine ⟨⟨G', rfl, rfl, E, by omega⟩, ?_⟩
        simp [intOf]
      · have q1 : ((x.toNat : Int) == 32) = false := by simpa using q1
        by_cases q2 : ((x.toNat : Int) == 9) = true
        · have E := hide (by rw [hbl, if_pos (by simp at q2; simp [q2])] at e; exact e : trimR G' = trimR (l))
          clear e hbl hG HT
          go_wp2
          refine ⟨⟨G', rfl, rfl, E, by omega⟩, ?_⟩
          simp [intOf]
        · have q2 : ((x.toNat : Int) == 9) = false := by simpa using q2
          have HE : Hid (R = .returned (.tuple #[.string (bs (G' ++ [x])), .string (bs (restP l))])) := by
            rw [hbl, if_neg (by simp at q1 q2; simp [q1, q2])] at e
            show _ = _
            rw [← unhide HR, unhide HF, e]
          clear e hbl hG HT
          go_wp2
          go_ret2
          exact ⟨(unhide HE).symm, n0, rfl⟩

set_option maxRecDepth 100000 in
set_option maxHeartbeats 1600000 in
theorem specLine_empty (l : List UInt8) (w : World) (hm : l.length ≤ 281474976710656) (hnl : hasNL l = true) (hp : preNL l = []) :
    Calls Tryd.prog 6 #[.string (bs l)] w fun e w' => e = .returned (.tuple #[.string (bs (lineP l)), .string (bs (restP l))]) ∧ ∃ n, w' = w.drewN n := by
  have hline := specline_any l w hm
  have hpl := preNL_le l
  have HF : Hid (lineP l = trimR []) := by unfold lineP; rw [hnl, hp]; rfl
  rw [hnl, hp] at hline
  have HL := hide hline
  clear hline hpl hnl hp
  generalize hR : Ending.returned (.tuple #[.string (bs (lineP l)), .string (bs (restP l))]) = R
  have HR := hide hR
  clear hR
  go_enter Tryd.func6, Tryd.ntmps6
  go_wp2_with fail
  refine (unhide HL).mono ?_
  rintro e w' ⟨rfl, n0, rfl⟩
  clear HL
  go_wp2
  go_loop [2, 6] (fun vf vn => ∃ G : List UInt8, vf = .string (bs G) ∧ vn = .int .i64 (G.length : Int) ∧ Hid (trimR G = trimR ([])) ∧ G.length ≤ 281474976710656) (fun _ vn => (intOf vn).toNat)
  case atStart => exact ⟨[], rfl, by first | rfl | (rw [List.length_append]; rfl) | simp, rfl, by simp⟩
  case round =>
    obtain ⟨G, rfl, rfl, HT, hG⟩ := hrel
    rcases List.eq_nil_or_concat G with rfl | ⟨G', x, rfl⟩
    · have HE : Hid (R = .returned (.tuple #[.string (bs []), .string (bs (restP l))])) := by
        have e := unhide HT
        show _ = _
        rw [← unhide HR, unhide HF, ← e]; rfl
      go_wp2
      go_ret2
      exact ⟨(unhide HE).symm, n0, rfl⟩
    · simp only [List.concat_eq_append] at hG HT ⊢
      have e := unhide HT
      rw [trimR_snoc] at e
      have hbx := bounds_byte x
      have hG2 : G'.length + 1 ≤ 281474976710656 := by have : (G' ++ [x]).length = G'.length + 1 := by simp
                                                       omega
      have hbl : blankB x = (decide ((x.toNat : Int) = 32) || decide ((x.toNat : Int) = 9)) := by
        show isBl x = _
        rw [isBl_nat]
        congr 1 <;> rw [decide_eq_decide] <;> omega
      by_cases q1 : ((x.toNat : Int) == 32) = true
      · have E := hide (by rw [hbl, if_pos (by simp at q1; simp [q1])] at e; exact e : trimR G' = trimR ([]))
        clear e hbl hG HT
        go_wp2
        refine ⟨⟨G', rfl, rfl, E, by omega⟩, ?_⟩
        simp [intOf]
      · have q1 : ((x.toNat : Int) == 32) = false := by simpa using q1
        by_cases q2 : ((x.toNat : Int) == 9) = true
        · have E := hide (by rw [hbl, if_pos (by simp at q2; simp [q2])] at e; exact e : trimR G' = trimR ([]))
          clear e hbl hG HT
          go_wp2
          refine ⟨⟨G', rfl, rfl, E, by omega⟩, ?_⟩
          simp [intOf]
        · have q2 : ((x.toNat : Int) == 9) = false := by simpa using q2
          have HE : Hid (R = .returned (.tuple #[.string (bs (G' ++ [x])), .string (bs (restP l))])) := by
            rw [hbl, if_neg (by simp at q1 q2; simp [q1, q2])] at e
            show _ = _
            rw [← unhide HR, unhide HF, e]
          clear e hbl hG HT
          go_wp2
          go_ret2
          exact ⟨(unhide HE).symm, n0, rfl⟩

set_option maxRecDepth 100000 in
set_option maxHeartbeats 1600000 in
theorem specLine_cr (l : List UInt8) (w : World) (hm : l.length ≤ 281474976710656) (F : List UInt8) (y : UInt8) (hnl : hasNL l = true) (hp : preNL l = F ++ [y]) (h13 : ((y.toNat : Int) == 13) = true) :
    Calls Tryd.prog 6 #[.string (bs l)] w fun e w' => e = .returned (.tuple #[.string (bs (lineP l)), .string (bs (restP l))]) ∧ ∃ n, w' = w.drewN n := by
  have hline := specline_any l w hm
  have hpl := preNL_le l
  have HF : Hid (lineP l = trimR F) := by
    have hy : y = 13 := by
      have h : (y.toNat : Int) = 13 := by simpa using h13
      rw [← UInt8.toNat_inj]
      have : (13 : UInt8).toNat = 13 := rfl
      omega
    show lineP l = _
    unfold lineP dropCR; rw [hnl, hp, hy]; simp
  rw [hnl, hp] at hline
  rw [hp, List.length_append, List.length_cons, List.length_nil] at hpl
  have hF : F.length + 1 ≤ 281474976710656 := by omega
  have hby := bounds_byte y
  have HL := hide hline
  clear hline hpl hnl hp
  generalize hR : Ending.returned (.tuple #[.string (bs (lineP l)), .string (bs (restP l))]) = R
  have HR := hide hR
  clear hR
  go_enter Tryd.func6, Tryd.ntmps6
  go_wp2_with fail
  refine (unhide HL).mono ?_
  rintro e w' ⟨rfl, n0, rfl⟩
  clear HL
  go_wp2
  go_loop [2, 6] (fun vf vn => ∃ G : List UInt8, vf = .string (bs G) ∧ vn = .int .i64 (G.length : Int) ∧ Hid (trimR G = trimR (F)) ∧ G.length ≤ 281474976710656) (fun _ vn => (intOf vn).toNat)
  case atStart => exact ⟨F, rfl, by first | rfl | (rw [List.length_append]; rfl) | simp, rfl, by omega⟩
  case round =>
    obtain ⟨G, rfl, rfl, HT, hG⟩ := hrel
    rcases List.eq_nil_or_concat G with rfl | ⟨G', x, rfl⟩
    · have HE : Hid (R = .returned (.tuple #[.string (bs []), .string (bs (restP l))])) := by
        have e := unhide HT
        show _ = _
        rw [← unhide HR, unhide HF, ← e]; rfl
      go_wp2
      go_ret2
      exact ⟨(unhide HE).symm, n0, rfl⟩
    · simp only [List.concat_eq_append] at hG HT ⊢
      have e := unhide HT
      rw [trimR_snoc] at e
      have hbx := bounds_byte x
      have hG2 : G'.length + 1 ≤ 281474976710656 := by have : (G' ++ [x]).length = G'.length + 1 := by simp
                                                       omega
      have hbl : blankB x = (decide ((x.toNat : Int) = 32) || decide ((x.toNat : Int) = 9)) := by
        show isBl x = _
        rw [isBl_nat]
        congr 1 <;> rw [decide_eq_decide] <;> omega
      by_cases q1 : ((x.toNat : Int) == 32) = true
      · have E := hide (by rw [hbl, if_pos (by simp at q1; simp [q1])] at e; exact e : trimR G' = trimR (F))
        clear e hbl hG HT
        go_wp2
        refine ⟨⟨G', rfl, rfl, E, by omega⟩, ?_⟩
        simp [intOf]
      · have q1 : ((x.toNat : Int) == 32) = false := by simpa using q1
        by_cases q2 : ((x.toNat : Int) == 9) = true
        · have E := hide (by rw [hbl, if_pos (by simp at q2; simp [q2])] at e; exact e : trimR G' = trimR (F))
          clear e hbl hG HT
          go_wp2
          refine ⟨⟨G', rfl, rfl, E, by omega⟩, ?_⟩
          simp [intOf]
        · have q2 : ((x.toNat : Int) == 9) = false := by simpa using q2
          have HE : Hid (R = .returned (.tuple #[.string (bs (G' ++ [x])), .string (bs (restP l))])) := by
            rw [hbl, if_neg (by simp at q1 q2; simp [q1, q2])] at e
            show _ = _
            rw [← unhide HR, unhide HF, e]
          clear e hbl hG HT
          go_wp2
          go_ret2
          exact ⟨(unhide HE).symm, n0, rfl⟩

set_option maxRecDepth 100000 in
set_option maxHeartbeats 1600000 in
theorem specLine_plain (l : List UInt8) (w : World) (hm : l.length ≤ 281474976710656) (F : List UInt8) (y : UInt8) (hnl : hasNL l = true) (hp : preNL l = F ++ [y]) (h13 : ((y.toNat : Int) == 13) = false) :
    Calls Tryd.prog 6 #[.string (bs l)] w fun e w' => e = .returned (.tuple #[.string (bs (lineP l)), .string (bs (restP l))]) ∧ ∃ n, w' = w.drewN n := by
  have hline := specline_any l w hm
  have hpl := preNL_le l
  have HF : Hid (lineP l = trimR (F ++ [y])) := by
    have hy : ¬ y = 13 := by
      rintro rfl
      simp at h13
    show lineP l = _
    unfold lineP dropCR; rw [hnl, hp]; simp [hy]
  rw [hnl, hp] at hline
  rw [hp, List.length_append, List.length_cons, List.length_nil] at hpl
  have hF : F.length + 1 ≤ 281474976710656 := by omega
  have hby := bounds_byte y
  have HL := hide hline
  clear hline hpl hnl hp
  generalize hR : Ending.returned (.tuple #[.string (bs (lineP l)), .string (bs (restP l))]) = R
  have HR := hide hR
  clear hR
  go_enter Tryd.func6, Tryd.ntmps6
  go_wp2_with fail
  refine (unhide HL).mono ?_
  rintro e w' ⟨rfl, n0, rfl⟩
  clear HL
  go_wp2
  go_loop [2, 6] (fun vf vn => ∃ G : List UInt8, vf = .string (bs G) ∧ vn = .int .i64 (G.length : Int) ∧ Hid (trimR G = trimR (F ++ [y])) ∧ G.length ≤ 281474976710656) (fun _ vn => (intOf vn).toNat)
  case atStart => exact ⟨F ++ [y], rfl, by first | rfl | (rw [List.length_append]; rfl) | simp, rfl, by rw [List.length_append]; simp; omega⟩
  case round =>
    obtain ⟨G, rfl, rfl, HT, hG⟩ := hrel
    rcases List.eq_nil_or_concat G with rfl | ⟨G', x, rfl⟩
    · have HE : Hid (R = .returned (.tuple #[.string (bs []), .string (bs (restP l))])) := by
        have e := unhide HT
        show _ = _
        rw [← unhide HR, unhide HF, ← e]; rfl
      go_wp2
      go_ret2
      exact ⟨(unhide HE).symm, n0, rfl⟩
    · simp only [List.concat_eq_append] at hG HT ⊢
      have e := unhide HT
      rw [trimR_snoc] at e
      have hbx := bounds_byte x
      have hG2 : G'.length + 1 ≤ 281474976710656 := by have : (G' ++ [x]).length = G'.length + 1 := by simp
                                                       omega
      have hbl : blankB x = (decide ((x.toNat : Int) = 32) || decide ((x.toNat : Int) = 9)) := by
        show isBl x = _
        rw [isBl_nat]
        congr 1 <;> rw [decide_eq_decide] <;> omega
      by_cases q1 : ((x.toNat : Int) == 32) = true
      · have E := hide (by rw [hbl, if_pos (by simp at q1; simp [q1])] at e; exact e : trimR G' = trimR (F ++ [y]))
        clear e hbl hG HT
        go_wp2
        refine ⟨⟨G', rfl, rfl, E, by omega⟩, ?_⟩
        simp [intOf]
      · have q1 : ((x.toNat : Int) == 32) = false := by simpa using q1
        by_cases q2 : ((x.toNat : Int) == 9) = true
        · have E := hide (by rw [hbl, if_pos (by simp at q2; simp [q2])] at e; exact e : trimR G' = trimR (F ++ [y]))
          clear e hbl hG HT
          go_wp2
          refine ⟨⟨G', rfl, rfl, E, by omega⟩, ?_⟩
          simp [intOf]
        · have q2 : ((x.toNat : Int) == 9) = false := by simpa using q2
          have HE : Hid (R = .returned (.tuple #[.string (bs (G' ++ [x])), .string (bs (restP l))])) := by
            rw [hbl, if_neg (by simp at q1 q2; simp [q1, q2])] at e
            show _ = _
            rw [← unhide HR, unhide HF, e]
          clear e hbl hG HT
          go_wp2
          go_ret2
          exact ⟨(unhide HE).symm, n0, rfl⟩

theorem specLine_any (l : List UInt8) (w : World) (hm : l.length ≤ 281474976710656) :
    Calls Tryd.prog 6 #[.string (bs l)] w fun e w' => e = .returned (.tuple #[.string (bs (lineP l)), .string (bs (restP l))]) ∧ ∃ n, w' = w.drewN n := by
  cases hnl : hasNL l with
  | false => exact specLine_no l w hm hnl
  | true =>
    rcases List.eq_nil_or_concat (preNL l) with hp | ⟨F, y, hp⟩
    · exact specLine_empty l w hm hnl hp
    · rw [List.concat_eq_append] at hp
      cases h13 : ((y.toNat : Int) == 13) with
      | true => exact specLine_cr l w hm F y hnl hp h13
      | false => exact specLine_plain l w hm F y hnl hp h13
end Go.Proofs.YtpjehmblndjknaaDoor
