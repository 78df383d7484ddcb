/-
  Walks: ZZSolid, impl.Solid, spec.Solid.
-/
import Derived.Test.YtpjehmblndjknaaSolid
import Derived.Deep.DeepMust
import Derived.Maps.AppendAt
namespace Go.Proofs.Ytpjehmblndjknaa
set_option linter.unusedSimpArgs false
set_option linter.unusedVariables false
open Go.RowKit

theorem implSolid_any (v : Value) (l : List UInt8) (w : World) (hs : Sl w v l) (hm : l.length ≤ 140737488351232) :
    Calls Try.prog 10 #[v] w fun e w' => ∃ v', e = .returned v' ∧ Sl w' v' (solid l) ∧ Below w.heap.size w w' := by
  have H := hide (rm_any v l w hs hm)
  clear hs hm
  go_enter Try.func10, Try.ntmps10
  go_wp2_with fail
  go_in
  go_wp2_with fail
  refine (unhide H).mono ?_
  rintro e w' ⟨v', rfl, h1, h2⟩
  go_wp2
  go_ret
  exact ⟨_, rfl, h1, h2⟩
set_option maxRecDepth 100000 in
set_option maxHeartbeats 400000 in
theorem specSolid_any (s : ByteArray) (w : World) (hm : s.size ≤ 140737488351232) :
    Calls Try.prog 11 #[.string s] w fun e w' => e = .returned (.string (bs (solid s.data.toList))) ∧ Below w.heap.size w w' := by
  obtain ⟨i0, hi, hz0, hz1, hz2⟩ := info_parts info_u8
  have hm63 : s.size ≤ 9223372036854775807 := by omega
  have HM := hide hm
  clear hm
  go_enter Try.func11, Try.ntmps11
  go_wp2
  go_loopw [3, 7] (fun v i wr => ∃ k : Nat, k ≤ s.size ∧ i = .int .i64 k ∧ wr.ownsRow w.heap.size 5 1 v (solid (s.data.toList.take k)).length ((solid (s.data.toList.take k)).map bv) ∧ Below w.heap.size w wr) (fun _ i _ => s.size - (intOf i).toNat)
  case atStart => exact ⟨0, Nat.zero_le _, rfl, by simpa [solid] using World.ownsRow_nil w w.heap.size 5 1, Below.refl _ _⟩
  case round =>
    obtain ⟨k, hk, rfl, hown, hbw⟩ := hrel
    by_cases hlt : k < s.size
    · obtain ⟨x, hx⟩ : ∃ x, s[k] = x := ⟨_, rfl⟩
      have hbx := bounds_byte x
      have HS : Hid (solid (s.data.toList.take (k + 1)) = if isBl x then solid (s.data.toList.take k) else solid (s.data.toList.take k) ++ [x]) := by
        have h1 := solid_snoc (s.data.toList.take k) x
        rw [← h1, List.take_add_one]
        have h2 : s.data.toList[k]? = some x := by
          rw [Array.getElem?_toList, ← hx]
          exact Array.getElem?_eq_getElem hlt
        rw [h2]
        rfl
      have hle : (solid (s.data.toList.take k)).length ≤ k := Nat.le_trans (solid_le _) (List.length_take_le _ _)
      have HSX : Hid (isBl x = (decide ((x.toNat : Int) = 32) || decide ((x.toNat : Int) = 9))) := by
        show _ = _
        rw [isBl_nat]
        congr 1 <;> rw [decide_eq_decide] <;> omega
      have R1 : isBl x = true → Hid (∃ k_1 : Nat, k_1 ≤ s.size ∧ Value.int .i64 ((k : Int) + 1) = .int .i64 (k_1 : Int) ∧ wr.ownsRow w.heap.size 5 1 u3 (solid (s.data.toList.take k_1)).length ((solid (s.data.toList.take k_1)).map bv) ∧ Below w.heap.size w wr) := by
        intro hx1
        have e := unhide HS
        rw [if_pos hx1] at e
        exact ⟨k + 1, by omega, by rw [Int.natCast_add]; rfl, by rw [e]; exact hown, hbw⟩
      by_cases q1 : ((x.toNat : Int) != 32) = false
      · have R := R1 (by rw [unhide HSX]; simp at q1; simp [q1])
        clear R1
        go_wp2
        refine ⟨unhide R, ?_⟩
        simp [intOf]; omega
      · have q1 : ((x.toNat : Int) != 32) = true := by simpa using q1
        by_cases q2 : ((x.toNat : Int) != 9) = false
        · have R := R1 (by rw [unhide HSX]; simp at q2; simp [q2])
          clear R1
          go_wp2
          refine ⟨unhide R, ?_⟩
          simp [intOf]; omega
        · have q2 : ((x.toNat : Int) != 9) = true := by simpa using q2
          have E : Hid (solid (s.data.toList.take (k + 1)) = solid (s.data.toList.take k) ++ [x]) := by
            have e := unhide HS
            rw [if_neg (by rw [unhide HSX]; simp at q1 q2; simp [q1, q2])] at e
            exact e
          clear R1 HS HSX
          go_wp2_with (at_builtin; go_must (refine wpList_append_own _ rfl _ _ 22 rfl w.heap.size 5 i0 (.int .u8 0) 1 1 Try.underlying22 hi hz0 hz1 hz2 rfl (by decide) _ _ _ rfl (hown.alloc _) ⟨wr.heap.size, 0, none⟩ 1 1 [.int .u8 (x.toNat : Int)] rfl rfl (cell_one_new _ _ _) (by simp [Value.oneCell']) (by have := unhide HM; unfold maxLen; omega) (by have := unhide HM; omega) (by have := hbw.size; simp; omega) ?_); intro v' w2 hown' hgrow _)
          have hb2 : Below w.heap.size w w2 := Below.grown (hbw.alloc hbw.size _) hgrow (by have := hbw.size; simp; omega) (fun j hj => (hown.lt j hj).1)
          refine ⟨⟨k + 1, by omega, by rw [Int.natCast_add]; rfl, ?_, hb2⟩, ?_⟩
          · rw [unhide E, List.length_append, List.map_append]
            exact hown'
          · simp [intOf]; omega
    · obtain rfl : k = s.size := by omega
      rw [← len_of, List.take_length] at hown
      have hcv := run_conv_sl (P := Try.prog) (Sl.of_owns hown) 22 5 9 Try.underlying22 Try.underlying5 Try.underlying9
      clear hown
      go_wp2
      go_ret
      exact ⟨rfl, hbw⟩
end Go.Proofs.Ytpjehmblndjknaa
