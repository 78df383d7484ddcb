/-
  Walk: bytesCut at the colon.
-/
import Derived.Test.YtpjehmblndjknaaDoorIndex
import Derived.Test.YtpjehmblndjknaaDoorForm2
namespace Go.Proofs.YtpjehmblndjknaaDoor
open Go.RowKit Go.Lib
set_option linter.unusedSimpArgs false
set_option linter.unusedVariables false

theorem index_colon (l : List UInt8) : Lib.index l [58] = if (58 : UInt8) ∈ l then (colAt l : Int) else -1 := by
  unfold colAt
  induction l with
  | nil => simp [Lib.index]
  | cons b r ih =>
    rw [Lib.index, List.takeWhile_cons]
    by_cases hb : b = 58
    · subst hb
      simp
    · have hp : List.isPrefixOf [58] (b :: r) = false := by
        simp [List.isPrefixOf]
        exact fun e => hb e.symm
      have hn : (b != 58) = true := by simpa using hb
      rw [hp, hn, ih]
      by_cases hr : (58 : UInt8) ∈ r
      · rw [if_pos hr, if_pos (List.mem_cons_of_mem _ hr)]
        have : ¬ ((r.takeWhile fun c => c != 58).length : Int) == -1 := by simp
        simp
      · have hm : (58 : UInt8) ∉ b :: r := by
          rw [List.mem_cons]
          rintro (h | h)
          · exact hb h.symm
          · exact hr h
        rw [if_neg hr, if_neg hm]
        simp

set_option maxRecDepth 100000 in
set_option maxHeartbeats 1600000 in
theorem cut_no (v : Value) (l : List UInt8) (sb so sc : Nat) (w : World) (hs : Sl w v l) (hc : w.cell? ⟨sb, so, none⟩ = some (.int .u8 58)) (hl : l.length ≤ 4611686018427387904) (hno : (58 : UInt8) ∉ l) :
    Calls Tryd.prog 20 #[v, .slice (some ⟨sb, so, none⟩) 1 sc] w fun e w' => e = .returned (.tuple #[v, .slice none 0 0, .bool false]) ∧ ∃ q, w' = w.drewN q := by
  have hi := bytesIndex_any v l [58] sb so sc w hs (Nat.le_refl _) (fun i x hx => by
    match i, hx with
    | 0, hx => simp at hx; subst hx; exact hc
    | i + 1, hx => simp at hx) hl (by simp)
  rw [index_colon, if_neg hno] at hi
  have HI := hide hi
  obtain ⟨p, cap, rfl, -, -⟩ := hs
  clear hi hc hno
  go_enter Tryd.func20, Tryd.ntmps20
  go_wp2_with fail
  refine (unhide HI).mono ?_
  rintro e w' ⟨rfl, q, rfl⟩
  clear HI
  go_wp2
  go_ret3
  exact ⟨rfl, q, rfl⟩

set_option maxRecDepth 100000 in
set_option maxHeartbeats 1600000 in
theorem cut_yes (v : Value) (l : List UInt8) (sb so sc : Nat) (w : World) (hs : Sl w v l) (hc : w.cell? ⟨sb, so, none⟩ = some (.int .u8 58)) (hl : l.length ≤ 4611686018427387904) (hyes : (58 : UInt8) ∈ l) :
    Calls Tryd.prog 20 #[v, .slice (some ⟨sb, so, none⟩) 1 sc] w fun e w' => ∃ v1 v2, e = .returned (.tuple #[v1, v2, .bool true]) ∧ Sl w v1 (l.take (colAt l)) ∧ Sl w v2 (l.drop (colAt l + 1)) ∧ ∃ q, w' = w.drewN q := by
  have hi := bytesIndex_any v l [58] sb so sc w hs (Nat.le_refl _) (fun i x hx => by
    match i, hx with
    | 0, hx => simp at hx; subst hx; exact hc
    | i + 1, hx => simp at hx) hl (by simp)
  rw [index_colon, if_pos hyes] at hi
  have hlt : colAt l < l.length := by
    rcases Nat.lt_or_ge (colAt l) l.length with h | h
    · exact h
    · exfalso
      obtain ⟨j, hj, he⟩ := List.getElem_of_mem hyes
      obtain ⟨c, hc1, hc2⟩ := colAt_before (l := l) (j := j) (by omega)
      rw [List.getElem?_eq_getElem hj, he] at hc1
      exact hc2 (Option.some.inj hc1).symm
  obtain ⟨v1, hv1, hs1⟩ := hs.cutTo (colAt l) (by omega)
  obtain ⟨v2, hv2, hs2⟩ := hs.cutLo (colAt l + 1) (by omega)
  have HI := hide hi
  have HS := hide (And.intro hs1 hs2)
  obtain ⟨p, cap, rfl, -, -⟩ := hs
  clear hi hc hyes hs1 hs2
  have ec : ((colAt l + 1 : Nat) : Int) = (colAt l : Int) + 1 := by omega
  rw [ec] at hv2
  clear ec
  generalize colAt l = k at *
  go_enter Tryd.func20, Tryd.ntmps20
  go_wp2_with fail
  refine (unhide HI).mono ?_
  rintro e w' ⟨rfl, q, rfl⟩
  clear HI
  go_wp2_with fail
  go_quiet (fail)
  go_wp2
  go_ret3
  exact ⟨v1, v2, rfl, (unhide HS).1, (unhide HS).2, _, World.drewN_drewN _ _ _⟩
end Go.Proofs.YtpjehmblndjknaaDoor
