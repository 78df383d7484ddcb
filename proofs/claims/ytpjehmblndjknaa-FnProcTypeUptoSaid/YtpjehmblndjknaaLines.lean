/-
  Walks: spec.Lines, zzFits5.
-/
import Derived.Test.YtpjehmblndjknaaStr
import Derived.Test.YtpjehmblndjknaaPlain
import Derived.Test.YtpjehmblndjknaaBroken
import Derived.Test.YtpjehmblndjknaaRows
import Derived.Handy
import Derived.Outline
namespace Go.Proofs.Ytpjehmblndjknaa
open Go.RowKit
set_option linter.unusedSimpArgs false
set_option linter.unusedVariables false

def lenOf : Value → Nat | .string s => s.size | _ => 0

set_option maxRecDepth 100000 in
set_option maxHeartbeats 400000 in
theorem specLines_any (l : List UInt8) (w : World) (hm : l.length ≤ 281474976710656) :
    Calls Try.prog 14 #[.string (bs l)] w fun e w' => e = .returned (.string (bs (lines64 l))) ∧ w = w' := by
  have HM := hide hm
  clear hm
  go_enter Try.func14, Try.ntmps14
  go_wp2
  go_loop [0, 3] (fun vs vo => ∃ x o : List UInt8, vs = .string (bs x) ∧ vo = .string (bs o) ∧ Hid (o ++ lines64 x = lines64 l) ∧ x.length ≤ l.length ∧ o.length ≤ 2 * (l.length - x.length)) (fun vs _ => lenOf vs)
  case atStart => exact ⟨l, [], rfl, rfl, rfl, Nat.le_refl _, by simp⟩
  case round =>
    obtain ⟨x, o, rfl, rfl, HE, hx, ho⟩ := hrel
    have hb1 : x.length ≤ 281474976710656 := by have := unhide HM; omega
    have hb2 : o.length ≤ 562949953421312 := by have := unhide HM; omega
    by_cases h64 : 64 < x.length
    · have hi : (64 : Int) < (x.length : Int) := by omega
      go_wp2
      refine ⟨⟨_, _, rfl, rfl, ?_, ?_, ?_⟩, ?_⟩
      · have e := unhide HE
        rw [lines64, dif_pos h64] at e
        show _ = _
        rw [← e]; simp
      · rw [List.length_drop]; omega
      · rw [List.length_append, List.length_append, List.length_take, List.length_drop]; simp; omega
      · simp only [lenOf, bs_size, List.length_drop]; omega
    · have hi : ¬ (64 : Int) < (x.length : Int) := by omega
      by_cases h0 : x = []
      · subst h0
        have e := unhide HE
        rw [lines64, dif_neg (by simp), if_pos rfl, List.append_nil] at e
        have HE2 := hide e
        clear e HE
        go_wp2
        go_ret
        exact ⟨by rw [← unhide HE2]; rfl, rfl⟩
      · have hne : (x == []) = false := by simpa using h0
        have hne2 : (!x.isEmpty) = true := by simpa using h0
        have e := unhide HE
        rw [lines64, dif_neg h64, if_neg h0] at e
        have HE2 := hide e
        clear e HE
        go_wp2
        go_ret
        exact ⟨by rw [← unhide HE2]; rfl, rfl⟩

/-- All pieces are shorter than 2^31. -/
def fits5 (ls : List (List UInt8)) : Bool := decide (ls.length ≤ 2147483647) && ls.all fun l => decide (l.length ≤ 2147483647)

theorem fits5_at {ls : List (List UInt8)} {k : Nat} {l : List UInt8} (hl : ls[k]? = some l) (hb : ¬ l.length ≤ 2147483647) : fits5 ls = false := by
  unfold fits5
  rw [Bool.and_eq_false_iff]
  right
  rw [List.all_eq_false]
  exact ⟨l, List.mem_of_getElem? hl, by simpa using hb⟩
theorem fits5_all {ls : List (List UInt8)} (hn : ls.length ≤ 2147483647) (h : ∀ (j : Nat) (l : List UInt8), ls[j]? = some l → j < ls.length → l.length ≤ 2147483647) : fits5 ls = true := by
  unfold fits5
  rw [Bool.and_eq_true]
  refine ⟨by simpa using hn, ?_⟩
  rw [List.all_eq_true]
  intro l hl
  obtain ⟨j, hj, rfl⟩ := List.getElem_of_mem hl
  simpa using h j _ (List.getElem?_eq_getElem hj) hj

set_option maxRecDepth 100000 in
set_option maxHeartbeats 400000 in
theorem zzFits5_any (ls : List (List UInt8)) (v : Value) (w : World) (hv : Pieces w v ls) (hn : ls.length ≤ 9223372036854775807) :
    Calls Try.prog 12 #[v] w fun e w' => e = .returned (.bool (fits5 ls)) ∧ w = w' := by
  obtain ⟨p, cap, rfl, hp⟩ := hv
  have hn63 : ls.length ≤ 9223372036854775807 := by omega
  by_cases hbig : 2147483647 < ls.length
  · have hi : (2147483647 : Int) < (ls.length : Int) := by omega
    have hf : fits5 ls = false := by unfold fits5; rw [Bool.and_eq_false_iff]; left; simpa using hbig
    rw [hf]
    clear hp
    go_enter Try.func12, Try.ntmps12
    go_wp2
    go_ret
    exact ⟨rfl, rfl⟩
  · have hi : ¬ (2147483647 : Int) < (ls.length : Int) := by omega
    have HB := hide hbig
    have HP := hide hp
    clear hp hbig
    generalize hR : fits5 ls = R
    have HR := hide hR
    clear hR
    go_enter Try.func12, Try.ntmps12
    go_wp2
    go_loop [10] (fun vk => ∃ k : Nat, k ≤ ls.length ∧ vk = .int .i64 k ∧ Hid (∀ (j : Nat) (l : List UInt8), ls[j]? = some l → j < k → l.length ≤ 2147483647)) (fun vk => ls.length - (intOf vk).toNat)
    case atStart => exact ⟨0, Nat.zero_le _, rfl, fun j l _ h => absurd h (by omega)⟩
    case round =>
      obtain ⟨k, hk, rfl, HA⟩ := hrel
      by_cases hlt : k < ls.length
      · obtain ⟨l, hl⟩ : ∃ l, ls[k]? = some l := ⟨_, List.getElem?_eq_getElem hlt⟩
        obtain ⟨b, o, rfl, hcell⟩ := unhide HP (by rintro rfl; simp at hlt)
        obtain ⟨u, hu, q, c', rfl, hlc, hsl⟩ := hcell k l hl
        by_cases hlong : l.length ≤ 2147483647
        · have hj : ¬ (2147483647 : Int) < (l.length : Int) := by omega
          have HA2 : Hid (∀ (j : Nat) (l : List UInt8), ls[j]? = some l → j < k + 1 → l.length ≤ 2147483647) := by
            intro j l' hl' hjk
            by_cases e : j = k
            · subst e; rw [hl] at hl'; cases hl'; exact hlong
            · exact unhide HA j l' hl' (by omega)
          clear hcell hsl hlc hl hlong
          go_wp2
          refine ⟨⟨k + 1, by omega, by go_num, HA2⟩, ?_⟩
          simp [intOf]; omega
        · have hj : (2147483647 : Int) < (l.length : Int) := by omega
          have hf := hide ((unhide HR).symm.trans (fits5_at hl hlong))
          clear hcell hsl hlc hl hlong
          go_wp2
          go_ret
          exact ⟨ret_bool (unhide hf).symm, rfl⟩
      · have hf := hide ((unhide HR).symm.trans (fits5_all (by have := unhide HB; omega) (fun j l hl hj => unhide HA j l hl (by omega))))
        go_wp2
        go_ret
        exact ⟨ret_bool (unhide hf).symm, rfl⟩
end Go.Proofs.Ytpjehmblndjknaa
