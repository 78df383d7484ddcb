/-
  Walk: the law FnBroken.
-/
import Derived.Test.YtpjehmblndjknaaLines
import Derived.Deep.RegionWith
namespace Go.Proofs.Ytpjehmblndjknaa
open Go.RowKit
set_option linter.unusedSimpArgs false
set_option linter.unusedVariables false

theorem implBroken_any (ls : List (List UInt8)) (v : Value) (w : World) (hv : Pieces w v ls) (hsz : ls.flatten.length ≤ 17592186044416) (hn : ls.length ≤ 140737488355328) :
    Calls Try.prog 13 #[v] w fun e w' => ∃ v', e = .returned v' ∧ Sl w' v' (lines64 ls.flatten) ∧ Below w.heap.size w w' := by
  have H := hide (zzBroken_any ls v w hv hsz hn)
  clear hv hsz hn
  go_enter Try.func13, Try.ntmps13
  go_wp2_with fail
  refine (unhide H).mono ?_
  rintro e w' ⟨v', rfl, h1, h2⟩
  go_wp2
  go_ret
  exact ⟨_, rfl, h1, h2⟩

/-- The one piece 'a' that the law lays. -/
theorem pieces_a (w : World) : Pieces ((w.alloc (.cells #[.int .u8 97] 5)).alloc (.cells #[.slice (some ⟨w.heap.size, 0, none⟩) 1 1] 22)) (.slice (some ⟨w.heap.size + 1, 0, none⟩) 1 1) [[97]] := by
  refine ⟨_, 1, rfl, fun _ => ⟨w.heap.size + 1, 0, rfl, fun i l hl => ?_⟩⟩
  match i, hl with
  | 0, hl =>
    simp at hl
    subst hl
    refine ⟨.slice (some ⟨w.heap.size, 0, none⟩) 1 1, ?_, ?_⟩
    · have h := heap_new (w.alloc (.cells #[.int .u8 97] 5)) (.cells #[.slice (some ⟨w.heap.size, 0, none⟩) 1 1] 22)
      rw [World.size_alloc] at h
      rw [cell_of_heap h]; rfl
    · exact (Sl.of_alloc (w := w) (cs := #[.int .u8 97]) (T := 5) (fr := (0, 0)) (l := [97]) rfl (by decide) rfl).below ((Below.refl _ _).alloc (Nat.le_refl _) _)
  | i + 1, hl => simp at hl
theorem lines_a : lines64 (List.flatten [[97]]) = [97, 10] := by
  rw [lines64, dif_neg (by decide), if_neg (by decide)]; rfl

theorem conv_sl {w : World} {v : Value} {l : List UInt8} (h : Sl w v l) : ∀ W, Below w.heap.size w W → (convert 22 9 v).run Try.prog W = .ok (.string (bs l)) W :=
  conv_later (P := Try.prog) h Try.underlying22 Try.underlying5 Try.underlying9

set_option maxRecDepth 100000 in
set_option maxHeartbeats 1000000 in
theorem fnBroken_fits (ls : List (List UInt8)) (v : Value) (w : World) (hv : Pieces w v ls) (hn : ls.length ≤ 9223372036854775807) (hf : fits5 ls = true) :
    Calls Try.prog 4 #[v] w fun e w' => e = .returned (.bool true) ∧ Below w.heap.size w w' := by
  have hfits := zzFits5_any ls v w hv hn
  rw [hf] at hfits
  have HV := hide hv
  have HF := hide hfits
  have HN := hide hn
  obtain ⟨p, cap, rfl, hp⟩ := hv
  have HP := hide hp
  have hn63 : ls.length ≤ 9223372036854775807 := by omega
  have hl47 : ls.length ≤ 2147483647 := by
    unfold fits5 at hf
    rw [Bool.and_eq_true] at hf
    simpa using hf.1
  have HALL : Hid (∀ l ∈ ls, l.length ≤ 2147483647) := by
    unfold fits5 at hf
    rw [Bool.and_eq_true, List.all_eq_true] at hf
    exact fun l hl => by simpa using hf.2 l hl
  clear hp hfits hn hf
  go_enter Try.func4, Try.ntmps4
  go_wp2_with fail
  refine (unhide HF).mono ?_
  rintro e w' ⟨rfl, rfl⟩
  go_wp2
  go_loop [3, 4, 12] (fun va vn vk => ∃ (k : Nat) (F : List UInt8), k ≤ ls.length ∧ Hid (F = (ls.take k).flatten) ∧ vk = .int .i64 k ∧ va = .string (bs F) ∧ vn = .int .i64 (F.length : Int) ∧ F.length ≤ 100000) (fun _ _ vk => ls.length - (intOf vk).toNat)
  case atStart => exact ⟨0, [], Nat.zero_le _, by simp [Hid], rfl, rfl, rfl, by simp⟩
  case round =>
    obtain ⟨k, F, hk, HFK, rfl, rfl, rfl, h100⟩ := hrel
    by_cases hlt : k < ls.length
    · obtain ⟨l, hl⟩ : ∃ l, ls[k]? = some l := ⟨_, List.getElem?_eq_getElem hlt⟩
      obtain ⟨b, o, rfl, hcell⟩ := unhide HP (by rintro rfl; simp at hlt)
      obtain ⟨u, hu, hsl⟩ := hcell k l hl
      have hcv := conv_sl hsl w (Below.refl _ _)
      obtain ⟨q, c', rfl, hlc, hsl2⟩ := hsl
      have hflat : (ls.take (k + 1)).flatten = (ls.take k).flatten ++ l := join_take_succ hl
      have hll : l.length ≤ 2147483647 := unhide HALL l (List.mem_of_getElem? hl)
      have HFL := hide hflat
      have HL := hide hl
      clear hcell hsl2 hlc hl hflat
      by_cases hbig : 100000 < F.length + l.length ∨ 1000 < ls.length
      · have hpa := hide (implBroken_any [[97]] _ _ (pieces_a w) (by decide) (by decide))
        by_cases hb1 : 100000 < F.length + l.length
        · have hi : (100000 : Int) < (F.length : Int) + (l.length : Int) := by omega
          go_wp2_with fail
          refine (unhide hpa).mono ?_
          rintro e w1 ⟨v1, rfl, hs1, hbel⟩
          have hk1 : ∀ W, Below w1.heap.size w1 W → (convert 22 9 v1).run Try.prog W = .ok (.string ⟨#[97, 10]⟩) W := by rw [lines_a] at hs1; exact conv_sl hs1
          have hr1 := Below.refl w1.heap.size w1
          have hB := hide (bstep (balloc (balloc (Below.refl _ w) _) _) hbel)
          clear hs1 hbel hpa
          go_wp2
          go_ret
          exact ⟨rfl, unhide hB⟩
        · have hi : ¬ (100000 : Int) < (F.length : Int) + (l.length : Int) := by omega
          have hi2 : (1000 : Int) < (ls.length : Int) := by omega
          go_wp2_with fail
          refine (unhide hpa).mono ?_
          rintro e w1 ⟨v1, rfl, hs1, hbel⟩
          have hk1 : ∀ W, Below w1.heap.size w1 W → (convert 22 9 v1).run Try.prog W = .ok (.string ⟨#[97, 10]⟩) W := by rw [lines_a] at hs1; exact conv_sl hs1
          have hr1 := Below.refl w1.heap.size w1
          have hB := hide (bstep (balloc (balloc (Below.refl _ w) _) _) hbel)
          clear hs1 hbel hpa
          go_wp2
          go_ret
          exact ⟨rfl, unhide hB⟩
      · have hi : ¬ (100000 : Int) < (F.length : Int) + (l.length : Int) := by omega
        have hi2 : ¬ (1000 : Int) < (ls.length : Int) := by omega
        have hbig' : F.length + l.length ≤ 100000 := by omega
        go_wp2
        refine ⟨⟨k + 1, F ++ l, by omega, ?_, by go_num, rfl, by rw [List.length_append]; go_num, by rw [List.length_append]; omega⟩, ?_⟩
        · show _ = _
          rw [unhide HFL, unhide HFK]
        · simp [intOf]; omega
    · obtain rfl : k = ls.length := by omega
      have hFK : F = ls.flatten := by have := unhide HFK; rwa [List.take_length] at this
      subst hFK
      have hcall := hide (implBroken_any ls _ w.drew (unhide HV) (by omega) (by omega))
      have HFF := hide h100
      generalize hG : ls.flatten = G at *
      have hlin := hide (fun W => specLines_any G W (by omega))
      clear HP HV HALL HF HFK hG
      go_wp2
      go_region_with (first
        | (go_at_call 13; refine (unhide hcall).mono ?_; rintro e w1 ⟨v1, rfl, hs1, hb1⟩
           have hr1 := Below.refl w1.heap.size w1
           have hk1 := conv_sl hs1)
        | (go_at_call 13; refine (implBroken_any [[97]] _ _ (pieces_a _) (by decide) (by decide)).mono ?_; rintro e w3 ⟨v3, rfl, hs3, hb3⟩
           have hr3 := Below.refl w3.heap.size w3
           have hk3 : ∀ W, Below w3.heap.size w3 W → (convert 22 9 v3).run Try.prog W = .ok (.string ⟨#[97, 10]⟩) W := by rw [lines_a] at hs3; exact conv_sl hs3)
        | (go_at_call 14; refine (unhide hlin _).mono ?_; rintro e w2 ⟨rfl, rfl⟩))
      all_goals go_wp2
      all_goals go_ret
      all_goals exact ⟨rfl, bstep (balloc (balloc (bstep (drewN_below w 1) hb1) _) _) hb3⟩

set_option maxRecDepth 100000 in
set_option maxHeartbeats 400000 in
theorem fnBroken_not (ls : List (List UInt8)) (v : Value) (w : World) (hv : Pieces w v ls) (hn : ls.length ≤ 9223372036854775807) (hf : fits5 ls = false) :
    Calls Try.prog 4 #[v] w fun e w' => e = .returned (.bool true) ∧ Below w.heap.size w w' := by
  have hfits := zzFits5_any ls v w hv hn
  rw [hf] at hfits
  have HF := hide hfits
  clear hfits hf hv hn
  go_enter Try.func4, Try.ntmps4
  go_wp2_with fail
  refine (unhide HF).mono ?_
  rintro e w' ⟨rfl, rfl⟩
  go_wp2
  go_ret
  exact ⟨rfl, Below.refl _ _⟩

theorem fnBroken_walk (ls : List (List UInt8)) (v : Value) (w : World) (hv : Pieces w v ls) (hn : ls.length ≤ 9223372036854775807) :
    Calls Try.prog 4 #[v] w fun e w' => e = .returned (.bool true) ∧ Below w.heap.size w w' := by
  cases h : fits5 ls with
  | true => exact fnBroken_fits ls v w hv hn h
  | false => exact fnBroken_not ls v w hv hn h
end Go.Proofs.Ytpjehmblndjknaa
