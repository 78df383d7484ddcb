/-
  Walks: laws.works, laws.zzFits1, zzFits2, zzFits3.
-/
import Derived.Test.YtpjehmblndjknaaMem
import Derived.Test.YtpjehmblndjknaaForm
import Derived.Test.YtpjehmblndjknaaRows
namespace Go.Proofs.Ytpjehmblndjknaa
open Go.RowKit Go.Maps
set_option linter.unusedSimpArgs false
set_option linter.unusedVariables false

def worksOut : List UInt8 := [45, 45, 45, 45, 45, 66, 69, 71, 73, 78, 32, 65, 45, 45, 45, 45, 45, 10, 45, 45, 45, 45, 45, 69, 78, 68, 32, 65, 45, 45, 45, 45, 45, 10]
theorem works_out : pemOut [65] [] [] = worksOut := by
  unfold pemOut headOut
  rw [if_pos rfl, show lines64 (b64 []) = [] by rw [show b64 [] = [] from rfl, lines64, dif_neg (by simp), if_pos rfl]]
  rfl

set_option maxRecDepth 100000 in
set_option maxHeartbeats 800000 in
theorem works_any (w : World) : Calls Try.prog 18 #[] w fun e w' => e = .returned (.bool true) ∧ Below w.heap.size w w' := by
  have hcall := hide (mem_any [65] [] (.slice none 0 0) (.slice none 0 0) [] w (Hd.nil w) (Sl.nil w) (fun p n c h => by injection h with _ _ h3; omega) (fun p hp => by cases hp) (by decide) (fun _ => by rw [works_out]; decide))
  go_enter Try.func18, Try.ntmps18
  go_wp2_with fail
  refine (unhide hcall).mono ?_
  rintro e w1 ⟨hb1, hcase⟩
  rcases hcase with ⟨hc, -⟩ | ⟨-, v', rfl, hsl⟩
  · cases hc
  · rw [works_out] at hsl
    have hk1 : (convert 22 9 v').run Try.prog w1 = .ok (.string ⟨worksOut.toArray⟩) w1 := conv_sl2 hsl w1 (Below.refl _ _)
    have HB := hide hb1
    unfold worksOut at hk1
    clear hsl hb1 hcall
    go_wp2
    go_ret
    exact ⟨rfl, unhide HB⟩

/-- All that the bound speaks of. -/
def fitsH (p : List UInt8 × List UInt8) : Bool := decide (p.1.length ≤ 2147483647) && decide (p.2.length ≤ 2147483647)
def fitsHs (hs : Hdrs) : Bool := decide (hs.length ≤ 2147483647) && hs.all fitsH
def fitsB (ty : List UInt8) (hs : Hdrs) (d : List UInt8) : Bool := decide (ty.length ≤ 2147483647) && fitsHs hs && decide (d.length ≤ 2147483647)

set_option maxRecDepth 100000 in
set_option maxHeartbeats 400000 in
theorem zzFits3_any (k v : List UInt8) (w : World) (hk : k.length ≤ 9223372036854775807) (hv : v.length ≤ 9223372036854775807) :
    Calls Try.prog 39 #[.agg #[.string (bs k), .string (bs v)]] w fun e w' => e = .returned (.bool (fitsH (k, v))) ∧ Below w.heap.size w w' := by
  by_cases h1 : k.length ≤ 2147483647
  · have i1 : ¬ (2147483647 : Int) < (k.length : Int) := by omega
    by_cases h2 : v.length ≤ 2147483647
    · have i2 : ¬ (2147483647 : Int) < (v.length : Int) := by omega
      have HF : Hid (fitsH (k, v) = true) := by show _ = _; unfold fitsH; simp [h1, h2]
      clear h1 h2
      go_enter Try.func39, Try.ntmps39
      go_wp2
      go_ret
      exact ⟨ret_bool (unhide HF).symm, balloc (Below.refl _ _) _⟩
    · have i2 : (2147483647 : Int) < (v.length : Int) := by omega
      have HF : Hid (fitsH (k, v) = false) := by show _ = _; unfold fitsH; simp [h2]
      clear h1 h2
      go_enter Try.func39, Try.ntmps39
      go_wp2
      go_ret
      exact ⟨ret_bool (unhide HF).symm, balloc (Below.refl _ _) _⟩
  · have i1 : (2147483647 : Int) < (k.length : Int) := by omega
    have HF : Hid (fitsH (k, v) = false) := by show _ = _; unfold fitsH; simp [h1]
    clear h1
    go_enter Try.func39, Try.ntmps39
    go_wp2
    go_ret
    exact ⟨ret_bool (unhide HF).symm, balloc (Below.refl _ _) _⟩

theorem fitsHs_at {hs : Hdrs} {j : Nat} {p : List UInt8 × List UInt8} (h : hs[j]? = some p) (hf : fitsH p = false) : fitsHs hs = false := by
  unfold fitsHs
  rw [Bool.and_eq_false_iff]
  right
  rw [List.all_eq_false]
  exact ⟨p, List.mem_of_getElem? h, by simp [hf]⟩
theorem fitsHs_all {hs : Hdrs} (hn : hs.length ≤ 2147483647) (h : ∀ (j : Nat) p, hs[j]? = some p → j < hs.length → fitsH p = true) : fitsHs hs = true := by
  unfold fitsHs
  rw [Bool.and_eq_true, List.all_eq_true]
  refine ⟨by simpa using hn, fun p hp => ?_⟩
  obtain ⟨j, hj, rfl⟩ := List.getElem_of_mem hp
  exact h j _ (List.getElem?_eq_getElem hj) hj

set_option maxRecDepth 100000 in
set_option maxHeartbeats 800000 in
theorem zzFits2_any (hs : Hdrs) (v : Value) (w : World) (hv : Hd w v hs) (hn : hs.length ≤ 9223372036854775807) (hx : ∀ p ∈ hs, p.1.length ≤ 9223372036854775807 ∧ p.2.length ≤ 9223372036854775807) :
    Calls Try.prog 28 #[v] w fun e w' => e = .returned (.bool (fitsHs hs)) ∧ Below w.heap.size w w' := by
  obtain ⟨p, cap, rfl, hlc, hp⟩ := hv
  by_cases hbig : 2147483647 < hs.length
  · have hi : (2147483647 : Int) < (hs.length : Int) := by omega
    have HF : Hid (fitsHs hs = false) := by show _ = _; unfold fitsHs; rw [Bool.and_eq_false_iff]; left; simpa using hbig
    clear hp hlc hx hbig
    go_enter Try.func28, Try.ntmps28
    go_wp2
    go_ret
    exact ⟨ret_bool (unhide HF).symm, Below.refl _ _⟩
  · have hi : ¬ (2147483647 : Int) < (hs.length : Int) := by omega
    have HB := hide hbig
    have HP := hide hp
    have HX := hide hx
    clear hp hbig hlc hx
    go_enter Try.func28, Try.ntmps28
    go_wp2
    go_loopw [10] (fun vk wr => ∃ k : Nat, k ≤ hs.length ∧ vk = .int .i64 (k : Int) ∧ Below w.heap.size w wr ∧ Hid (∀ (j : Nat) p, hs[j]? = some p → j < k → fitsH p = true)) (fun vk _ => hs.length - (intOf vk).toNat)
    case atStart => exact ⟨0, Nat.zero_le _, rfl, Below.refl _ _, fun j l _ h => absurd h (by omega)⟩
    case round =>
      obtain ⟨k, hk, rfl, hb, HA⟩ := hrel
      by_cases hlt : k < hs.length
      · obtain ⟨x, hx⟩ : ∃ x, hs[k]? = some x := ⟨_, List.getElem?_eq_getElem hlt⟩
        obtain ⟨b, o, rfl, hcell⟩ := unhide HP (by rintro rfl; simp at hlt)
        obtain ⟨h1, h2⟩ := hcell k x hx
        have hk1 : wr.cell? ⟨b, o + k * 2, none⟩ = some (.string (bs x.1)) := by rw [hb.cell (p := ⟨b, _, none⟩) (World.block_lt_of_cell? w _ h1)]; exact h1
        have hk2 : wr.cell? ⟨b, o + k * 2 + 1, none⟩ = some (.string (bs x.2)) := by rw [hb.cell (p := ⟨b, _, none⟩) (World.block_lt_of_cell? w _ h2)]; exact h2
        obtain ⟨xl1, xl2⟩ := unhide HX x (List.mem_of_getElem? hx)
        have hcall := fun W => zzFits3_any x.1 x.2 W xl1 xl2
        have HC := hide hcall
        have HXX := hide hx
        clear h1 h2 hcell hx hcall xl1 xl2
        go_wp2_with fail
        refine (unhide HC _).mono ?_
        rintro e w2 ⟨rfl, hb2⟩
        have hb3 : Below w.heap.size w w2 := bstep (balloc hb _) hb2
        cases hf : fitsH (x.1, x.2) with
        | true =>
          have HA2 : Hid (∀ (j : Nat) p, hs[j]? = some p → j < k + 1 → fitsH p = true) := by
            intro j p hp hjk
            by_cases e : j = k
            · subst e; rw [unhide HXX] at hp; cases hp; exact hf
            · exact unhide HA j p hp (by omega)
          clear hf hb2 hb HC
          go_wp2
          refine ⟨⟨k + 1, by omega, by go_num, hb3, HA2⟩, ?_⟩
          simp [intOf]; omega
        | false =>
          have HF := hide (fitsHs_at (unhide HXX) hf)
          clear hf hb2 hb HC
          go_wp2
          go_ret
          exact ⟨ret_bool (unhide HF).symm, hb3⟩
      · have HF := hide (fitsHs_all (by have := unhide HB; omega) (fun j l hl hj => unhide HA j l hl (by omega)))
        clear HA
        go_wp2
        go_ret
        exact ⟨ret_bool (unhide HF).symm, hb⟩

set_option maxRecDepth 100000 in
set_option maxHeartbeats 800000 in
theorem zzFits1_any (ty d : List UInt8) (hv bv : Value) (hs : Hdrs) (w : World) (hH : Hd w hv hs) (hS : Sl w bv d) (h1 : ty.length ≤ 9223372036854775807) (hn : hs.length ≤ 9223372036854775807) (hd : d.length ≤ 9223372036854775807) (hx : ∀ p ∈ hs, p.1.length ≤ 9223372036854775807 ∧ p.2.length ≤ 9223372036854775807) :
    Calls Try.prog 15 #[.agg #[.string (bs ty), hv, bv]] w fun e w' => e = .returned (.bool (fitsB ty hs d)) ∧ Below w.heap.size w w' := by
  have hb0 : Below w.heap.size w (w.alloc (.cells #[.string (bs ty), hv, bv] 31)) := balloc (Below.refl _ _) _
  have hcall := zzFits2_any hs hv _ (hH.below hb0) hn hx
  rw [World.size_alloc] at hcall
  have HC := hide hcall
  obtain ⟨p, cap, rfl, _⟩ := hH
  obtain ⟨q, bc, rfl, _⟩ := hS
  clear hcall hx hb0
  by_cases h2 : ty.length ≤ 2147483647
  · have i1 : ¬ (2147483647 : Int) < (ty.length : Int) := by omega
    go_enter Try.func15, Try.ntmps15
    go_wp2_with fail
    refine (unhide HC).mono ?_
    rintro e w2 ⟨rfl, hb2⟩
    have hb3 : Below w.heap.size w w2 := (balloc (Below.refl _ _) _).trans (hb2.mono (by omega))
    have hc2 : w2.cell? ⟨w.heap.size, 2, none⟩ = some (.slice q d.length bc) := by
      rw [hb2.cell (p := ⟨w.heap.size, 2, none⟩) (Nat.lt_succ_self _), cell_of_heap (heap_new w _)]; rfl
    cases hf : fitsHs hs with
    | true =>
      by_cases h3 : d.length ≤ 2147483647
      · have i3 : ¬ (2147483647 : Int) < (d.length : Int) := by omega
        have HF : Hid (fitsB ty hs d = true) := by show _ = _; unfold fitsB; simp [h2, h3, hf]
        clear hf hb2 HC h2 h3
        go_wp2
        go_ret
        exact ⟨ret_bool (unhide HF).symm, hb3⟩
      · have i3 : (2147483647 : Int) < (d.length : Int) := by omega
        have HF : Hid (fitsB ty hs d = false) := by show _ = _; unfold fitsB; simp [h3]
        clear hf hb2 HC h2 h3
        go_wp2
        go_ret
        exact ⟨ret_bool (unhide HF).symm, hb3⟩
    | false =>
      have HF : Hid (fitsB ty hs d = false) := by show _ = _; unfold fitsB; simp [hf]
      clear hf hb2 HC h2 hc2
      go_wp2
      go_ret
      exact ⟨ret_bool (unhide HF).symm, hb3⟩
  · have i1 : (2147483647 : Int) < (ty.length : Int) := by omega
    have HF : Hid (fitsB ty hs d = false) := by show _ = _; unfold fitsB; simp [h2]
    clear h2 HC
    go_enter Try.func15, Try.ntmps15
    go_wp2
    go_ret
    exact ⟨ret_bool (unhide HF).symm, balloc (Below.refl _ _) _⟩

theorem fits_ty {ty : List UInt8} {hs : Hdrs} {d : List UInt8} (h : fitsB ty hs d = true) : ty.length ≤ 2147483647 ∧ hs.length ≤ 2147483647 ∧ d.length ≤ 2147483647 ∧ ∀ p ∈ hs, p.1.length ≤ 2147483647 ∧ p.2.length ≤ 2147483647 := by
  unfold fitsB fitsHs fitsH at h
  simp only [Bool.and_eq_true, decide_eq_true_eq, List.all_eq_true] at h
  exact ⟨h.1.1, h.1.2.1, h.2, h.1.2.2⟩
end Go.Proofs.Ytpjehmblndjknaa
