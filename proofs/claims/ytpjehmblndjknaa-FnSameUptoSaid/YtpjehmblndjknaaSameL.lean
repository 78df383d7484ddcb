/-
  Walks: the laws FnSame and FnWriteFails, where what is handed in is not great.
-/
import Derived.Test.YtpjehmblndjknaaForm3
import Derived.Test.YtpjehmblndjknaaWorks
import Derived.Test.YtpjehmblndjknaaImplEnc2
import Derived.BigQuiet
import Derived.Deep.QuietTactic
namespace Go.Proofs.Ytpjehmblndjknaa
open Go.RowKit Go.Maps
set_option linter.unusedSimpArgs false
set_option linter.unusedVariables false

theorem fits_small {ty d : List UInt8} {hs : Hdrs} (h1 : ty.length ≤ 1048576) (hn : hs.length ≤ 1048576) (hx : ∀ p ∈ hs, p.1.length ≤ 1048576 ∧ p.2.length ≤ 1048576) (hd : d.length ≤ 1048576) : fitsB ty hs d = true := by
  unfold fitsB fitsHs
  simp only [Bool.and_eq_true, decide_eq_true_eq, List.all_eq_true]
  refine ⟨⟨by omega, by omega, fun p hp => ?_⟩, by omega⟩
  have := hx p hp
  unfold fitsH
  simp only [Bool.and_eq_true, decide_eq_true_eq]
  omega

set_option maxRecDepth 100000 in
set_option maxHeartbeats 4000000 in
theorem fnSame_walk (ty d : List UInt8) (hv : Value) (q : Option Addr) (bc : Nat) (hs : Hdrs) (w : World) (hH : Hd w hv hs) (hS : Sl w (.slice q d.length bc) d) (hbc : bc ≤ 9223372036854775807)
   (h1 : ty.length ≤ 1048576) (hn : hs.length ≤ 1048576) (hx : ∀ p ∈ hs, p.1.length ≤ 1048576 ∧ p.2.length ≤ 1048576) (hd : d.length ≤ 1048576) :
    Calls Try.prog 8 #[.agg #[.string (bs ty), hv, .slice q d.length bc]] w fun e w' => e = .returned (.bool true) ∧ Below w.heap.size w w' := by
  have hb0 : Below w.heap.size w (w.alloc (.cells #[.string (bs ty), hv, .slice q d.length bc] 31)) := balloc (Below.refl _ _) _
  have hfit := zzFits1_any ty d hv _ hs _ (hH.below hb0) (hS.below hb0) (by omega) (by omega) (by omega) (fun p hp => by have := hx p hp; omega)
  rw [World.size_alloc, fits_small h1 hn hx hd] at hfit
  have HF := hide hfit
  have HH := hide hH
  have HS := hide hS
  have HX := hide hx
  have hpl := pemOut_bound h1 (by omega) hd hx
  obtain ⟨p, cap, rfl, _⟩ := hH
  clear hfit hb0 hS hx
  go_enter Try.func8, Try.ntmps8
  go_wp2_with fail
  refine (unhide HF).mono ?_
  rintro e w1 ⟨rfl, hb1⟩
  have HB1 : Hid (Below w.heap.size w w1) := (balloc (Below.refl _ _) _).trans (hb1.mono (by omega))
  have hz1 : w.heap.size < w1.heap.size := by have := hb1.size; rw [World.size_alloc] at this; omega
  have hblk1 : w1.heap[w.heap.size]? = some (.cells #[.string (bs ty), .slice p hs.length cap, .slice q d.length bc] 31 (0, 0)) := by
    rw [hb1.block _ (by omega)]; exact heap_new w _
  have c10 : w1.cell? ⟨w.heap.size, 0, none⟩ = some (.string (bs ty)) := by rw [cell_of_heap hblk1]; rfl
  have c11 : w1.cell? ⟨w.heap.size, 1, none⟩ = some (.slice p hs.length cap) := by rw [cell_of_heap hblk1]; rfl
  have c12 : w1.cell? ⟨w.heap.size, 2, none⟩ = some (.slice q d.length bc) := by rw [cell_of_heap hblk1]; rfl
  have hmem := hide (mem_any ty d (.slice p hs.length cap) _ hs w1 ((unhide HH).below (unhide HB1)) ((unhide HS).below (unhide HB1)) (fun p n c h => by injection h with _ _ h3; omega) (fun p hp => by have := unhide HX p hp; omega) (by omega) (fun h => by omega))
  have HBLK1 := hide hblk1
  clear hb1 HF hblk1
  go_wp2_with fail
  refine (unhide hmem).mono ?_
  rintro e w2 ⟨hb2, hcase⟩
  have hblk2 := (hb2.block _ hz1).trans (unhide HBLK1)
  have c20 : w2.cell? ⟨w.heap.size, 0, none⟩ = some (.string (bs ty)) := by rw [cell_of_heap hblk2]; rfl
  have c21 : w2.cell? ⟨w.heap.size, 1, none⟩ = some (.slice p hs.length cap) := by rw [cell_of_heap hblk2]; rfl
  have c22 : w2.cell? ⟨w.heap.size, 2, none⟩ = some (.slice q d.length bc) := by rw [cell_of_heap hblk2]; rfl
  have HB2 : Hid (Below w.heap.size w w2) := bstep (unhide HB1) hb2
  have hz2 : w.heap.size < w2.heap.size := lt_of_heap hblk2
  have HBLK2 := hide hblk2
  clear hmem hb2 hblk2 HBLK1 c10 c11 c12
  rcases hcase with ⟨hc, rfl⟩ | ⟨hc, v2, rfl, hsl2⟩
  · have henc := hide (encImpl_colon ty (.slice p hs.length cap) q d.length bc hs (-1) w2 ((unhide HH).below (unhide HB2)) (fun p hp => by have := unhide HX p hp; omega) (by omega) hc)
    clear hc
    go_wp2_with fail
    refine (unhide henc).mono ?_
    rintro e w3 ⟨rfl, hb3⟩
    have hblk3 := (hb3.block _ hz2).trans (unhide HBLK2)
    have c31 : w3.cell? ⟨w.heap.size, 1, none⟩ = some (.slice p hs.length cap) := by rw [cell_of_heap hblk3]; rfl
    have HB3 : Hid (Below w.heap.size w w3) := bstep (unhide HB2) hb3
    have hwk := hide (works_any w3)
    clear henc hb3 hblk3 HBLK2 c20 c21 c22
    by_cases h2 : 1 < hs.length
    · have hi : (1 : Int) < (hs.length : Int) := by omega
      go_wp2_with fail
      refine (unhide hwk).mono ?_
      rintro e w7 ⟨rfl, hb7⟩
      have HB7 : Hid (Below w.heap.size w w7) := bstep (unhide HB3) hb7
      clear hb7 hwk
      go_wp2
      go_ret
      exact ⟨rfl, unhide HB7⟩
    · have hi : ¬ (1 : Int) < (hs.length : Int) := by omega
      go_wp2_with fail
      refine (unhide hwk).mono ?_
      rintro e w7 ⟨rfl, hb7⟩
      have HB7 : Hid (Below w.heap.size w w7) := bstep (unhide HB3) hb7
      clear hb7 hwk
      go_wp2
      go_ret
      exact ⟨rfl, unhide HB7⟩
  · have henc := hide (encImpl_main ty d (.slice p hs.length cap) q bc hs (-1) w2 ((unhide HH).below (unhide HB2)) ((unhide HS).below (unhide HB2)) hbc (fun p hp => by have := unhide HX p hp; omega) (by omega) hc (by omega) (by omega) (by omega))
    obtain ⟨p2, cap2, rfl, hl2, hc2⟩ := hsl2
    have hsl2 : Sl w2 (.slice p2 (pemOut ty hs d).length cap2) (pemOut ty hs d) := ⟨p2, cap2, rfl, hl2, hc2⟩
    have HSL2 := hide (conv_sl2 hsl2)
    generalize pemOut ty hs d = X at *
    clear hc hl2 hc2 hsl2
    go_wp2_with fail
    refine (unhide henc).mono ?_
    rintro e w3 ⟨hb3, hcase3⟩
    rcases hcase3 with ⟨-, v3, rfl, hsl3⟩ | ⟨hnf, -⟩
    rotate_left
    · exact absurd (fun m hm => by cases hm) hnf
    obtain ⟨p3, cap3, rfl, hl3, hc3⟩ := hsl3
    have hsl3 : Sl w3 (.slice p3 X.length cap3) X := ⟨p3, cap3, rfl, hl3, hc3⟩
    have HSL3 := hide (conv_sl2 hsl3)
    have hblk3 := (hb3.block _ hz2).trans (unhide HBLK2)
    have c31 : w3.cell? ⟨w.heap.size, 1, none⟩ = some (.slice p hs.length cap) := by rw [cell_of_heap hblk3]; rfl
    have HB3 : Hid (Below w.heap.size w w3) := bstep (unhide HB2) hb3
    have HB23 := hide hb3
    have hwk := hide (works_any w3)
    clear henc hb3 hblk3 HBLK2 c20 c21 c22 hsl3 hc3 hl3
    by_cases h2 : 1 < hs.length
    · have hi : (1 : Int) < (hs.length : Int) := by omega
      go_wp2_with fail
      refine (unhide hwk).mono ?_
      rintro e w7 ⟨rfl, hb7⟩
      have HB7 : Hid (Below w.heap.size w w7) := bstep (unhide HB3) hb7
      clear hb7 hwk
      go_wp2
      go_ret
      exact ⟨rfl, unhide HB7⟩
    · have hi : ¬ (1 : Int) < (hs.length : Int) := by omega
      go_wp2_with fail
      refine (unhide hwk).mono ?_
      rintro e w7 ⟨rfl, hb7⟩
      have HB7 : Hid (Below w.heap.size w w7) := bstep (unhide HB3) hb7
      have k2 := unhide HSL2 w7 (bstep (unhide HB23) hb7)
      have k3 := unhide HSL3 w7 hb7
      clear hb7 hwk
      go_wp2
      go_ret
      exact ⟨rfl, unhide HB7⟩
end Go.Proofs.Ytpjehmblndjknaa
