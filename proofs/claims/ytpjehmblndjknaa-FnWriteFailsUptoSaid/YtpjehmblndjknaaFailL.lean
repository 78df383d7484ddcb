/-
  Walk: the law FnWriteFails, where what is handed in is not great.
-/
import Derived.Test.YtpjehmblndjknaaSameL
namespace Go.Proofs.Ytpjehmblndjknaa
open Go.RowKit Go.Maps
set_option linter.unusedSimpArgs false
set_option linter.unusedVariables false

theorem sl_take {w : World} {p : Option Addr} {cap : Nat} {X : List UInt8} (h : Sl w (.slice p X.length cap) X) {n : Nat} (hn : n ≤ X.length) : Sl w (.slice p n cap) (X.take n) := by
  obtain ⟨p', cap', e, hl, hc⟩ := h
  injection e with e1 e2 e3
  subst e1; subst e3
  have hlen : (X.take n).length = n := by rw [List.length_take]; omega
  refine ⟨p, cap, by rw [hlen], by rw [hlen]; omega, fun hne => ?_⟩
  obtain ⟨b, o, hp, hcell⟩ := hc (by rintro rfl; exact hne (by simp))
  refine ⟨b, o, hp, fun i x hx => ?_⟩
  rw [List.getElem?_take] at hx
  split at hx
  · exact hcell i x hx
  · cases hx

set_option maxRecDepth 100000 in
set_option maxHeartbeats 4000000 in
theorem fnFails_walk (ty d : List UInt8) (hv : Value) (q : Option Addr) (bc : Nat) (hs : Hdrs) (lim : Int) (w : World) (hH : Hd w hv hs) (hS : Sl w (.slice q d.length bc) d) (hbc : bc ≤ 9223372036854775807)
   (h1 : ty.length ≤ 1048576) (hn : hs.length ≤ 1048576) (hx : ∀ p ∈ hs, p.1.length ≤ 1048576 ∧ p.2.length ≤ 1048576) (hd : d.length ≤ 1048576) (hl1 : lim ≤ 9223372036854775807) (hl2 : -9223372036854775808 ≤ lim) :
    Calls Try.prog 9 #[.agg #[.string (bs ty), hv, .slice q d.length bc], .int .i64 lim] w fun e w' => e = .returned (.bool true) ∧ Below w.heap.size w w' := by
  have hb0 : Below w.heap.size w (w.alloc (.cells #[.string (bs ty), hv, .slice q d.length bc] 31)) := balloc (Below.refl _ _) _
  have hfit := zzFits1_any ty d hv _ hs _ (hH.below hb0) (hS.below hb0) (by omega) (by omega) (by omega) (fun p hp => by have := hx p hp; omega)
  rw [World.size_alloc, fits_small h1 hn hx hd] at hfit
  have HF := hide hfit
  have HH := hide hH
  have HS := hide hS
  have HX := hide hx
  have hpl := pemOut_bound h1 (by omega) hd hx
  obtain ⟨p, cap, rfl, _⟩ := hH
  clear hfit hb0 hS hx
  go_enter Try.func9, Try.ntmps9
  go_wp2_with fail
  refine (unhide HF).mono ?_
  rintro e w1 ⟨rfl, hb1⟩
  have HB1 : Hid (Below w.heap.size w w1) := (balloc (Below.refl _ _) _).trans (hb1.mono (by omega))
  have hz1 : w.heap.size < w1.heap.size := by have := hb1.size; rw [World.size_alloc] at this; omega
  have hblk1 : w1.heap[w.heap.size]? = some (.cells #[.string (bs ty), .slice p hs.length cap, .slice q d.length bc] 31 (0, 0)) := by
    rw [hb1.block _ (by omega)]; exact heap_new w _
  have c10 : w1.cell? ⟨w.heap.size, 0, none⟩ = some (.string (bs ty)) := by rw [cell_of_heap hblk1]; rfl
  have c11 : w1.cell? ⟨w.heap.size, 1, none⟩ = some (.slice p hs.length cap) := by rw [cell_of_heap hblk1]; rfl
  have c12 : w1.cell? ⟨w.heap.size, 2, none⟩ = some (.slice q d.length bc) := by rw [cell_of_heap hblk1]; rfl
  have hmem := hide (mem_any ty d (.slice p hs.length cap) _ hs w1 ((unhide HH).below (unhide HB1)) ((unhide HS).below (unhide HB1)) (fun p n c h => by injection h with _ _ h3; omega) (fun p hp => by have := unhide HX p hp; omega) (by omega) (fun h => by omega))
  have HBLK1 := hide hblk1
  clear hb1 HF hblk1
  go_wp2_with fail
  refine (unhide hmem).mono ?_
  rintro e w2 ⟨hb2, hcase⟩
  have hblk2 := (hb2.block _ hz1).trans (unhide HBLK1)
  have c20 : w2.cell? ⟨w.heap.size, 0, none⟩ = some (.string (bs ty)) := by rw [cell_of_heap hblk2]; rfl
  have c21 : w2.cell? ⟨w.heap.size, 1, none⟩ = some (.slice p hs.length cap) := by rw [cell_of_heap hblk2]; rfl
  have c22 : w2.cell? ⟨w.heap.size, 2, none⟩ = some (.slice q d.length bc) := by rw [cell_of_heap hblk2]; rfl
  have HB2 : Hid (Below w.heap.size w w2) := bstep (unhide HB1) hb2
  have hz2 : w.heap.size < w2.heap.size := lt_of_heap hblk2
  have hwk := hide (works_any w2)
  clear hmem hb2 hblk2 HBLK1 c10 c11 c12
  rcases hcase with ⟨hc, rfl⟩ | ⟨hc, v2, rfl, hsl2⟩
  · clear hc
    go_wp2_with fail
    refine (unhide hwk).mono ?_
    rintro e w7 ⟨rfl, hb7⟩
    have HB7 : Hid (Below w.heap.size w w7) := bstep (unhide HB2) hb7
    clear hb7 hwk
    go_wp2
    go_ret
    exact ⟨rfl, unhide HB7⟩
  · have henc := hide (encImpl_main ty d (.slice p hs.length cap) q bc hs lim w2 ((unhide HH).below (unhide HB2)) ((unhide HS).below (unhide HB2)) hbc (fun p hp => by have := unhide HX p hp; omega) (by omega) hc (by omega) (by omega) (by omega))
    obtain ⟨p2, cap2, rfl, hlc2, hc2⟩ := hsl2
    have hsl2 : Sl w2 (.slice p2 (pemOut ty hs d).length cap2) (pemOut ty hs d) := ⟨p2, cap2, rfl, hlc2, hc2⟩
    generalize pemOut ty hs d = X at *
    have HSL2 := hide hsl2
    have hcap2 : X.length ≤ cap2 := hlc2
    clear hc hlc2 hc2 hsl2
    have hor : lim < 0 ∨ (¬ lim < 0 ∧ (X.length : Int) ≤ lim) ∨ (¬ lim < 0 ∧ ¬ (X.length : Int) ≤ lim ∧ (1 : Int) < (hs.length : Int)) ∨ (¬ lim < 0 ∧ ¬ (X.length : Int) ≤ lim ∧ ¬ (1 : Int) < (hs.length : Int)) := by omega
    rcases hor with k1 | ⟨k1, k2⟩ | ⟨k1, k2, k3⟩ | ⟨k1, k2, k3⟩
    · go_wp2_with fail
      refine (unhide hwk).mono ?_
      rintro e w7 ⟨rfl, hb7⟩
      have HB7 : Hid (Below w.heap.size w w7) := bstep (unhide HB2) hb7
      clear hb7 hwk
      go_wp2
      go_ret
      exact ⟨rfl, unhide HB7⟩
    · go_wp2_with fail
      refine (unhide hwk).mono ?_
      rintro e w7 ⟨rfl, hb7⟩
      have HB7 : Hid (Below w.heap.size w w7) := bstep (unhide HB2) hb7
      clear hb7 hwk
      go_wp2
      go_ret
      exact ⟨rfl, unhide HB7⟩
    · go_wp2_with fail
      refine (unhide hwk).mono ?_
      rintro e w7 ⟨rfl, hb7⟩
      have HB7 : Hid (Below w.heap.size w w7) := bstep (unhide HB2) hb7
      clear hb7 hwk
      go_wp2
      go_ret
      exact ⟨rfl, unhide HB7⟩
    · obtain ⟨n, rfl⟩ : ∃ n : Nat, lim = (n : Int) := ⟨lim.toNat, by omega⟩
      have hnX : n < X.length := by omega
      have hlo : limOf (n : Int) = some n := by unfold limOf; rw [if_neg (by omega)]; rfl
      have hk := conv_sl2 (sl_take (unhide HSL2) (Nat.le_of_lt hnX))
      have HK := hide hk
      clear hk hwk
      go_wp2_with fail
      refine (unhide henc).mono ?_
      rintro e w3 ⟨hb3, hcase3⟩
      rcases hcase3 with ⟨hf, -⟩ | ⟨-, v3, rfl, hsl3⟩
      · have := hf n hlo; omega
      have e3 : cut (limOf (n : Int)) X = X.take n := by rw [hlo]; rfl
      rw [e3] at hsl3
      have k3c := conv_sl2 hsl3
      have HK3 := hide k3c
      obtain ⟨p3, cap3, rfl, _⟩ := hsl3
      have hd1 : Below w3.heap.size w3 w3.drew := drewN_below w3 1
      have hl3 : (X.take n).length = n := by rw [List.length_take]; omega
      rw [hl3] at HK3 ⊢
      have k3d := fun m => unhide HK3 (w3.drewN m) (drewN_below w3 m)
      have k2d := fun m => unhide HK (w3.drewN m) (bstep hb3 (drewN_below w3 m))
      have HB3 : Hid (Below w.heap.size w w3) := bstep (unhide HB2) hb3
      have hnc : n ≤ cap2 := by omega
      clear henc hb3 HSL2 e3 k3c hd1 c20 c21 c22
      go_wp2_with fail
      go_quiet (fail)
      go_wp2
      go_ret
      exact ⟨rfl, below_drewN (unhide HB3) _⟩
end Go.Proofs.Ytpjehmblndjknaa
