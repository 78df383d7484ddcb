/-
  Walk: the law FnForm.
-/
import Derived.Test.YtpjehmblndjknaaEncoded
import Derived.Test.YtpjehmblndjknaaOrdered
import Derived.Test.YtpjehmblndjknaaSame
import Derived.Test.YtpjehmblndjknaaWritten
import Derived.Test.YtpjehmblndjknaaForm3
import Derived.Test.YtpjehmblndjknaaColonL
namespace Go.Proofs.Ytpjehmblndjknaa
open Go.RowKit Go.Maps
set_option linter.unusedSimpArgs false
set_option linter.unusedVariables false

theorem plain_mem {l : List UInt8} (h : plainS l = true) : (58 : UInt8) ∉ l ∧ (10 : UInt8) ∉ l := ⟨fun hc => (plain_no h hc).2.1 rfl, fun hc => (plain_no h hc).1 rfl⟩
/-- What the walk needs of a proper block. -/
theorem proper_facts {ty d : List UInt8} {hs : Hdrs} (h : properB ty hs d = true) (ht : ty.length ≤ 2147483647) (hx : ∀ p ∈ hs, p.1.length ≤ 2147483647 ∧ p.2.length ≤ 2147483647) :
    (10 : UInt8) ∉ ty ∧ (58 : UInt8) ∉ ty ∧ (hs.map (·.1)).Nodup ∧ Readable (wlist hs) ∧ (wlist hs).length ≤ 50 ∧ hs.length ≤ 50 ∧ d.length ≤ 5000 ∧ (pemOut ty hs d).length ≤ 1000000000000 ∧ pemOut ty hs d = writtenP ty (wlist hs) d ∧ sameH (wlist hs) hs = true := by
  unfold properB hdrsOK at h
  simp only [Bool.and_eq_true, List.all_eq_true, decide_eq_true_eq] at h
  obtain ⟨⟨⟨h1, h2⟩, h3⟩, h4, h5⟩ := h
  obtain ⟨t1, t2⟩ := plain_mem h1
  have hp := wlist_perm h5
  have hwl : (wlist hs).length ≤ 50 := by rw [hp.length_eq]; exact h2
  have hrd : Readable (wlist hs) := by
    intro p hp2
    obtain ⟨q1, q2⟩ := h4 p (hp.mem_iff.1 hp2)
    exact ⟨(plain_mem q1).1, (plain_mem q1).2, (plain_mem q2).2⟩
  refine ⟨t2, t1, h5, hrd, hwl, h2, h3, ?_, pemOut_written _ _ _, sameH_perm hp⟩
  rw [pemOut_written]
  have := written_len (ty := ty) (d := d) (ls := wlist hs) 2147483647 (fun p hp2 => hx p (hp.mem_iff.1 hp2))
  have h6 : (wlist hs).length * (2 * 2147483647 + 3) ≤ 50 * (2 * 2147483647 + 3) := Nat.mul_le_mul_right _ hwl
  omega

/-- A store of a slice's header does not touch headers. -/
theorem Hd.store {w : World} {v : Value} {hs : Hdrs} {a : Addr} {p : Option Addr} {n c : Nat} (h : Hd w v hs) (ha : w.cell? a = some (.slice p n c)) (x : Value) : Hd (w.setCell a x) v hs := by
  obtain ⟨p1, cap, hv, hl, hc⟩ := h
  refine ⟨p1, cap, hv, hl, fun hne => ?_⟩
  obtain ⟨b, o, hp, hc⟩ := hc hne
  refine ⟨b, o, hp, fun i y hy => ?_⟩
  obtain ⟨h1, h2⟩ := hc i y hy
  exact ⟨by rw [World.cell?_setCell_other _ _ _ _ (fun e => by rw [e] at ha; rw [h1] at ha; cases ha)]; exact h1, by rw [World.cell?_setCell_other _ _ _ _ (fun e => by rw [e] at ha; rw [h2] at ha; cases ha)]; exact h2⟩

set_option maxRecDepth 100000 in
set_option maxHeartbeats 4000000 in
theorem fnForm_walk (ty d : List UInt8) (hv : Value) (q : Option Addr) (bc : Nat) (hs : Hdrs) (w : World) (hH : Hd w hv hs) (hS : Sl w (.slice q d.length bc) d) (hbc : bc ≤ 9223372036854775807)
   (h1 : ty.length ≤ 9223372036854775807) (hn : hs.length ≤ 9223372036854775807) (hx : ∀ p ∈ hs, p.1.length ≤ 9223372036854775807 ∧ p.2.length ≤ 9223372036854775807) (hd : d.length ≤ 9223372036854775807) :
    Calls Try.prog 5 #[.agg #[.string (bs ty), hv, .slice q d.length bc]] w fun e w' => e = .returned (.bool true) ∧ Below w.heap.size w w' := by
  have hb0 : Below w.heap.size w (w.alloc (.cells #[.string (bs ty), hv, .slice q d.length bc] 31)) := balloc (Below.refl _ _) _
  have hfit := zzFits1_any ty d hv _ hs _ (hH.below hb0) (hS.below hb0) h1 hn hd hx
  rw [World.size_alloc] at hfit
  have HF := hide hfit
  have HH := hide hH
  have HS := hide hS
  obtain ⟨p, cap, rfl, _⟩ := hH
  clear hS hb0 hfit hx h1
  cases hfb : fitsB ty hs d with
  | false =>
    have HK := hide hfb
    clear hfb HH HS
    go_enter Try.func5, Try.ntmps5
    go_wp2_with fail
    refine (unhide HF).mono ?_
    rintro e w1 ⟨rfl, hb1⟩
    rw [unhide HK]
    have HB1 : Hid (Below w.heap.size w w1) := (balloc (Below.refl _ _) _).trans (hb1.mono (by omega))
    clear hb1 HF
    go_wp2
    go_ret
    exact ⟨rfl, unhide HB1⟩
  | true =>
    have HK := hide hfb
    obtain ⟨k1, k2, k3, k4⟩ := fits_ty hfb
    have K4 := hide k4
    have n1 : hs.length ≤ 4294967295 := by omega
    have n2 : ty.length ≤ 4294967295 := by omega
    clear hfb k4
    go_enter Try.func5, Try.ntmps5
    go_wp2_with fail
    refine (unhide HF).mono ?_
    rintro e w1 ⟨rfl, hb1⟩
    rw [unhide HK]
    have HB1 : Hid (Below w.heap.size w w1) := (balloc (Below.refl _ _) _).trans (hb1.mono (by omega))
    have hz1 : w.heap.size < w1.heap.size := by have := hb1.size; rw [World.size_alloc] at this; omega
    have hblk1 : w1.heap[w.heap.size]? = some (.cells #[.string (bs ty), .slice p hs.length cap, .slice q d.length bc] 31 (0, 0)) := by
      rw [hb1.block _ (by omega)]; exact heap_new w _
    have c10 : w1.cell? ⟨w.heap.size, 0, none⟩ = some (.string (bs ty)) := by rw [cell_of_heap hblk1]; rfl
    have c11 : w1.cell? ⟨w.heap.size, 1, none⟩ = some (.slice p hs.length cap) := by rw [cell_of_heap hblk1]; rfl
    have c12 : w1.cell? ⟨w.heap.size, 2, none⟩ = some (.slice q d.length bc) := by rw [cell_of_heap hblk1]; rfl
    have hblkc := hide (block_any ty (.slice p hs.length cap) hs q d.length bc w1 ((unhide HH).below (unhide HB1)) n1)
    clear hb1 HF
    go_wp2_with fail
    refine (unhide hblkc).mono ?_
    rintro e w2 ⟨hv2, rfl, hH2, hb2⟩
    obtain ⟨p2, cap2, rfl, hcl2⟩ := hH2
    have hH2 : Hd w2 (.slice p2 hs.length cap2) hs := ⟨p2, cap2, rfl, hcl2⟩
    have hz2 : w1.heap.size ≤ w2.heap.size := hb2.size
    have HB2 : Hid (Below w.heap.size w w2) := bstep (unhide HB1) hb2
    have hblk2 : w2.heap[w.heap.size]? = _ := (hb2.block _ hz1).trans hblk1
    clear hblkc c10 c11 c12 hb2 hcl2
    have HX2 := hide hH2
    have hprop := hide (fun W (h : Below w2.heap.size w2 W) => proper_any ty d _ hs q bc W (hH2.below h) n1 n2 hd (fun p hp => by have := unhide K4 p hp; omega))
    clear hH2
    have hx3 : ∀ W, Below (w2.alloc (.cells #[.string (bs ty), .slice p2 hs.length cap2, .slice q d.length bc] 35)).heap.size (w2.alloc (.cells #[.string (bs ty), .slice p2 hs.length cap2, .slice q d.length bc] 35)) W →
        W.heap[w.heap.size]? = some (.cells #[.string (bs ty), .slice p hs.length cap, .slice q d.length bc] 31 (0, 0)) ∧ W.heap[w2.heap.size]? = some (.cells #[.string (bs ty), .slice p2 hs.length cap2, .slice q d.length bc] 35 (0, 0)) ∧ Below w.heap.size w W := by
      intro W hW
      refine ⟨(hW.block _ (by rw [World.size_alloc]; omega)).trans ((Below.heap_alloc _ _ _ (by omega)).trans hblk2), (hW.block _ (by rw [World.size_alloc]; omega)).trans (heap_new w2 _), bstep (balloc (unhide HB2) _) hW⟩
    have HX3 := hide hx3
    clear hx3 hblk1 hblk2
    go_wp2_with fail
    refine (unhide hprop _ (balloc (Below.refl _ _) _)).mono ?_
    rintro e w3 ⟨rfl, hb3⟩
    obtain ⟨hblk3, hxb3, hbw3⟩ := unhide HX3 w3 hb3
    have HX4 := hide ((unhide HX2).below ((balloc (Below.refl _ _) _).trans (hb3.mono (by rw [World.size_alloc]; omega))))
    have HB3 := hide hbw3
    have hz3 : w.heap.size < w3.heap.size ∧ w2.heap.size < w3.heap.size := ⟨lt_of_heap hblk3, lt_of_heap hxb3⟩
    have hne : w.heap.size < w2.heap.size := by omega
    clear HX3 hb3 hbw3 hprop HX2 HB2
    cases hpr : properB ty hs d with
    | false =>
      have hwk := hide (works_any w3)
      clear hpr hblk3 hxb3
      go_wp2_with fail
      refine (unhide hwk).mono ?_
      rintro e w4 ⟨rfl, hb4⟩
      have HB4 : Hid (Below w.heap.size w w4) := bstep (unhide HB3) hb4
      clear hb4 hwk
      go_wp2
      go_ret
      exact ⟨rfl, unhide HB4⟩
    | true =>
      have HPR := hide hpr
      obtain ⟨f1, f2, f3, f4, f5, f6, f7, f8, f9, f10⟩ := proper_facts hpr k1 (unhide K4)
      have HF9 := hide f9
      have HF10 := hide f10
      have HF4 := hide f4
      have c30 : w3.cell? ⟨w.heap.size, 0, none⟩ = some (.string (bs ty)) := by rw [cell_of_heap hblk3]; rfl
      have c31 : w3.cell? ⟨w.heap.size, 1, none⟩ = some (.slice p hs.length cap) := by rw [cell_of_heap hblk3]; rfl
      have c32 : w3.cell? ⟨w.heap.size, 2, none⟩ = some (.slice q d.length bc) := by rw [cell_of_heap hblk3]; rfl
      have henc := hide (encoded_any ty d (.slice p hs.length cap) q bc hs w3 ((unhide HH).below (unhide HB3)) ((unhide HS).below (unhide HB3)) hbc (fun p hp => by have := unhide K4 p hp; omega) n1 n2 (fun _ => by omega))
      have HXB3 := hide hxb3
      clear hpr f9 f10 f4 hblk3 hxb3
      go_wp2_with fail
      refine (unhide henc).mono ?_
      rintro e w4 ⟨hb4, hcase⟩
      rcases hcase with ⟨-, rfl⟩ | ⟨hf, -⟩
      rotate_left
      · rw [unhide HPR] at hf; cases hf
      have HB4 : Hid (Below w.heap.size w w4) := bstep (unhide HB3) hb4
      have HX5 := hide ((unhide HX4).below hb4)
      have HXB4 := hide ((hb4.block _ hz3.2).trans (unhide HXB3))
      have hz4 : w2.heap.size < w4.heap.size := lt_of_heap (unhide HXB4)
      have hord := ordered_any ty d (wlist hs) w4 f1 f2 (unhide HF4) (by rw [← unhide HF9]; omega) (by omega)
      rw [← unhide HF9] at hord
      have HO := hide hord
      generalize hX : pemOut ty hs d = X at *
      have HXX := hide hX
      clear hX hord henc hb4 c30 c31 c32 HX4 HXB3 hz3 HB3
      go_wp2_with fail
      refine (unhide HO).mono ?_
      rintro e w5 ⟨v5, rfl, hH5, hb5⟩
      obtain ⟨p5, cap5, rfl, hcl5⟩ := hH5
      have hH5 : Hd w5 (.slice p5 (wlist hs).length cap5) (wlist hs) := ⟨p5, cap5, rfl, hcl5⟩
      have HB5 : Hid (Below w.heap.size w w5) := bstep (unhide HB4) hb5
      have hxb5 := (hb5.block _ hz4).trans (unhide HXB4)
      have c51 : w5.cell? ⟨w2.heap.size, 1, none⟩ = some (.slice p2 hs.length cap2) := by rw [cell_of_heap hxb5]; rfl
      have hsame := same_any (wlist hs) hs (.slice p5 (wlist hs).length cap5) (.slice p2 hs.length cap2) w5 hH5 ((unhide HX5).below hb5) (by omega) (by omega)
      rw [unhide HF10] at hsame
      have HSA := hide hsame
      have HH5 := hide hH5
      have HXB5 := hide hxb5
      have hz5 : w2.heap.size < w5.heap.size := lt_of_heap hxb5
      clear hcl5 hH5 hb5 hxb5 hsame HO HX5 HXB4 HB4 hz4
      go_wp2_with fail
      refine (unhide HSA).mono ?_
      rintro e w6 ⟨rfl, hb6⟩
      have hxb6 := (hb6.block _ hz5).trans (unhide HXB5)
      have c61 : w6.cell? ⟨w2.heap.size, 1, none⟩ = some (.slice p2 hs.length cap2) := by rw [cell_of_heap hxb6]; rfl
      have f61 : w6.frozen? ⟨w2.heap.size, 1, none⟩ = false := frozen_of_heap hxb6 _
      have hxb7 := heap_set_same hxb6 (i := 1) (.slice p5 (wlist hs).length cap5)
      have HB6 : Hid (Below w.heap.size w w6) := bstep (unhide HB5) hb6
      have HB7 : Hid (Below w.heap.size w (w6.setCell ⟨w2.heap.size, 1, none⟩ (.slice p5 (wlist hs).length cap5))) := (unhide HB6).setCell (Nat.le_of_lt hne) _
      have HH7 := ((unhide HH5).below hb6).store c61 (.slice p5 (wlist hs).length cap5)
      generalize hW7 : w6.setCell ⟨w2.heap.size, 1, none⟩ (.slice p5 (wlist hs).length cap5) = w7 at hxb7 HB7 HH7
      have HW7 := hide hW7
      have hwr := written_any ty d (.slice p5 (wlist hs).length cap5) (wlist hs) q bc w7 HH7 ((unhide HS).below (unhide HB7)) (by omega) (by omega) (by rw [← unhide HF9]; omega)
      rw [← unhide HF9] at hwr
      have HWR := hide hwr
      have c70 : w7.cell? ⟨w2.heap.size, 0, none⟩ = some (.string (bs ty)) := by rw [cell_of_heap hxb7]; rfl
      have c71 : w7.cell? ⟨w2.heap.size, 1, none⟩ = some (.slice p5 (wlist hs).length cap5) := by rw [cell_of_heap hxb7]; rfl
      have c72 : w7.cell? ⟨w2.heap.size, 2, none⟩ = some (.slice q d.length bc) := by rw [cell_of_heap hxb7]; rfl
      clear hb6 hxb6 hxb7 HH7 hwr HSA HH5 HXB5 HB5 HB6 c51 hz5
      go_wp2_with fail
      refine (unhide HWR).mono ?_
      rintro e w8 ⟨rfl, hb8⟩
      have HB8 : Hid (Below w.heap.size w w8) := bstep (unhide HB7) hb8
      have hwk := hide (works_any w8)
      clear hb8 HWR c70 c71 c72 HW7 HB7
      go_wp2_with fail
      refine (unhide hwk).mono ?_
      rintro e w9 ⟨rfl, hb9⟩
      have HB9 : Hid (Below w.heap.size w w9) := bstep (unhide HB8) hb9
      clear hb9 hwk
      go_wp2
      go_ret
      exact ⟨rfl, unhide HB9⟩
end Go.Proofs.Ytpjehmblndjknaa
