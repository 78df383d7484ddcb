/-
  Walk: the law FnColon.
-/
import Derived.Test.YtpjehmblndjknaaWorks
import Derived.Test.YtpjehmblndjknaaImplEnc
import Derived.Test.YtpjehmblndjknaaHcell
namespace Go.Proofs.Ytpjehmblndjknaa
open Go.RowKit Go.Maps
set_option linter.unusedSimpArgs false
set_option linter.unusedVariables false

theorem bstep' {w a b : World} {B : Nat} (h : Below B w a) (hB : B ≤ w.heap.size) (k : Below a.heap.size a b) : Below B w b := h.trans (k.mono (Nat.le_trans hB h.size))

set_option maxRecDepth 100000 in
set_option maxHeartbeats 2000000 in
theorem fnColon_walk (ty d a b v : List UInt8) (hv : Value) (q : Option Addr) (bc : Nat) (hs : Hdrs) (w : World) (hH : Hd w hv hs) (hS : Sl w (.slice q d.length bc) d) (hbc : bc ≤ 9223372036854775807)
   (h1 : ty.length ≤ 9223372036854775807) (hn : hs.length ≤ 9223372036854775807) (hx : ∀ p ∈ hs, p.1.length ≤ 9223372036854775807 ∧ p.2.length ≤ 9223372036854775807)
   (ha : a.length ≤ 9223372036854775807) (hb : b.length ≤ 9223372036854775807) (hvl : v.length ≤ 9223372036854775807) (hd : d.length ≤ 9223372036854775807) :
    Calls Try.prog 7 #[.agg #[.string (bs ty), hv, .slice q d.length bc], .string (bs a), .string (bs b), .string (bs v)] w fun e w' => e = .returned (.bool true) ∧ Below w.heap.size w w' := by
  have hb0 : Below w.heap.size w (w.alloc (.cells #[.string (bs ty), hv, .slice q d.length bc] 31)) := balloc (Below.refl _ _) _
  have hfit := zzFits1_any ty d hv _ hs _ (hH.below hb0) (hS.below hb0) h1 hn hd hx
  rw [World.size_alloc] at hfit
  have HF := hide hfit
  obtain ⟨i0, hi, hz0, hz1, hz2⟩ := info_parts infoH
  have HH := hide hH
  obtain ⟨p, cap, rfl, hcells⟩ := hH.cells
  by_cases hok : fitsB ty hs d = true ∧ a.length ≤ 2147483647 ∧ b.length ≤ 2147483647 ∧ v.length ≤ 2147483647
  · obtain ⟨k0, k1, k2, k3⟩ := hok
    have i1 : ¬ (2147483647 : Int) < (a.length : Int) := by omega
    have i2 : ¬ (2147483647 : Int) < (b.length : Int) := by omega
    have i3 : ¬ (2147483647 : Int) < (v.length : Int) := by omega
    have HK := hide (And.intro k0 (And.intro k1 (And.intro k2 k3)))
    have HS := hide hS
    have HHC := hide hcells
    have HX := hide hx
    have hnn : hs.length ≤ 2147483647 := by
      unfold fitsB fitsHs at k0
      simp only [Bool.and_eq_true, decide_eq_true_eq] at k0
      exact k0.1.2.1
    have hmk : hs.length + 1 ≤ 4294967296 := by omega
    clear k0 k1 k2 k3 hfit hb0 hS hH hcells h1 hn hx ha hb hvl hd
    go_enter Try.func7, Try.ntmps7
    go_wp2_with fail
    refine (unhide HF).mono ?_
    rintro e w1 ⟨rfl, hb1⟩
    rw [(unhide HK).1]
    have HB1 : Hid (Below w.heap.size w w1) := (balloc (Below.refl _ _) _).trans (hb1.mono (by omega))
    have hz : w.heap.size < w1.heap.size := by have := hb1.size; rw [World.size_alloc] at this; omega
    have hblk : w1.heap[w.heap.size]? = some (.cells #[.string (bs ty), .slice p hs.length cap, .slice q d.length bc] 31 (0, 0)) := by
      rw [hb1.block _ (by omega)]; exact heap_new w _
    have hc1 : w1.cell? ⟨w.heap.size, 1, none⟩ = some (.slice p hs.length cap) := by rw [cell_of_heap hblk]; rfl
    clear hb1
    have hown0 : (w1.alloc (.cells #[] 46)).ownsRow (w.heap.size + 1) 46 2 (.slice (some ⟨w1.heap.size, 0, none⟩) 0 0) 0 (hcells []) :=
      ⟨rfl, .inr ⟨_, 0, #[], rfl, by omega, heap_new w1 _, Nat.le_refl _, Nat.zero_le _, rfl, rfl⟩⟩
    have hu1 : Hd (w1.alloc (.cells #[] 46)) (.slice p hs.length cap) hs := ((unhide HH).below (unhide HB1)).below (balloc (Below.refl _ _) _)
    obtain ⟨v2, w2, hr2, hown2, hg2⟩ := append_hd (w0 := w) 29 46 Try.underlying29 infoH 29 hown0 hu1 (by omega) (by rw [World.size_alloc]; omega)
    rw [Nat.zero_add, List.nil_append] at hown2
    have hz2 : w.heap.size + 1 < w2.heap.size := by have := hg2.size; rw [World.size_alloc] at this; omega
    have hblk2 : w2.heap[w.heap.size]? = some (.cells #[.string (bs ty), .slice p hs.length cap, .slice q d.length bc] 31 (0, 0)) :=
      (hg2.block _ (by rw [World.size_alloc]; omega) (by simp [Value.ownBlock]; omega)).trans ((Below.heap_alloc _ _ _ hz).trans hblk)
    have HB2 : Hid (Below w.heap.size w w2) := (balloc (unhide HB1) _).grown hg2 (by rw [World.size_alloc]; omega) (fun j hj => by simp [Value.ownBlock] at hj; omega)
    obtain ⟨v3, w3, hr3, hown3, hg3⟩ := append_hd1 29 46 Try.underlying29 infoH 29 (a ++ 58 :: b) v hown2 (by omega) (by omega) 46
    have hlt2 := hown2.lt
    have hblk3 : w3.heap[w.heap.size]? = some (.cells #[.string (bs ty), .slice p hs.length cap, .slice q d.length bc] 31 (0, 0)) :=
      (hg3.block _ (by rw [World.size_alloc]; omega) (fun e => by have := (hlt2 _ e.symm).1; omega)).trans ((Below.heap_alloc _ _ _ (by omega)).trans hblk2)
    have HB3 : Hid (Below w.heap.size w w3) := (balloc (unhide HB2) _).grown hg3 (by rw [World.size_alloc]; omega) (fun j hj => by have := (hlt2 _ hj).1; omega)
    have hz3 : w.heap.size < w3.heap.size := lt_of_heap hblk3
    have hH3 := Hd.of_owns hown3
    have hH4 : Hd (w3.setCell ⟨w.heap.size, 1, none⟩ v3) v3 (hs ++ [(a ++ 58 :: b, v)]) := Hd.of_owns (ownsRow_setCell hown3 (Nat.lt_succ_self _) 1 v3)
    obtain ⟨p3, cap3, rfl, _⟩ := hH3
    rw [List.length_append, List.length_singleton] at *
    have c30 : w3.cell? ⟨w.heap.size, 0, none⟩ = some (.string (bs ty)) := by rw [cell_of_heap hblk3]; rfl
    have c31 : w3.cell? ⟨w.heap.size, 1, none⟩ = some (.slice p hs.length cap) := by rw [cell_of_heap hblk3]; rfl
    have c32 : w3.cell? ⟨w.heap.size, 2, none⟩ = some (.slice q d.length bc) := by rw [cell_of_heap hblk3]; rfl
    have f31 : w3.frozen? ⟨w.heap.size, 1, none⟩ = false := frozen_of_heap hblk3 _
    have hS4 : Sl (w3.setCell ⟨w.heap.size, 1, none⟩ (.slice p3 (hs.length + 1) cap3)) (.slice q d.length bc) d := (unhide HS).below ((unhide HB3).setCell (Nat.le_refl _) _)
    have HB4 : Hid (Below w.heap.size w (w3.setCell ⟨w.heap.size, 1, none⟩ (.slice p3 (hs.length + 1) cap3))) := (unhide HB3).setCell (Nat.le_refl _) _
    have hblk4 := heap_set_same hblk3 (i := 1) (.slice p3 (hs.length + 1) cap3)
    have hkl : ∀ p ∈ hs ++ [(a ++ 58 :: b, v)], p.1.length ≤ 140737488355328 ∧ p.2.length ≤ 140737488355328 := by
      intro x hx
      obtain ⟨f0, f1, f2, f3⟩ := unhide HK
      obtain ⟨_, _, _, f4⟩ := fits_ty f0
      rcases List.mem_append.1 hx with h | h
      · have := f4 x h; omega
      · rw [List.mem_singleton.1 h]
        simp only [List.length_append, List.length_cons]
        omega
    have hac : anyColon (hs ++ [(a ++ 58 :: b, v)]) = true := by
      unfold anyColon
      rw [List.any_append]
      simp
    have hmem := mem_any ty d _ _ _ _ hH4 hS4 (fun p n c h => by injection h with _ _ h3; omega) hkl (by rw [List.length_append]; simp; omega) (fun h => by rw [hac] at h; cases h)
    have HH4 := hide hH4
    have HMEM := hide hmem
    have HKL := hide hkl
    have HAC := hide hac
    have HBLK4 := hide hblk4
    clear hown0 hu1 hg2 hblk hg3 hown2 hown3 hlt2 hblk2 hH4 hS4 hmem hkl hac hblk4 hblk3
    go_wp2_with (first
      | (at_builtin; refine Lib.wpList_append_run_sl _ rfl _ _ 29 rfl _ _ rfl rfl hr2 ?_)
      | (at_builtin; refine Lib.wpList_append_run_sl _ rfl _ _ 29 rfl _ _ rfl rfl hr3 ?_)
      | fail)
    clear hr2 hr3 c30 c31 c32 f31
    refine (unhide HMEM).mono ?_
    rintro e w5 ⟨hb5, hcase⟩
    rcases hcase with ⟨-, rfl⟩ | ⟨hf, -⟩
    rotate_left
    · rw [unhide HAC] at hf; cases hf
    have hblk5 : w5.heap[w.heap.size]? = _ := (hb5.block _ (by simp; omega)).trans (unhide HBLK4)
    have c50 : w5.cell? ⟨w.heap.size, 0, none⟩ = some (.string (bs ty)) := by rw [cell_of_heap hblk5]; rfl
    have c51 : w5.cell? ⟨w.heap.size, 1, none⟩ = some (.slice p3 (hs.length + 1) cap3) := by rw [cell_of_heap hblk5]; rfl
    have c52 : w5.cell? ⟨w.heap.size, 2, none⟩ = some (.slice q d.length bc) := by rw [cell_of_heap hblk5]; rfl
    have HB5 : Hid (Below w.heap.size w w5) := bstep (unhide HB4) hb5
    have henc := hide (encImpl_colon ty (.slice p3 (hs.length + 1) cap3) q d.length bc (hs ++ [(a ++ 58 :: b, v)]) (-1) w5 ((unhide HH4).below hb5) (unhide HKL) (by rw [List.length_append]; simp; omega) (unhide HAC))
    clear hb5 hblk5 HMEM
    go_wp2_with fail
    refine (unhide henc).mono ?_
    rintro e w6 ⟨rfl, hb6⟩
    have HB6 : Hid (Below w.heap.size w w6) := bstep (unhide HB5) hb6
    have hwk := hide (works_any w6)
    clear hb6 henc c50 c51 c52
    go_wp2_with fail
    refine (unhide hwk).mono ?_
    rintro e w7 ⟨rfl, hb7⟩
    have HB7 : Hid (Below w.heap.size w w7) := bstep (unhide HB6) hb7
    clear hb7 hwk
    go_wp2
    go_ret
    exact ⟨rfl, unhide HB7⟩
  · clear hx h1 hn hS hH hcells hb0 hfit HH hz0 hz1 hz2 hi
    have hor : fitsB ty hs d = false ∨ (fitsB ty hs d = true ∧ 2147483647 < (a.length : Int)) ∨ (fitsB ty hs d = true ∧ ¬ 2147483647 < (a.length : Int) ∧ 2147483647 < (b.length : Int)) ∨ (fitsB ty hs d = true ∧ ¬ 2147483647 < (a.length : Int) ∧ ¬ 2147483647 < (b.length : Int) ∧ 2147483647 < (v.length : Int)) := by
      cases hf : fitsB ty hs d with
      | false => exact .inl rfl
      | true =>
        right
        by_cases h1 : a.length ≤ 2147483647
        · right
          by_cases h2 : b.length ≤ 2147483647
          · right
            by_cases h3 : v.length ≤ 2147483647
            · exact absurd ⟨hf, h1, h2, h3⟩ hok
            · exact ⟨rfl, by omega, by omega, by omega⟩
          · left; exact ⟨rfl, by omega, by omega⟩
        · left; exact ⟨rfl, by omega⟩
    clear hok
    rcases hor with k0 | ⟨k0, k1⟩ | ⟨k0, k1, k2⟩ | ⟨k0, k1, k2, k3⟩
    all_goals (
      have HK0 := hide k0
      clear k0
      go_enter Try.func7, Try.ntmps7
      go_wp2_with fail
      refine (unhide HF).mono ?_
      rintro e w1 ⟨rfl, hb1⟩
      rw [unhide HK0]
      have HB1 : Hid (Below w.heap.size w w1) := (balloc (Below.refl _ _) _).trans (hb1.mono (by omega))
      clear hb1 HF
      go_wp2
      go_ret
      exact ⟨rfl, unhide HB1⟩)
end Go.Proofs.Ytpjehmblndjknaa
