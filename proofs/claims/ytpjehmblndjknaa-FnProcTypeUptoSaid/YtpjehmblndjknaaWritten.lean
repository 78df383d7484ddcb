/-
  Walk: spec.Written.
-/
import Derived.Test.YtpjehmblndjknaaSpecB64
import Derived.Test.YtpjehmblndjknaaLines
import Derived.Test.YtpjehmblndjknaaForm2
import Derived.Test.YtpjehmblndjknaaMem
import Derived.Deep.RegionWith
namespace Go.Proofs.Ytpjehmblndjknaa
open Go.RowKit Go.Maps
set_option linter.unusedSimpArgs false
set_option linter.unusedVariables false

/-- The first line and the first headers. -/
def topP (ty : List UInt8) (ls : Hdrs) : List UInt8 := begP ++ ty ++ (dashP ++ [10]) ++ hlinesL ls
theorem topP_len (ty : List UInt8) (ls : Hdrs) (b : List UInt8) (k : Nat) : (topP ty (ls.take k)).length + (lines64 (b64 b)).length + ty.length + 20 ≤ (writtenP ty ls b).length + 20 := by
  have h2 : hlinesL ls = hlinesL (ls.take k) ++ hlinesL (ls.drop k) := by unfold hlinesL; rw [← List.flatMap_append, List.take_append_drop]
  have e : writtenP ty ls b = begP ++ ty ++ (dashP ++ [10]) ++ hlinesL ls ++ (if ls = [] then [] else [10]) ++ lines64 (b64 b) ++ endP ++ ty ++ (dashP ++ [10]) := rfl
  rw [e, h2]
  unfold topP
  simp only [List.length_append]
  omega
theorem topP_snoc (ty : List UInt8) {ls : Hdrs} {k : Nat} {x : List UInt8 × List UInt8} (hx : ls[k]? = some x) : topP ty (ls.take (k + 1)) = topP ty (ls.take k) ++ headLine x.1 x.2 := by
  unfold topP hlinesL
  rw [List.take_add_one, hx, List.flatMap_append]
  simp

set_option maxRecDepth 100000 in
set_option maxHeartbeats 4000000 in
theorem written_any (ty d : List UInt8) (hv : Value) (ls : Hdrs) (q : Option Addr) (bc : Nat) (w : World) (hH : Hd w hv ls) (hS : Sl w (.slice q d.length bc) d) (hnl : ls.length ≤ 4294967295)
    (hd : d.length ≤ 35184372088832) (hl : (writtenP ty ls d).length ≤ 140737488355328) :
    Calls Try.prog 22 #[.agg #[.string (bs ty), hv, .slice q d.length bc]] w fun e w' => e = .returned (.string (bs (writtenP ty ls d))) ∧ Below w.heap.size w w' := by
  obtain ⟨p, cap, rfl, hlc, hc⟩ := hH
  have HC := hide hc
  have hn63 : ls.length ≤ 9223372036854775807 := by omega
  have hcap : ls.length ≤ cap := hlc.1
  have HB := hide (fun W (h : Below w.heap.size w W) => specB64_any _ d W (hS.below h) hd)
  have HLN := hide (fun W => specLines_any (b64 d) W (by rw [b64_length]; omega))
  have HW := hide hl
  have hty : ty.length ≤ 140737488355328 := by have := topP_len ty ls d 0; unfold topP at this; simp at this; omega
  have hL := hide (fun k => topP_len ty ls d k)
  clear hc hlc hS hd hl
  have hb0 : Below w.heap.size w (w.alloc (.cells #[.string (bs ty), .slice p ls.length cap, .slice q d.length bc] 35)) := balloc (Below.refl _ _) _
  have hcb := heap_new w (.cells #[.string (bs ty), .slice p ls.length cap, .slice q d.length bc] 35)
  have HB0 := hide hb0
  have HCB := hide hcb
  clear hb0 hcb
  go_enter Try.func22, Try.ntmps22
  go_wp2_with fail
  go_loopw [3, 13] (fun vo vi wr => ∃ k : Nat, k ≤ ls.length ∧ vi = .int .i64 (k : Int) ∧ vo = .string (bs (topP ty (ls.take k))) ∧ Below (w.heap.size + 1) (w.alloc (.cells #[.string (bs ty), .slice p ls.length cap, .slice q d.length bc] 35)) wr) (fun _ vi _ => ls.length - (intOf vi).toNat)
  case atStart =>
    refine ⟨0, Nat.zero_le _, rfl, ?_, by have h := Below.refl (w.alloc (.cells #[.string (bs ty), .slice p ls.length cap, .slice q d.length bc] 35)).heap.size (w.alloc (.cells #[.string (bs ty), .slice p ls.length cap, .slice q d.length bc] 35)); rw [World.size_alloc] at h; exact h⟩
    unfold topP hlinesL
    simp [begP, dashP]
  case round =>
    obtain ⟨k, hk, rfl, rfl, hb⟩ := hrel
    obtain ⟨wo, hwo⟩ : ∃ wo : World, wo = wr := ⟨_, rfl⟩
    subst hwo
    have hbox : wo.heap[w.heap.size]? = some (.cells #[.string (bs ty), .slice p ls.length cap, .slice q d.length bc] 35 (0, 0)) :=
      (hb.block _ (Nat.lt_succ_self _)).trans (unhide HCB)
    have hbW : Below w.heap.size w wo := (unhide HB0).trans (hb.mono (Nat.le_succ _))
    have hsz : w.heap.size < wo.heap.size := lt_of_heap hbox
    have hLk := unhide hL k
    by_cases hlt : k < ls.length
    · obtain ⟨x, hx⟩ : ∃ x, ls[k]? = some x := ⟨_, List.getElem?_eq_getElem hlt⟩
      obtain ⟨b, o, rfl, hcell⟩ := unhide HC (by rintro rfl; simp at hlt)
      obtain ⟨h1, h2⟩ := hcell k x hx
      have hk1 : wo.cell? ⟨b, o + k * 2, none⟩ = some (.string (bs x.1)) := by rw [hbW.cell (p := ⟨b, o + k * 2, none⟩) (World.block_lt_of_cell? w _ h1)]; exact h1
      have hk2 : wo.cell? ⟨b, o + k * 2 + 1, none⟩ = some (.string (bs x.2)) := by rw [hbW.cell (p := ⟨b, o + k * 2 + 1, none⟩) (World.block_lt_of_cell? w _ h2)]; exact h2
      have HTS := hide (topP_snoc ty hx)
      have hL1 := unhide hL (k + 1)
      have hll : (headLine x.1 x.2).length = x.1.length + (x.2.length + 3) := by unfold headLine; simp
      rw [unhide HTS, List.length_append, hll] at hL1
      have hWl := unhide HW
      have hn1 : x.1.length + x.2.length + (topP ty (ls.take k)).length + 3 ≤ 140737488355328 := by omega
      have HBN := hide (hb.alloc hsz (.cells #[.string (bs x.1), .string (bs x.2)] 49))
      clear hLk hL1 hWl hll h1 h2 hcell hx hbox hbW
      go_wp2_with fail
      refine ⟨⟨k + 1, by omega, by go_num, by rw [unhide HTS]; rfl, unhide HBN⟩, ?_⟩
      simp [intOf]; omega
    · obtain rfl : k = ls.length := by omega
      have c0 : wo.cell? ⟨w.heap.size, 0, none⟩ = some (.string (bs ty)) := by rw [cell_of_heap hbox]; rfl
      have c1 : wo.cell? ⟨w.heap.size, 1, none⟩ = some (.slice p ls.length cap) := by rw [cell_of_heap hbox]; rfl
      have c2 : wo.cell? ⟨w.heap.size, 2, none⟩ = some (.slice q d.length bc) := by rw [cell_of_heap hbox]; rfl
      rw [List.take_length] at hLk ⊢
      have hd1 : Below wo.heap.size wo wo.drew := drewN_below wo 1
      have HB64 := hide (unhide HB wo.drew (bstep hbW hd1))
      clear hd1
      have hWl := unhide HW
      have HBW := hide hbW
      have hl1 : (topP ty ls).length + (lines64 (b64 d)).length + ty.length ≤ 140737488355328 := by omega
      have HTOP : Hid (∀ x : List UInt8, topP ty ls ++ x = begP ++ ty ++ (dashP ++ [10]) ++ hlinesL ls ++ x) := fun x => rfl
      clear hLk hWl hbW hb hbox HW HC HB hL HTOP hcap hnl
      by_cases hls : ls.length = 0
      · have hg : ¬ (0 : Int) < (ls.length : Int) := by omega
        go_wp2_with fail
        go_region_with (first
          | (go_at_call 30; refine (unhide HB64).mono ?_; rintro e w2 ⟨rfl, hb2⟩
             have c20 : w2.cell? ⟨w.heap.size, 0, none⟩ = some (.string (bs ty)) := by rw [hb2.cell (p := ⟨w.heap.size, 0, none⟩) hsz]; exact c0)
          | (go_at_call 14; refine (unhide HLN _).mono ?_; rintro e w3 ⟨rfl, rfl⟩))
        all_goals (
          have HBF : Hid (Below w.heap.size w w2) := bstep (bstep (unhide HBW) (drewN_below wo 1)) hb2
          clear hb2 c20
          go_wp2_with fail
          go_ret
          refine ⟨congrArg (fun l => Ending.returned (.string (bs l))) ?_, unhide HBF⟩
          unfold writtenP
          rw [if_pos (List.length_eq_zero_iff.1 hls)]
          simp [topP, hlinesL, begP, endP, dashP])
      · have hg : (0 : Int) < (ls.length : Int) := by omega
        go_wp2_with fail
        go_region_with (first
          | (go_at_call 30; refine (unhide HB64).mono ?_; rintro e w2 ⟨rfl, hb2⟩
             have c20 : w2.cell? ⟨w.heap.size, 0, none⟩ = some (.string (bs ty)) := by rw [hb2.cell (p := ⟨w.heap.size, 0, none⟩) hsz]; exact c0)
          | (go_at_call 14; refine (unhide HLN _).mono ?_; rintro e w3 ⟨rfl, rfl⟩))
        all_goals (
          have HBF : Hid (Below w.heap.size w w2) := bstep (bstep (unhide HBW) (drewN_below wo 1)) hb2
          clear hb2 c20
          go_wp2_with fail
          go_ret
          refine ⟨congrArg (fun l => Ending.returned (.string (bs l))) ?_, unhide HBF⟩
          unfold writtenP
          rw [if_neg (fun e => hls (by rw [e]; rfl))]
          simp [topP, hlinesL, begP, endP, dashP])
end Go.Proofs.Ytpjehmblndjknaa
