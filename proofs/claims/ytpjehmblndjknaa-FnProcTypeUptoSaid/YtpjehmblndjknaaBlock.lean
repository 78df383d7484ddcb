/-
  Walk: laws.block: a block of the reference out of one of the thin package.
-/
import Derived.Test.YtpjehmblndjknaaWorks
import Derived.Test.YtpjehmblndjknaaHcell
namespace Go.Proofs.Ytpjehmblndjknaa
open Go.RowKit Go.Maps
set_option linter.unusedSimpArgs false
set_option linter.unusedVariables false

set_option maxRecDepth 100000 in
set_option maxHeartbeats 1600000 in
theorem block_any (ty : List UInt8) (hv : Value) (hs : Hdrs) (q : Option Addr) (bl bc : Nat) (w : World) (hH : Hd w hv hs) (hnl : hs.length ≤ 4294967295) :
    Calls Try.prog 16 #[.agg #[.string (bs ty), hv, .slice q bl bc]] w fun e w' => ∃ hv', e = .returned (.agg #[.string (bs ty), hv', .slice q bl bc]) ∧ Hd w' hv' hs ∧ Below w.heap.size w w' := by
  obtain ⟨p, cap, rfl, hlc, hc⟩ := hH
  have HC := hide hc
  have hn63 : hs.length ≤ 9223372036854775807 := by omega
  have HNL := hide hnl
  clear hc hlc hnl
  go_enter Try.func16, Try.ntmps16
  go_wp2_with fail
  go_loopw [14] (fun vi wr => ∃ (k : Nat) (vk : Value), k ≤ hs.length ∧ vi = .int .i64 (k : Int) ∧ wr.heap[w.heap.size + 2]? = some (.cells #[.string (bs ty), vk, .slice q bl bc] 35 (0, 0)) ∧
     (∃ c1 : Array Value, wr.heap[w.heap.size + 1]? = some (.cells c1 35 (0, 0)) ∧ c1.size = 3) ∧ wr.ownsRow (w.heap.size + 3) 49 2 vk k (hcells (hs.take k)) ∧ Below w.heap.size w wr) (fun vi _ => hs.length - (intOf vi).toNat)
  case atStart =>
    have h2 := heap_new ((w.alloc (.cells #[.string (bs ty), .slice p hs.length cap, .slice q bl bc] 31)).alloc (.cells #[.string ⟨#[]⟩, .slice none 0 0, .slice none 0 0] 35)) (.cells #[.string (bs ty), .slice none 0 0, .slice q bl bc] 35)
    have h1 := heap_new (w.alloc (.cells #[.string (bs ty), .slice p hs.length cap, .slice q bl bc] 31)) (.cells #[.string ⟨#[]⟩, .slice none 0 0, .slice none 0 0] 35)
    rw [World.size_alloc] at h1 h2
    rw [World.size_alloc] at h2
    exact ⟨0, .slice none 0 0, Nat.zero_le _, rfl, h2, ⟨_, (Below.heap_alloc _ _ _ (by rw [World.size_alloc, World.size_alloc]; omega)).trans h1, rfl⟩, World.ownsRow_nil _ _ _ _, balloc (balloc (balloc (Below.refl _ _) _) _) _⟩
  case round =>
    obtain ⟨k, vk, hk, rfl, hout, hres, hown, hb⟩ := hrel
    have hsz : w.heap.size + 2 < wr.heap.size := lt_of_heap hout
    obtain ⟨pk, ck, rfl, _⟩ := Hd.of_owns hown
    have e0 : (hs.take k).length = k := by rw [List.length_take]; omega
    rw [e0] at hout hown
    by_cases hlt : k < hs.length
    · obtain ⟨x, hx⟩ : ∃ x, hs[k]? = some x := ⟨_, List.getElem?_eq_getElem hlt⟩
      obtain ⟨b, o, rfl, hcell⟩ := unhide HC (by rintro rfl; simp at hlt)
      obtain ⟨h1, h2⟩ := hcell k x hx
      have hk1 : wr.cell? ⟨b, o + k * 2, none⟩ = some (.string (bs x.1)) := by rw [hb.cell (p := ⟨b, _, none⟩) (World.block_lt_of_cell? w _ h1)]; exact h1
      have hk2 : wr.cell? ⟨b, o + k * 2 + 1, none⟩ = some (.string (bs x.2)) := by rw [hb.cell (p := ⟨b, _, none⟩) (World.block_lt_of_cell? w _ h2)]; exact h2
      have c1 : wr.cell? ⟨w.heap.size + 1 + 1, 1, none⟩ = some (.slice pk k ck) := by rw [cell_of_heap hout]; rfl
      obtain ⟨v2, w2, hr2, hown2, hg2⟩ := append_hd1 33 49 Try.underlying33 infoG 33 x.1 x.2 (hown.alloc (.cells #[.string (bs x.1), .string (bs x.2)] 46)) (by have := unhide HNL; omega) (by rw [World.size_alloc]; omega) 49
      rw [World.size_alloc] at hr2
      have hlt2 := (hown.alloc (.cells #[.string (bs x.1), .string (bs x.2)] 46)).lt
      have htk : hs.take k ++ [(x.1, x.2)] = hs.take (k + 1) := by rw [List.take_add_one, hx]; rfl
      rw [htk] at hown2
      have hkeep : ∀ (j : Nat) o, j < w.heap.size + 3 → wr.heap[j]? = some o → w2.heap[j]? = some o := by
        intro j o hj ho
        refine (hg2.block j (by rw [World.size_alloc, World.size_alloc]; omega) (fun e => ?_)).trans ((Below.heap_alloc _ _ _ (by rw [World.size_alloc]; omega)).trans ((Below.heap_alloc _ _ _ (by omega)).trans ho))
        have := (hlt2 _ e.symm).1
        omega
      have hout2 := hkeep _ _ (by omega) hout
      have hb2 : Below w.heap.size w w2 := (balloc (balloc hb _) _).grown hg2 (by rw [World.size_alloc, World.size_alloc]; omega) (fun j hj => by have := (hlt2 _ hj).1; omega)
      obtain ⟨cr, hcr, hcr3⟩ := hres
      have hres2 := hkeep _ _ (by omega) hcr
      obtain ⟨p2, c2, rfl, _⟩ := Hd.of_owns hown2
      have e1 : (hs.take (k + 1)).length = k + 1 := by rw [List.length_take]; omega
      rw [e1] at hr2 hown2
      have c21 : w2.cell? ⟨w.heap.size + 1 + 1, 1, none⟩ = some (.slice pk k ck) := by rw [cell_of_heap hout2]; rfl
      have f21 : w2.frozen? ⟨w.heap.size + 1 + 1, 1, none⟩ = false := frozen_of_heap hout2 _
      have hout3 := heap_set_same hout2 (i := 1) (.slice p2 (k + 1) c2)
      have hres3 : (w2.setCell ⟨w.heap.size + 1 + 1, 1, none⟩ (.slice p2 (k + 1) c2)).heap[w.heap.size + 1]? = _ := (Below.heap_setCell _ _ _ _ (fun e => by have e2 : w.heap.size + 1 = w.heap.size + 1 + 1 := e; omega)).trans hres2
      have hown3 := ownsRow_setCell hown2 (show w.heap.size + 1 + 1 < w.heap.size + 3 by omega) 1 (.slice p2 (k + 1) c2)
      have hb3 : Below w.heap.size w (w2.setCell ⟨w.heap.size + 1 + 1, 1, none⟩ (.slice p2 (k + 1) c2)) := hb2.setCell (Nat.le_trans (Nat.le_succ _) (Nat.le_succ _)) _
      have HN := hide (And.intro hout3 (And.intro hres3 (And.intro hown3 hb3)))
      clear h1 h2 hcell hx hkeep hout2 hb2 hcr hres2 hown2 hlt2 htk hg2 hout3 hres3 hown3 hb3 hout hown hb e0 e1
      go_wp2_with (first
        | (at_builtin; refine Lib.wpList_append_run_sl _ rfl _ _ 33 rfl _ _ rfl rfl hr2 ?_)
        | fail)
      obtain ⟨g1, g2, g3, g4⟩ := unhide HN
      refine ⟨⟨k + 1, _, by omega, by go_num, g1, ⟨cr, g2, hcr3⟩, g3, g4⟩, ?_⟩
      simp [intOf]; omega
    · have hke : k = hs.length := by omega
      rw [hke, List.take_length] at hown
      rw [hke] at hout
      obtain ⟨cr, hcr, hcr3⟩ := hres
      have co0 : wr.cell? ⟨w.heap.size + 1 + 1, 0, none⟩ = some (.string (bs ty)) := by rw [cell_of_heap hout]; rfl
      have co1 : wr.cell? ⟨w.heap.size + 1 + 1, 1, none⟩ = some (.slice pk hs.length ck) := by rw [cell_of_heap hout]; rfl
      have co2 : wr.cell? ⟨w.heap.size + 1 + 1, 2, none⟩ = some (.slice q bl bc) := by rw [cell_of_heap hout]; rfl
      have cr0 : wr.cell? ⟨w.heap.size + 1, 0, none⟩ = some (cr[0]'(by omega)) := by rw [cell_of_heap hcr]; exact Array.getElem?_eq_getElem _
      have cr1 : wr.cell? ⟨w.heap.size + 1, 1, none⟩ = some (cr[1]'(by omega)) := by rw [cell_of_heap hcr]; exact Array.getElem?_eq_getElem _
      have cr2 : wr.cell? ⟨w.heap.size + 1, 2, none⟩ = some (cr[2]'(by omega)) := by rw [cell_of_heap hcr]; exact Array.getElem?_eq_getElem _
      have fr : ∀ j, wr.frozen? ⟨w.heap.size + 1, j, none⟩ = false := fun j => frozen_of_heap hcr j
      have hlt' : ¬ ((k : Int) < (hs.length : Int)) := by omega
      have HN := hide (And.intro hown (And.intro hb hcr))
      clear hout hown hb hcr hlt hke e0
      go_wp2
      obtain ⟨hown, hb, hcr⟩ := unhide HN
      have s1 := heap_set_same hcr (i := 0) (.string (bs ty))
      have s2 := heap_set_same s1 (i := 1) (.slice pk hs.length ck)
      have s3 := heap_set_same s2 (i := 2) (.slice q bl bc)
      have hown3 := ownsRow_setCell (ownsRow_setCell (ownsRow_setCell hown (show w.heap.size + 1 < w.heap.size + 3 by omega) 0 (.string (bs ty))) (show w.heap.size + 1 < w.heap.size + 3 by omega) 1 (.slice pk hs.length ck)) (show w.heap.size + 1 < w.heap.size + 3 by omega) 2 (.slice q bl bc)
      have hb3 : Below w.heap.size w (((wr.setCell ⟨w.heap.size + 1, 0, none⟩ (.string (bs ty))).setCell ⟨w.heap.size + 1, 1, none⟩ (.slice pk hs.length ck)).setCell ⟨w.heap.size + 1, 2, none⟩ (.slice q bl bc)) :=
        ((hb.setCell (Nat.le_succ _) _).setCell (Nat.le_succ _) _).setCell (Nat.le_succ _) _
      generalize ((wr.setCell ⟨w.heap.size + 1, 0, none⟩ (.string (bs ty))).setCell ⟨w.heap.size + 1, 1, none⟩ (.slice pk hs.length ck)).setCell ⟨w.heap.size + 1, 2, none⟩ (.slice q bl bc) = W3 at s3 hown3 hb3 ⊢
      have d0 : W3.cell? ⟨w.heap.size + 1, 0, none⟩ = some (.string (bs ty)) := by rw [cell_of_heap s3]; simp [hcr3]
      have d1 : W3.cell? ⟨w.heap.size + 1, 1, none⟩ = some (.slice pk hs.length ck) := by rw [cell_of_heap s3]; simp [hcr3]
      have d2 : W3.cell? ⟨w.heap.size + 1, 2, none⟩ = some (.slice q bl bc) := by rw [cell_of_heap s3]; simp [hcr3]
      refine bodyPost_ret (v := .agg #[.string (bs ty), .slice pk hs.length ck, .slice q bl bc]) ?_ rfl ⟨_, rfl, Hd.of_owns hown3, hb3⟩
      simp [results, Try.results16, go_sem, d0, d1, d2]
end Go.Proofs.Ytpjehmblndjknaa
