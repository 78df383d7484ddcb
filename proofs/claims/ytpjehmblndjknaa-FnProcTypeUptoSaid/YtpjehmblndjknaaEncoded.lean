/-
  Walk: laws.encoded.
-/
import Derived.Test.YtpjehmblndjknaaProper
import Derived.Deep.RegionWith
namespace Go.Proofs.Ytpjehmblndjknaa
open Go.RowKit Go.Maps
set_option linter.unusedSimpArgs false
set_option linter.unusedVariables false

theorem proper_noColon {ty d : List UInt8} {hs : Hdrs} (h : properB ty hs d = true) : anyColon hs = false := by
  unfold properB hdrsOK at h
  simp only [Bool.and_eq_true, List.all_eq_true] at h
  unfold anyColon
  rw [List.any_eq_false]
  intro p hp hc
  have := (h.2.1 p hp).1
  exact (plain_no this (of_decide_eq_true hc)).2.1 rfl

/-- What encoded gives. -/
def EncdPost (ty : List UInt8) (hs : Hdrs) (d : List UInt8) (w : World) (e : Ending) (w' : World) : Prop :=
  Below w.heap.size w w' ∧ ((properB ty hs d = true ∧ e = .returned (.tuple #[.string (bs (pemOut ty hs d)), .bool true])) ∨ (properB ty hs d = false ∧ ∃ s, e = .returned (.tuple #[.string (bs s), .bool false])))

set_option maxRecDepth 100000 in
set_option maxHeartbeats 2000000 in
theorem encoded_any (ty d : List UInt8) (hv : Value) (q : Option Addr) (bc : Nat) (hs : Hdrs) (w : World) (hH : Hd w hv hs) (hS : Sl w (.slice q d.length bc) d) (hbc : bc ≤ 9223372036854775807)
   (hkl : ∀ p ∈ hs, p.1.length ≤ 4294967295 ∧ p.2.length ≤ 4294967295) (hnl : hs.length ≤ 4294967295) (hty : ty.length ≤ 4294967295) (hsz : anyColon hs = false → (pemOut ty hs d).length + 8 * d.length ≤ 17592186044416) :
    Calls Try.prog 19 #[.agg #[.string (bs ty), hv, .slice q d.length bc]] w (EncdPost ty hs d w) := by
  have hdl : d.length ≤ 9223372036854775807 := by obtain ⟨_, _, e1, e2, _⟩ := hS; injection e1 with _ _ e3; omega
  have hb0 : Below w.heap.size w (w.alloc (.cells #[.string (bs ty), hv, .slice q d.length bc] 31)) := balloc (Below.refl _ _) _
  have hmem := mem_any ty d hv _ hs _ (hH.below hb0) (hS.below hb0) (fun p n c h => by injection h with _ _ h3; omega) (fun p hp => ⟨Nat.le_trans (hkl p hp).1 (by decide), Nat.le_trans (hkl p hp).2 (by decide)⟩) (by omega) hsz
  rw [World.size_alloc] at hmem
  have HM := hide hmem
  have HH := hide hH
  have HK := hide hkl
  obtain ⟨p, cap, rfl, _⟩ := hH
  clear hmem hS hb0 hkl hsz
  go_enter Try.func19, Try.ntmps19
  go_wp2_with fail
  refine (unhide HM).mono ?_
  rintro e w1 ⟨hb1, hcase⟩
  have HB1 : Hid (Below w.heap.size w w1) := (balloc (Below.refl _ _) _).trans (hb1.mono (by omega))
  have hblk : w1.heap[w.heap.size]? = some (.cells #[.string (bs ty), .slice p hs.length cap, .slice q d.length bc] 31 (0, 0)) := by
    rw [hb1.block _ (by omega)]; exact heap_new w _
  rcases hcase with ⟨hac, rfl⟩ | ⟨hac, v', rfl, hsl⟩
  · have hcv : ∀ W, (convert 22 9 (.slice none 0 0)).run Try.prog W = .ok (.string (bs [])) W := fun W => conv_sl2 (Sl.nil W) W (Below.refl _ _)
    have HF : Hid (properB ty hs d = false) := by
      cases h : properB ty hs d with
      | false => rfl
      | true => rw [proper_noColon h] at hac; cases hac
    clear hb1 HM hblk hac
    go_wp2_with fail
    go_quiet (fail)
    go_wp2
    go_ret2
    exact ⟨below_drewN (unhide HB1) _, .inr ⟨unhide HF, [], rfl⟩⟩
  · have c10 : w1.cell? ⟨w.heap.size, 0, none⟩ = some (.string (bs ty)) := by rw [cell_of_heap hblk]; rfl
    have c11 : w1.cell? ⟨w.heap.size, 1, none⟩ = some (.slice p hs.length cap) := by rw [cell_of_heap hblk]; rfl
    have c12 : w1.cell? ⟨w.heap.size, 2, none⟩ = some (.slice q d.length bc) := by rw [cell_of_heap hblk]; rfl
    obtain ⟨pv, cv, rfl, hvl, hvc⟩ := hsl
    have hsl : Sl w1 (.slice pv (pemOut ty hs d).length cv) (pemOut ty hs d) := ⟨pv, cv, rfl, hvl, hvc⟩
    have hk1 := conv_sl2 hsl
    have hd1 : Below w1.heap.size w1 w1.drew := drewN_below w1 1
    have hk0 := hk1 w1.drew hd1
    have hblkc := hide (block_any ty _ hs q d.length bc w1.drew (((unhide HH).below (unhide HB1)).below hd1) hnl)
    have HSL := hide hk1
    have HD1 := hide hd1
    have HAC := hide hac
    clear hb1 HM hblk hac hsl hvc hk1 hd1
    go_wp2_with fail
    go_region_with (first
      | (go_at_call 16; refine (unhide hblkc).mono ?_; rintro e w2 ⟨hv2, rfl, hH2, hb2⟩
         have hk2 := unhide HSL w2 (bstep (unhide HD1) hb2)
         have hprop := hide (proper_any ty d hv2 hs q bc w2 hH2 hnl hty hdl (unhide HK)))
      | (go_at_call 17; refine (unhide hprop).mono ?_; rintro e w3 ⟨rfl, hb3⟩
         have hk3 := unhide HSL w3 (bstep (bstep (unhide HD1) hb2) hb3)))
    all_goals (
      have HBF : Hid (Below w.heap.size w w3) := bstep (bstep (bstep (unhide HB1) (unhide HD1)) hb2) hb3
      clear hb2 hb3 hk0 hk2 hk3 hprop hblkc
      go_wp2_with fail
      go_ret2
      refine ⟨unhide HBF, ?_⟩
      cases hpr : properB ty hs d with
      | true => exact .inl ⟨rfl, rfl⟩
      | false => exact .inr ⟨rfl, _, rfl⟩)
end Go.Proofs.Ytpjehmblndjknaa
