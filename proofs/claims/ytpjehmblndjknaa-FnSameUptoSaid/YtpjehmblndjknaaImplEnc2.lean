/-
  Walk: impl.Encode where no key has a colon: all is written, or the writer's bound is met.
-/
import Derived.Test.YtpjehmblndjknaaImplWr
import Derived.Test.YtpjehmblndjknaaImplEnc
namespace Go.Proofs.Ytpjehmblndjknaa
open Go.RowKit Go.Maps
set_option linter.unusedSimpArgs false
set_option linter.unusedVariables false

theorem IW.sl {w : World} {B b : Nat} {lim : Int} {acc : List UInt8} {f : Bool} (h : IW w B b lim acc f) : ∃ v, w.cell? ⟨b, 0, none⟩ = some v ∧ Sl w v acc := by
  obtain ⟨_, v, hb, hown, _⟩ := h
  refine ⟨v, by rw [cell_of_heap hb]; rfl, ?_⟩
  have hs := Sl.of_owns hown
  exact hs

set_option maxRecDepth 100000 in
set_option maxHeartbeats 1600000 in
theorem encImpl_main (ty d : List UInt8) (hv : Value) (q : Option Addr) (bc : Nat) (hs : Hdrs) (lim : Int) (w : World) (hH : Hd w hv hs) (hS : Sl w (.slice q d.length bc) d) (hbc : bc ≤ 9223372036854775807)
   (hkl : ∀ p ∈ hs, p.1.length ≤ 140737488355328 ∧ p.2.length ≤ 140737488355328) (hnl : hs.length ≤ 4294967296) (hc : anyColon hs = false) (hsz : (pemOut ty hs d).length + 8 * d.length ≤ 17592186044416)
   (h1 : lim ≤ 9223372036854775807) (h2 : -9223372036854775808 ≤ lim) :
    Calls Try.prog 25 #[.agg #[.string (bs ty), hv, .slice q d.length bc], .int .i64 lim] w fun e w' => Below w.heap.size w w' ∧
      ((Fits (limOf lim) (pemOut ty hs d).length ∧ ∃ v', e = .returned (.tuple #[v', .int .i64 0]) ∧ Sl w' v' (pemOut ty hs d)) ∨
       (¬ Fits (limOf lim) (pemOut ty hs d).length ∧ ∃ v', e = .returned (.tuple #[v', .int .i64 1]) ∧ Sl w' v' (cut (limOf lim) (pemOut ty hs d)))) := by
  have hb0 : Below w.heap.size w ((w.alloc (.cells #[.string (bs ty), hv, .slice q d.length bc] 31)).alloc (.cells #[.slice none 0 0, .int .i64 lim, .bool false] 64)) := balloc (balloc (Below.refl _ _) _) _
  have hof := of_any ty hv hs q d.length bc _ (hH.below hb0) hnl hkl
  rw [World.size_alloc, World.size_alloc] at hof
  obtain ⟨p0, cap0, rfl, _⟩ := hH
  have hx : ∃ sb so, (d ≠ [] → q = some ⟨sb, so, none⟩) ∧ Src w sb so d ∧ (sb < w.heap.size ∨ d = []) ∧ sb < w.heap.size + 1 ∧ d.length ≤ bc := by
    obtain ⟨q', cap, e1, e2, e3⟩ := hS
    injection e1 with e4 e5 e6
    subst e4; subst e6
    by_cases h0 : d = []
    · exact ⟨0, 0, fun h => absurd h0 h, by rw [h0]; exact Src.nil _ _ _, .inr h0, Nat.succ_pos _, e2⟩
    · obtain ⟨sb, so, rfl, hcell⟩ := e3 h0
      obtain ⟨x, hx0⟩ : ∃ x, d[0]? = some x := ⟨_, List.getElem?_eq_getElem (List.length_pos_iff.2 h0)⟩
      exact ⟨sb, so, fun _ => rfl, hcell, .inl (World.block_lt_of_cell? w _ (hcell 0 x hx0)), Nat.lt_succ_of_lt (World.block_lt_of_cell? w _ (hcell 0 x hx0)), e2⟩
  have HOF := hide hof
  have HX := hide hx
  have HK := hide hkl
  have HC := hide hc
  have HSZ := hide hsz
  have HNL := hide hnl
  clear hb0 hof hkl hnl hc hx hsz hS
  go_enter Try.func25, Try.ntmps25
  go_wp2_with fail
  refine (unhide HOF).mono ?_
  rintro e w1 ⟨rfl, hP, hM, hb1⟩
  have hcw : w1.heap[w.heap.size + 1]? = some (.cells #[.slice none 0 0, .int .i64 lim, .bool false] 64 (0, 0)) := by
    rw [hb1.block _ (by omega)]
    have h := heap_new (w.alloc (.cells #[.string (bs ty), .slice p0 hs.length cap0, .slice q d.length bc] 31)) (.cells #[.slice none 0 0, .int .i64 lim, .bool false] 64)
    rw [World.size_alloc] at h
    exact h
  have hz1 : w.heap.size + 1 < w1.heap.size := lt_of_heap hcw
  have hB1 : Below w.heap.size w w1 := (balloc (balloc (Below.refl _ _) _) _).trans (hb1.mono (by omega))
  have hI : (implWr (w.heap.size + 1) (w.heap.size + 1) lim).Inv [] w1 :=
    ⟨⟨by omega, _, hcw, World.ownsRow_nil _ _ _ _, by simp [Value.ownBlock]⟩, fun m _ => Nat.zero_le _, by omega⟩
  have hwpos : 0 < w.heap.size ∨ w.heap.size = 0 := by omega
  obtain ⟨sb, so, x1, x2, x3, x5, x4⟩ := unhide HX
  have hcall := hide (encode_main sortOK (implWr (w.heap.size + 1) (w.heap.size + 1) lim) (implWrOK _ _ lim (by omega) h1 h2) (iw_ahead _) _ _ sb so bc q ty [] d hs w1 hI hP hM (by show w.heap.size + 2 + 2 ≠ w.heap.size + 1; omega) (by show w.heap.size + 2 + 1 ≠ w.heap.size + 1; omega) x1
    (fun i x hx => by
      rcases x3 with h | h
      · exact (x2.below hB1 h) i x hx
      · rw [h] at hx; cases hx) x5 x4 hbc (fun p hp => (unhide HK p hp).1) (unhide HNL) ((noColon_iff hs).1 (unhide HC)) (by have := unhide HSZ; simp; omega))
  have HB1 := hide hB1
  clear hP hM hb1 HOF hcw hI hB1 x1 x2 x3 x4 x5
  go_wp2_with fail
  refine (unhide hcall).mono ?_
  rintro e w2 ⟨ev, rfl, hF, hcase⟩
  rw [List.nil_append] at hcase
  have HB2 : Hid (Below w.heap.size w w2) := (unhide HB1).trans (hF.1.mono (Nat.le_succ _))
  rcases hcase with ⟨hfit, rfl, hI2⟩ | ⟨hfit, hev, hI2⟩
  · obtain ⟨v2, c20, hsl⟩ := hI2.1.sl
    have HFIT : Hid (Fits (limOf lim) (pemOut ty hs d).length) := hfit
    have HSL := hide hsl
    have c20 : w2.cell? ⟨w.heap.size + 1, 0, none⟩ = some v2 := c20
    obtain ⟨p2, cap2, rfl, _⟩ := hsl
    clear hF hcall hI2 hfit
    go_wp2_with fail
    go_ret2
    exact ⟨unhide HB2, .inl ⟨unhide HFIT, _, rfl, unhide HSL⟩⟩
  · have hev2 : ev = .iface 70 (.agg #[]) := hev
    clear hev
    subst hev2
    obtain ⟨v2, c20, hsl⟩ := IW.sl hI2
    have HFIT : Hid (¬ Fits (limOf lim) (pemOut ty hs d).length) := hfit
    have HSL := hide hsl
    have c20 : w2.cell? ⟨w.heap.size + 1, 0, none⟩ = some v2 := c20
    obtain ⟨p2, cap2, rfl, _⟩ := hsl
    have his := hide (is_own w2)
    clear hF hcall hI2 hfit
    go_wp2_with fail
    refine (unhide his).mono ?_
    rintro e w3 ⟨rfl, rfl⟩
    clear his
    go_wp2_with fail
    go_ret2
    exact ⟨unhide HB2, .inr ⟨unhide HFIT, _, rfl, unhide HSL⟩⟩
end Go.Proofs.Ytpjehmblndjknaa
