/-
  Walk: impl.Encode where a key has a colon.
-/
import Derived.Test.YtpjehmblndjknaaMem
import Derived.Test.YtpjehmblndjknaaIs
namespace Go.Proofs.Ytpjehmblndjknaa
open Go.RowKit Go.Maps
set_option linter.unusedSimpArgs false
set_option linter.unusedVariables false

theorem anyColon_ex {hs : Hdrs} (hc : anyColon hs = true) : ∃ k ∈ hkeys hs, hasColon k = true := by
  rcases Classical.em (∃ k ∈ hkeys hs, hasColon k = true) with h | h
  · exact h
  · have : anyColon hs = false := (noColon_iff hs).2 (fun k hk => by
      cases hq : hasColon k with
      | false => rfl
      | true => exact absurd ⟨k, hk, hq⟩ h)
    rw [this] at hc; cases hc

set_option maxRecDepth 100000 in
set_option maxHeartbeats 1600000 in
theorem encImpl_colon (ty : List UInt8) (hv : Value) (q : Option Addr) (bl bc : Nat) (hs : Hdrs) (lim : Int) (w : World) (hH : Hd w hv hs)
   (hkl : ∀ p ∈ hs, p.1.length ≤ 140737488355328 ∧ p.2.length ≤ 140737488355328) (hnl : hs.length ≤ 4294967296) (hc : anyColon hs = true) :
    Calls Try.prog 25 #[.agg #[.string (bs ty), hv, .slice q bl bc], .int .i64 lim] w fun e w' => e = .returned (.tuple #[.slice none 0 0, .int .i64 2]) ∧ Below w.heap.size w w' := by
  have hb0 : Below w.heap.size w ((w.alloc (.cells #[.string (bs ty), hv, .slice q bl bc] 31)).alloc (.cells #[.slice none 0 0, .int .i64 lim, .bool false] 64)) := balloc (balloc (Below.refl _ _) _) _
  have hof := of_any ty hv hs q bl bc _ (hH.below hb0) hnl hkl
  rw [World.size_alloc, World.size_alloc] at hof
  obtain ⟨p0, cap0, rfl, _⟩ := hH
  have HOF := hide hof
  have HC := hide (anyColon_ex hc)
  have HK := hide hkl
  clear hb0 hof hkl hnl hc
  go_enter Try.func25, Try.ntmps25
  go_wp2_with fail
  refine (unhide HOF).mono ?_
  rintro e w1 ⟨rfl, hP, hM, hb1⟩
  have hcw : w1.heap[w.heap.size + 1]? = some (.cells #[.slice none 0 0, .int .i64 lim, .bool false] 64 (0, 0)) := by
    rw [hb1.block _ (by omega)]
    have h := heap_new (w.alloc (.cells #[.string (bs ty), .slice p0 hs.length cap0, .slice q bl bc] 31)) (.cells #[.slice none 0 0, .int .i64 lim, .bool false] 64)
    rw [World.size_alloc] at h
    exact h
  have hcall := hide (encode_colon 62 (.pointer (some ⟨w.heap.size + 1, 0, none⟩)) _ _ ty _ hs w1 hP hM (fun p hp => (unhide HK p hp).1) (unhide HC))
  have HB1 : Hid (Below w.heap.size w w1) := (balloc (balloc (Below.refl _ _) _) _).trans (hb1.mono (by omega))
  have HCW := hide hcw
  clear hP hM hb1 HOF hcw
  go_wp2_with fail
  refine (unhide hcall).mono ?_
  rintro e w2 ⟨b, rfl, hb2⟩
  have hc2 : w2.cell? ⟨w.heap.size + 1, 0, none⟩ = some (.slice none 0 0) := by
    have h := (hb2.block _ (lt_of_heap (unhide HCW))).trans (unhide HCW)
    rw [cell_of_heap h]; rfl
  have HB2 : Hid (Below w.heap.size w w2) := bstep (unhide HB1) hb2
  have his := hide (is_else ⟨b, 0, none⟩ w2)
  clear hb2 hcall HB1 HCW
  go_wp2_with fail
  refine (unhide his).mono ?_
  rintro e w3 ⟨rfl, rfl⟩
  clear his
  go_wp2_with fail
  all_goals (try (go_quiet (fail)))
  all_goals (try go_wp2)
  go_ret2
  exact ⟨rfl, unhide HB2⟩
end Go.Proofs.Ytpjehmblndjknaa
