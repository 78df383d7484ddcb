/-
  Walk: pem.Encode where a key has a colon: an error, and nothing is written.
-/
import Derived.Test.YtpjehmblndjknaaDoorMap
import Derived.Test.YtpjehmblndjknaaDoorColon
import Derived.Handy
import Derived.Outline
namespace Go.Proofs.YtpjehmblndjknaaDoor
open Go.RowKit Go.Maps
set_option linter.unusedSimpArgs false
set_option linter.unusedVariables false

set_option maxRecDepth 100000 in
set_option maxHeartbeats 400000 in
theorem errNew_any (s : ByteArray) (w : World) :
    Calls Tryd.prog 50 #[.string s] w fun e w' => e = .returned (.iface 124 (.pointer (some ⟨w.heap.size, 0, none⟩))) ∧ Below w.heap.size w w' := by
  go_enter Tryd.func50, Tryd.ntmps50
  go_wp2
  go_ret
  exact ⟨rfl, balloc (Below.refl _ _) _⟩

/-- What pem.Encode leaves where a key has a colon. -/
def ColonErr (w : World) (e : Ending) (w' : World) : Prop := ∃ b : Nat, e = .returned (.iface 124 (.pointer (some ⟨b, 0, none⟩))) ∧ Below w.heap.size w w'

/-- Nothing has been met but keys without a colon. -/
def NoCol (ss : List (List UInt8)) : Prop := ∀ x ∈ ss, hasColon x = false
theorem NoCol.snoc {ss : List (List UInt8)} (h : NoCol ss) {x : List UInt8} (hx : hasColon x = false) : NoCol (ss ++ [x]) := fun y hy => by
  rcases List.mem_append.1 hy with h1 | h1
  · exact h y h1
  · rw [List.mem_singleton.1 h1]; exact hx

set_option maxRecDepth 100000 in
set_option maxHeartbeats 1600000 in
theorem encode_colon (T : TypeId) (v : Value) (pb mb : Nat) (ty : List UInt8) (bv : Value) (hs : Hdrs) (w : World) (hP : PB w pb ty mb bv) (hM : HM w mb hs) (hkl : ∀ p ∈ hs, p.1.length ≤ 140737488355328) (hc : ∃ k ∈ hkeys hs, hasColon k = true) :
    Calls Tryd.prog 29 #[.iface T v, .pointer (some ⟨pb, 0, none⟩)] w (ColonErr w) := by
  obtain ⟨n, D, hn, hown, hD⟩ := hM
  have c1 := hP.c1
  have HC := hide hc
  have HD := hide hD
  have HKL := hide hkl
  clear hc hD hn hP hkl
  go_enter Tryd.func29, Tryd.ntmps29
  go_wp2_with (first
    | (at_range; refine wpList_range_own _ rfl _ 45 rfl 9 9 lawS Tryd.underlying45 _ mb n D rfl hown ?_; intro w0 hrg0 hg0 hs0)
    | fail)
  go_frame
  have hb0 : Below w.heap.size w w0 := (Below.refl _ _).grown hg0 (Nat.le_refl _) (fun j hj => by cases hj)
  clear hs0 hg0
  go_loopw [5] (fun _ wr => ∃ (left : Lit → Bool) (cnt : Nat) (ss : List (List UInt8)), wr.ranges Tryd.prog 9 (plainElem Tryd.prog 9) mb w.heap.size n D left cnt ∧ Hid (Collected D left ss ∧ NoCol ss) ∧ Below w.heap.size w wr) (fun _ wr => wr.rangeLeft mb w.heap.size)
  case atStart => exact ⟨_, _, [], hrg0, ⟨Collected.start D, fun x hx => by cases hx⟩, hb0⟩
  case round =>
    clear hrg0 hb0
    obtain ⟨left, cnt, ss, hrg, HCo, hb⟩ := hrel
    go_wp2_with (first
      | (at_next; refine wpList_next_ranges _ rfl _ rfl 9 lawS (plainElem Tryd.prog 9) Go.Proofs.encStr Value.string invK invV mb w.heap.size n _ _ _ rfl hrg ?_ ?_)
      | fail)
    · intro hc0 hl0
      exfalso
      obtain ⟨k, hk, hkc⟩ := unhide HC
      obtain ⟨hCo, hN⟩ := unhide HCo
      have hp := collected_keys (unhide HD) hCo hl0
      rw [hN k (hp.mem_iff.2 hk)] at hkc
      cases hkc
    · intro x c kl yd yp w2 cnt2 hkey hlk hv hat hrg2 hlt hg2 hs2 hen
      obtain ⟨x', ex, rfl, hxl⟩ := Maps.keyOf_str Tryd.underlying9 hkey
      obtain rfl : x = x' := encStr_inj ex
      have hb2 : Below w.heap.size w w2 := hb.grown hg2 hb.size (fun j hj => by cases hj; exact Nat.le_refl _)
      obtain ⟨vx, hvx, hyd⟩ := collected_at (unhide HD) hat
      have hxs : x.length ≤ 140737488355328 := unhide HKL _ (hget_mem hvx)
      have hcol := hide (zzContains_colon x w2 (by omega))
      have hle := hb2.size
      have HL := hide (And.intro hrg.left_eq hrg2.left_eq)
      have HLT := hide hlt
      obtain ⟨hCo, hN⟩ := unhide HCo
      have HCS := hide (hCo.step hlk hat)
      have HNN := hide hN
      rw [encStr_bs] at hen
      clear hs2 hg2 hkey hlk hv hat hrg hxl hb HCo hCo hN ex hlt hvx hyd
      go_wp2_with fail
      cases hq : hasColon x with
      | true =>
        rw [hq] at hcol
        refine (unhide hcol).mono ?_
        rintro e w' ⟨rfl, rfl⟩
        clear HCS HNN HL HLT hrg2 hen hq hcol
        go_wp2_with fail
        refine (errNew_any _ _).mono ?_
        rintro e w3 ⟨rfl, hb3⟩
        have HB := hide (bstep hb2 hb3)
        clear hb2 hb3
        go_wp2
        go_ret
        exact ⟨_, rfl, unhide HB⟩
      | false =>
        have HN2 := hide ((unhide HNN).snoc hq)
        rw [hq] at hcol
        refine (unhide hcol).mono ?_
        rintro e w' ⟨rfl, rfl⟩
        clear hen hq hcol
        go_wp2
        refine ⟨⟨_, cnt2, ss ++ [x], hrg2, ⟨unhide HCS, unhide HN2⟩, hb2⟩, ?_⟩
        rw [(unhide HL).1, (unhide HL).2]
        exact unhide HLT
end Go.Proofs.YtpjehmblndjknaaDoor
