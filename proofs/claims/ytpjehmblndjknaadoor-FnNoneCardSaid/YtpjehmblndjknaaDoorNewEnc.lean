/-
  Walk: base64.NewEncoding over the standard alphabet: the encoding's cells.
-/
import Derived.Test.YtpjehmblndjknaaDoorStr
import Derived.Test.YtpjehmblndjknaaDoorB64
import Derived.Lib.BufferWrite
import Derived.Lib.SlBuf
import Derived.Handy
import Derived.Deep.WholeRow
import Derived.Laws.Tables
namespace Go.Proofs.YtpjehmblndjknaaDoor
open Go.RowKit
set_option linter.unusedSimpArgs false
set_option linter.unusedVariables false

/-- The decoding table when the first k characters are entered. -/
def dmk : Nat → Nat → Nat
  | 0, _ => 255
  | k + 1, c => if c = (aq k).toNat then k else dmk k c
theorem dmk_fresh : ∀ k, k < 64 → dmk k (aq k).toNat = 255 := by decide +kernel
theorem dmk_le (c : Nat) : ∀ k, k ≤ 64 → dmk k c ≤ 255
  | 0, _ => Nat.le_refl _
  | k + 1, h => by
    unfold dmk
    split
    · omega
    · exact dmk_le c k (by omega)
theorem alpha_len : alpha.length = 64 := rfl
theorem alpha_at (k : Nat) (hk : k < 64) : alpha[k]? = some (aq k) := by
  unfold aq
  rw [Nat.mod_eq_of_lt hk, List.getD_eq_getElem?_getD, List.getElem?_eq_getElem (by rw [alpha_len]; exact hk)]
  rfl
theorem alpha_no : ∀ k, k < 64 → aq k ≠ 10 ∧ aq k ≠ 13 := by decide +kernel

/-- What the cells of the encoding hold when the first k characters are entered. -/
def EncAt (cs : Array Value) (k : Nat) : Prop :=
  cs.size = 322 ∧ (∀ i, i < 64 → cs[i]? = some (bv (aq i))) ∧ cs[320]? = some (.int .i32 61) ∧ cs[321]? = some (.bool false) ∧ ∀ c, c < 256 → cs[64 + c]? = some (.int .u8 ((dmk k c : Nat) : Int))

theorem EncAt.step {cs : Array Value} {k : Nat} (h : EncAt cs k) (hk : k < 64) : EncAt (cs.setIfInBounds (64 + (aq k).toNat) (.int .u8 (k : Int))) (k + 1) := by
  obtain ⟨h1, h2, h3, h4, h5⟩ := h
  have hx := (aq k).toNat_lt
  refine ⟨by rw [Array.size_setIfInBounds, h1], fun i hi => ?_, ?_, ?_, fun c hc => ?_⟩
  · rw [Array.getElem?_setIfInBounds_ne (by omega)]; exact h2 i hi
  · rw [Array.getElem?_setIfInBounds_ne (by omega)]; exact h3
  · rw [Array.getElem?_setIfInBounds_ne (by omega)]; exact h4
  · unfold dmk
    by_cases e : c = (aq k).toNat
    · subst e
      rw [if_pos rfl, Array.getElem?_setIfInBounds_self_of_lt (by omega)]
    · rw [if_neg e, Array.getElem?_setIfInBounds_ne (by omega)]
      exact h5 c hc

/-- The whole of an Encoding in block eb: for encoding and for decoding. -/
def EncD (w : World) (eb : Nat) : Prop := ∃ cs : Array Value, w.heap[eb]? = some (.cells cs 80 (0, 0)) ∧ EncAt cs 64
theorem EncD.enc {w : World} {eb : Nat} (h : EncD w eb) : Enc w eb := by
  obtain ⟨cs, hb, _, h1, h2, _⟩ := h
  exact ⟨cs, hb, h1, h2⟩

theorem zc_enc : Tryd.zeroCells80 = (List.replicate 320 (Value.int .u8 0) ++ [Value.int .i32 0, Value.bool false]).toArray := by kernel_rfl
def encL1 : List Value := List.replicate 320 (Value.int .u8 0) ++ [.int .i32 61, .bool false]
def encL2 : List Value := alpha.map bv ++ List.replicate 256 (Value.int .u8 0) ++ [.int .i32 61, .bool false]
def encL3 : List Value := alpha.map bv ++ List.replicate 256 (Value.int .u8 255) ++ [.int .i32 61, .bool false]
theorem enc_c1 : Tryd.zeroCells80.setIfInBounds 320 (.int .i32 61) = encL1.toArray := by kernel_rfl
theorem enc_c2 : (encL1.toArray.toList.take 0 ++ Lib.byteCells alpha ++ encL1.toArray.toList.drop (0 + 64)).toArray = encL2.toArray := by kernel_rfl
theorem enc_c3 : (encL2.toArray.toList.take 64 ++ Lib.byteCells (List.replicate 256 255) ++ encL2.toArray.toList.drop (64 + 256)).toArray = encL3.toArray := by kernel_rfl
theorem info_u8n : (Tryd.prog.info? 5).map (·.size) = some 1 := by kernel_rfl

theorem encAt0 : EncAt encL3.toArray 0 := by
  have h64 : (alpha.map bv).length = 64 := rfl
  refine ⟨?_, fun i hi => ?_, ?_, ?_, fun c hc => ?_⟩
  · rw [List.size_toArray]; unfold encL3; rw [List.length_append, List.length_append, h64, List.length_replicate]; rfl
  · rw [List.getElem?_toArray]; unfold encL3
    rw [List.append_assoc, List.getElem?_append_left (by rw [h64]; exact hi), List.getElem?_map, alpha_at i hi]; rfl
  · rw [List.getElem?_toArray]; unfold encL3
    rw [List.getElem?_append_right (by rw [List.length_append, h64, List.length_replicate]; decide), List.length_append, h64, List.length_replicate]; rfl
  · rw [List.getElem?_toArray]; unfold encL3
    rw [List.getElem?_append_right (by rw [List.length_append, h64, List.length_replicate]; decide), List.length_append, h64, List.length_replicate]; rfl
  · rw [List.getElem?_toArray]; unfold encL3
    rw [List.getElem?_append_left (by rw [List.length_append, h64, List.length_replicate]; omega), List.getElem?_append_right (by rw [h64]; omega), List.getElem?_replicate, if_pos (by rw [h64]; omega)]
    rfl

theorem encL1_size : encL1.toArray.size = 322 := by rw [List.size_toArray]; unfold encL1; rw [List.length_append, List.length_replicate]; rfl
theorem encL2_size : encL2.toArray.size = 322 := by rw [List.size_toArray]; unfold encL2; rw [List.length_append, List.length_append, List.length_map, List.length_replicate]; rfl
theorem enc_copy1 (w : World) : (Builtin.copy_ #[22, 9] 3 #[.slice (some ⟨w.heap.size, 0, none⟩) 64 64, .string (bs alpha)]).run Tryd.prog (w.alloc (.cells encL1.toArray 80)) = .ok (goInt 64) (w.alloc (.cells encL2.toArray 80)) := by
  have h := Lib.run_copy_row_string (P := Tryd.prog) (w.alloc (.cells encL1.toArray 80)) 22 9 3 5 w.heap.size 0 64 64 (bs alpha) encL1.toArray 80 Tryd.underlying22 info_u8n (heap_new w _) (Nat.le_refl _) (by rw [encL1_size]; decide)
  have e : (bs alpha).data.toList = alpha := by simp [bs]
  have e2 : (bs alpha).size = 64 := rfl
  rw [e, e2, enc_c2, World.setRow_alloc_new] at h
  exact h
theorem enc_copy2 (w : World) (s : ByteArray) (hs : s.data.toList = List.replicate 256 255) : (Builtin.copy_ #[22, 9] 3 #[.slice (some ⟨w.heap.size, 64, none⟩) 256 256, .string s]).run Tryd.prog (w.alloc (.cells encL2.toArray 80)) = .ok (goInt 256) (w.alloc (.cells encL3.toArray 80)) := by
  have e2 : s.size = 256 := by
    have := congrArg List.length hs
    rw [List.length_replicate, Array.length_toList] at this
    exact this
  have h := Lib.run_copy_row_string (P := Tryd.prog) (w.alloc (.cells encL2.toArray 80)) 22 9 3 5 w.heap.size 64 256 256 s encL2.toArray 80 Tryd.underlying22 info_u8n (heap_new w _) (by omega) (by rw [e2, encL2_size]; decide)
  rw [hs, e2, enc_c3, World.setRow_alloc_new] at h
  exact h

set_option maxRecDepth 100000 in
set_option maxHeartbeats 1600000 in
theorem newEncoding_any (l : List UInt8) (hl : l = alpha) (w : World) :
    Calls Tryd.prog 37 #[.string (bs l)] w fun e w' => e = .returned (.pointer (some ⟨w.heap.size, 0, none⟩)) ∧ EncD w' w.heap.size ∧ Below w.heap.size w w' := by
  have hlen : l.length = 64 := by rw [hl]; rfl
  have HL := hide hl
  clear hl
  go_enter Tryd.func37, Tryd.ntmps37
  go_wp2_with fail
  rw [enc_c1, show bs l = bs alpha by rw [unhide HL], enc_copy1]
  go_wp2_with fail
  rw [enc_copy2 w _ (by kernel_rfl)]
  go_wp2_with fail
  have hA : alpha.length = 64 := rfl
  have HB0 : Hid (Below w.heap.size w (w.alloc (.cells encL3.toArray 80))) := balloc (Below.refl _ _) _
  go_loopw [4] (fun vi wr => ∃ (k : Nat) (cs : Array Value), k ≤ 64 ∧ vi = .int .i64 (k : Int) ∧ wr.heap[w.heap.size]? = some (.cells cs 80 (0, 0)) ∧ Hid (EncAt cs k ∧ Below w.heap.size w wr)) (fun vi _ => 64 - (intOf vi).toNat)
  case atStart => exact ⟨0, encL3.toArray, Nat.zero_le _, rfl, heap_new w _, encAt0, unhide HB0⟩
  case round =>
    obtain ⟨k, cs, hk, rfl, hh, HE⟩ := hrel
    by_cases hlt : k < 64
    · have hkA : k < alpha.length := by rw [hA]; exact hlt
      obtain ⟨x, hx⟩ : ∃ x, alpha[k] = x := ⟨_, rfl⟩
      have hxa : x = aq k := by
        have h1 := alpha_at k hlt
        rw [List.getElem?_eq_getElem hkA, hx] at h1
        exact Option.some.inj h1
      have hbx := bounds_byte x
      obtain ⟨hE, hB⟩ := unhide HE
      have hstep := hE.step hlt
      rw [← hxa] at hstep
      have q1 : ((x.toNat : Int) == 10) = false := by
        rw [beq_eq_false_iff_ne]
        intro e
        apply (alpha_no k hlt).1
        rw [← hxa, ← UInt8.toNat_inj]
        have : (10 : UInt8).toNat = 10 := rfl
        omega
      have q2 : ((x.toNat : Int) == 13) = false := by
        rw [beq_eq_false_iff_ne]
        intro e
        apply (alpha_no k hlt).2
        rw [← hxa, ← UInt8.toNat_inj]
        have : (13 : UInt8).toNat = 13 := rfl
        omega
      have hc : wr.cell? ⟨w.heap.size, 64 + x.toNat, none⟩ = some (.int .u8 255) := by
        rw [cell_of_heap hh, hE.2.2.2.2 x.toNat x.toNat_lt, hxa, dmk_fresh k hlt]; rfl
      have hf : wr.frozen? ⟨w.heap.size, 64 + x.toNat, none⟩ = false := frozen_of_heap hh _
      have hh2 := heap_set_same (w := wr) hh (i := 64 + x.toNat) (.int .u8 (k : Int))
      have HN : Hid (EncAt (cs.setIfInBounds (64 + x.toNat) (.int .u8 (k : Int))) (k + 1) ∧ Below w.heap.size w (wr.setCell ⟨w.heap.size, 64 + x.toNat, none⟩ (.int .u8 (k : Int)))) := ⟨hstep, hB.setCell (Nat.le_refl _) _⟩
      clear hE hB hstep HB0 HE hxa
      go_wp2_with fail
      go_quiet (fail)
      go_wp2_with fail
      go_region
      all_goals go_wp2
      refine ⟨⟨k + 1, _, by omega, by rw [Int.natCast_add]; rfl, hh2, (unhide HN).1, below_drewN (unhide HN).2 _⟩, ?_⟩
      simp [intOf]; omega
    · have hke : k = 64 := by omega
      subst hke
      clear hlt HB0
      go_wp2
      go_ret
      exact ⟨rfl, ⟨_, hh, (unhide HE).1⟩, (unhide HE).2⟩

set_option maxRecDepth 100000 in
set_option maxHeartbeats 400000 in
theorem stdEncoding_any (w : World) :
    Calls Tryd.prog 24 #[] w fun e w' => e = .returned (.pointer (some ⟨w.heap.size, 0, none⟩)) ∧ EncD w' w.heap.size ∧ Below w.heap.size w w' := by
  have H := hide (newEncoding_any alpha rfl)
  go_enter Tryd.func24, Tryd.ntmps24
  go_wp2_with fail
  refine (unhide H _).mono ?_
  rintro e w' ⟨rfl, h1, h2⟩
  have HX := hide (And.intro h1 h2)
  clear h1 h2 H
  go_wp2
  go_ret
  exact ⟨rfl, (unhide HX).1, (unhide HX).2⟩
end Go.Proofs.YtpjehmblndjknaaDoor
