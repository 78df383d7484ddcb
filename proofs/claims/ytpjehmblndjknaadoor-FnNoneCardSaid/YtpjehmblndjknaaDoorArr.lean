/-
  Slices of arrays of bytes that lie behind a pointer.
-/
import Derived.Test.YtpjehmblndjknaaDoorSolid
import Derived.Deep.DeepMust
import Derived.Maps.AppendAt
namespace Go.Proofs.YtpjehmblndjknaaDoor
open Go.RowKit
set_option linter.unusedSimpArgs false
set_option linter.unusedVariables false

theorem size_u8 (W : World) : (sizeOf 5).run Tryd.prog W = .ok 1 W := by kernel_rfl

/-- a[l:h] of an array of N bytes at the address a. -/
theorem slice_arr (t N : Nat) (ht : Tryd.prog.underlying t = some (.array N 5)) (b o l h : Nat) (hl : l ≤ h) (hh : h ≤ N) (W : World) :
    (Instr.sliceAt t (.pointer (some ⟨b, o, none⟩)) (some (.int .i64 (l : Int))) (some (.int .i64 (h : Int))) none).run Tryd.prog W = .ok (.slice (some (if N = l then ⟨b, o, none⟩ else ⟨b, o + l, none⟩)) (h - l) (N - l)) W := by
  have e1 : ((l : Int)).toNat = l := Int.toNat_natCast l
  have e2 : ((h : Int)).toNat = h := Int.toNat_natCast h
  simp [Instr.sliceAt, Instr.sureAddr, run_underlying ht, Instr.sliceBounds, run_sliceBound, e1, e2, hl, hh, size_u8, addr_add]
theorem slice_arr_from (t N : Nat) (ht : Tryd.prog.underlying t = some (.array N 5)) (b o l : Nat) (hl : l ≤ N) (W : World) :
    (Instr.sliceAt t (.pointer (some ⟨b, o, none⟩)) (some (.int .i64 (l : Int))) none none).run Tryd.prog W = .ok (.slice (some (if N = l then ⟨b, o, none⟩ else ⟨b, o + l, none⟩)) (N - l) (N - l)) W := by
  have e1 : ((l : Int)).toNat = l := Int.toNat_natCast l
  simp [Instr.sliceAt, Instr.sureAddr, run_underlying ht, Instr.sliceBounds, run_sliceBound, e1, hl, size_u8, addr_add]
theorem slice_arr0 (t N : Nat) (hN : 0 < N) (ht : Tryd.prog.underlying t = some (.array N 5)) (b o h : Nat) (hh : h ≤ N) (W : World) :
    (Instr.sliceAt t (.pointer (some ⟨b, o, none⟩)) (some (.int .i64 0)) (some (.int .i64 (h : Int))) none).run Tryd.prog W = .ok (.slice (some ⟨b, o, none⟩) h N) W := by
  have := slice_arr t N ht b o 0 h (Nat.zero_le _) hh W
  rw [if_neg (by omega)] at this
  exact this
theorem slice_arr_to (t N : Nat) (hN : 0 < N) (ht : Tryd.prog.underlying t = some (.array N 5)) (b o h : Nat) (hh : h ≤ N) (W : World) :
    (Instr.sliceAt t (.pointer (some ⟨b, o, none⟩)) none (some (.int .i64 (h : Int))) none).run Tryd.prog W = .ok (.slice (some ⟨b, o, none⟩) h N) W := by
  have e2 : ((h : Int)).toNat = h := Int.toNat_natCast h
  have hn : ¬ N = 0 := by omega
  simp [Instr.sliceAt, Instr.sureAddr, run_underlying ht, Instr.sliceBounds, run_sliceBound, e2, hh, size_u8, addr_add, hn]
theorem slice_arr_all (t N : Nat) (hN : 0 < N) (ht : Tryd.prog.underlying t = some (.array N 5)) (b o : Nat) (W : World) :
    (Instr.sliceAt t (.pointer (some ⟨b, o, none⟩)) none none none).run Tryd.prog W = .ok (.slice (some ⟨b, o, none⟩) N N) W := by
  have hn : ¬ N = 0 := by omega
  simp [Instr.sliceAt, Instr.sureAddr, run_underlying ht, Instr.sliceBounds, size_u8, addr_add, hn]

/-- v[l:] of a slice of bytes: where it lies. -/
theorem slice_lo (b o n c l : Nat) (h1 : l ≤ n) (h2 : n ≤ c) :
    ∃ o', (∀ W, (Instr.sliceAt 22 (.slice (some ⟨b, o, none⟩) n c) (some (.int .i64 (l : Int))) none none).run Tryd.prog W = .ok (.slice (some ⟨b, o', none⟩) (n - l) (c - l)) W) ∧ (l < n → o' = o + l) := by
  have hel : Tryd.prog.elem 22 = 5 := by kernel_rfl
  refine ⟨if c = l then o else o + l, fun W => ?_, fun h => by rw [if_neg (by omega)]⟩
  have e1 : ((l : Int)).toNat = l := Int.toNat_natCast l
  rw [run_sliceAt_slice W _ _ _ _ _ (by rw [hel]; exact Tryd.underlying22)]
  by_cases hc : c = l
  · simp [Instr.slice, run_underlying Tryd.underlying22, Instr.sliceBounds, run_sliceBound, e1, h1, hc, size_u8]
  · simp [Instr.slice, run_underlying Tryd.underlying22, Instr.sliceBounds, run_sliceBound, e1, h1, hc, size_u8, addr_add]
/-- v[0:h] of a slice of bytes. -/
theorem slice_hi (b o n c h : Nat) (hc : h ≤ c) (W : World) :
    (Instr.sliceAt 22 (.slice (some ⟨b, o, none⟩) n c) (some (.int .i64 0)) (some (.int .i64 (h : Int))) none).run Tryd.prog W = .ok (.slice (some ⟨b, o, none⟩) h c) W := by
  have hel : Tryd.prog.elem 22 = 5 := by kernel_rfl
  have e1 : ((h : Int)).toNat = h := Int.toNat_natCast h
  rw [run_sliceAt_slice W _ _ _ _ _ (by rw [hel]; exact Tryd.underlying22)]
  simp [Instr.slice, run_underlying Tryd.underlying22, Instr.sliceBounds, run_sliceBound, e1, hc, size_u8, addr_add]
/-- v[:h] of a slice of bytes. -/
theorem slice_to (b o n c h : Nat) (hc : h ≤ c) (W : World) :
    (Instr.sliceAt 22 (.slice (some ⟨b, o, none⟩) n c) none (some (.int .i64 (h : Int))) none).run Tryd.prog W = .ok (.slice (some ⟨b, o, none⟩) h c) W := by
  have hel : Tryd.prog.elem 22 = 5 := by kernel_rfl
  have e1 : ((h : Int)).toNat = h := Int.toNat_natCast h
  rw [run_sliceAt_slice W _ _ _ _ _ (by rw [hel]; exact Tryd.underlying22)]
  simp [Instr.slice, run_underlying Tryd.underlying22, Instr.sliceBounds, run_sliceBound, e1, hc, size_u8, addr_add]

theorem elem_bytes : Tryd.prog.elem 22 = 5 := by kernel_rfl

/-- v[k:m] of a slice that holds l. -/
theorem Sl.cutMid {w : World} {v : Value} {l : List UInt8} (h : Sl w v l) (k m : Nat) (hk : k ≤ m) (hm : m ≤ l.length) :
    ∃ v', (∀ W, (Instr.sliceAt 22 v (some (.int .i64 (k : Int))) (some (.int .i64 (m : Int))) none).run Tryd.prog W = .ok v' W) ∧ Sl w v' ((l.take m).drop k) := by
  obtain ⟨p, cap, rfl, hlc, hc⟩ := h
  have e1 : ((k : Int)).toNat = k := Int.toNat_natCast k
  have e2 : ((m : Int)).toNat = m := Int.toNat_natCast m
  have hmc : m ≤ cap := Nat.le_trans hm hlc
  refine ⟨.slice (if cap = k then p else p.map (·.add k)) (m - k) (cap - k), fun W => ?_, ?_⟩
  · rw [run_sliceAt_slice W _ _ _ _ _ (by rw [elem_bytes]; exact Tryd.underlying22)]
    simp [Instr.slice, run_underlying Tryd.underlying22, Instr.sliceBounds, run_sliceBound, e1, e2, hk, hmc, size_u8]
  · have hl : ((l.take m).drop k).length = m - k := by rw [List.length_drop, List.length_take]; omega
    refine ⟨_, cap - k, by rw [hl], by rw [hl]; omega, fun hne => ?_⟩
    have hpos : 0 < m - k := by rw [← hl]; exact List.length_pos_iff.2 hne
    obtain ⟨b, o, rfl, hcell⟩ := hc (by rintro rfl; simp at hm; omega)
    refine ⟨b, o + k, ?_, fun i x hx => ?_⟩
    · rw [if_neg (by omega)]; simp [addr_add]
    · rw [List.getElem?_drop, List.getElem?_take] at hx
      split at hx
      · rw [Nat.add_assoc]; exact hcell _ _ hx
      · cases hx
/-- v[k:] -/
theorem Sl.cutLo {w : World} {v : Value} {l : List UInt8} (h : Sl w v l) (k : Nat) (hk : k ≤ l.length) :
    ∃ v', (∀ W, (Instr.sliceAt 22 v (some (.int .i64 (k : Int))) none none).run Tryd.prog W = .ok v' W) ∧ Sl w v' (l.drop k) := by
  obtain ⟨v', h1, h2⟩ := h.cutMid k l.length hk (Nat.le_refl _)
  rw [List.take_length] at h2
  refine ⟨v', fun W => ?_, h2⟩
  obtain ⟨p, cap, rfl, hlc, hc⟩ := h
  rw [← h1 W]
  have e1 : ((k : Int)).toNat = k := Int.toNat_natCast k
  have e2 : ((l.length : Int)).toNat = l.length := Int.toNat_natCast _
  rw [run_sliceAt_slice W _ _ _ _ _ (by rw [elem_bytes]; exact Tryd.underlying22), run_sliceAt_slice W _ _ _ _ _ (by rw [elem_bytes]; exact Tryd.underlying22)]
  simp [Instr.slice, run_underlying Tryd.underlying22, Instr.sliceBounds, run_sliceBound, e1, e2, hk, hlc, size_u8]
/-- v[0:k] -/
theorem Sl.cutHi {w : World} {v : Value} {l : List UInt8} (h : Sl w v l) (k : Nat) (hk : k ≤ l.length) :
    ∃ v', (∀ W, (Instr.sliceAt 22 v (some (.int .i64 0)) (some (.int .i64 (k : Int))) none).run Tryd.prog W = .ok v' W) ∧ Sl w v' (l.take k) := by
  obtain ⟨v', h1, h2⟩ := h.cutMid 0 k (Nat.zero_le _) hk
  exact ⟨v', h1, h2⟩
/-- v[:k] -/
theorem Sl.cutTo {w : World} {v : Value} {l : List UInt8} (h : Sl w v l) (k : Nat) (hk : k ≤ l.length) :
    ∃ v', (∀ W, (Instr.sliceAt 22 v none (some (.int .i64 (k : Int))) none).run Tryd.prog W = .ok v' W) ∧ Sl w v' (l.take k) := by
  obtain ⟨v', h1, h2⟩ := h.cutHi k hk
  refine ⟨v', fun W => ?_, h2⟩
  obtain ⟨p, cap, rfl, hlc, hc⟩ := h
  rw [← h1 W]
  have e2 : ((k : Int)).toNat = k := Int.toNat_natCast _
  have hkc : k ≤ cap := Nat.le_trans hk hlc
  rw [run_sliceAt_slice W _ _ _ _ _ (by rw [elem_bytes]; exact Tryd.underlying22), run_sliceAt_slice W _ _ _ _ _ (by rw [elem_bytes]; exact Tryd.underlying22)]
  simp [Instr.slice, run_underlying Tryd.underlying22, Instr.sliceBounds, run_sliceBound, e2, hkc, size_u8]
end Go.Proofs.YtpjehmblndjknaaDoor
