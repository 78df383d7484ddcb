/-
  Slices of arrays of bytes that lie behind a pointer.
-/
import Derived.Test.YtpjehmblndjknaaSolidB
namespace Go.Proofs.Ytpjehmblndjknaa
open Go.RowKit
set_option linter.unusedSimpArgs false
set_option linter.unusedVariables false

theorem size_u8 (W : World) : (sizeOf 5).run Try.prog W = .ok 1 W := by kernel_rfl

/-- a[l:h] of an array of N bytes at the address a. -/
theorem slice_arr (t N : Nat) (ht : Try.prog.underlying t = some (.array N 5)) (b o l h : Nat) (hl : l ≤ h) (hh : h ≤ N) (W : World) :
    (Instr.sliceAt t (.pointer (some ⟨b, o, none⟩)) (some (.int .i64 (l : Int))) (some (.int .i64 (h : Int))) none).run Try.prog W = .ok (.slice (some (if N = l then ⟨b, o, none⟩ else ⟨b, o + l, none⟩)) (h - l) (N - l)) W := by
  have e1 : ((l : Int)).toNat = l := Int.toNat_natCast l
  have e2 : ((h : Int)).toNat = h := Int.toNat_natCast h
  simp [Instr.sliceAt, Instr.sureAddr, run_underlying ht, Instr.sliceBounds, run_sliceBound, e1, e2, hl, hh, size_u8, addr_add]
theorem slice_arr_from (t N : Nat) (ht : Try.prog.underlying t = some (.array N 5)) (b o l : Nat) (hl : l ≤ N) (W : World) :
    (Instr.sliceAt t (.pointer (some ⟨b, o, none⟩)) (some (.int .i64 (l : Int))) none none).run Try.prog W = .ok (.slice (some (if N = l then ⟨b, o, none⟩ else ⟨b, o + l, none⟩)) (N - l) (N - l)) W := by
  have e1 : ((l : Int)).toNat = l := Int.toNat_natCast l
  simp [Instr.sliceAt, Instr.sureAddr, run_underlying ht, Instr.sliceBounds, run_sliceBound, e1, hl, size_u8, addr_add]
theorem slice_arr0 (t N : Nat) (hN : 0 < N) (ht : Try.prog.underlying t = some (.array N 5)) (b o h : Nat) (hh : h ≤ N) (W : World) :
    (Instr.sliceAt t (.pointer (some ⟨b, o, none⟩)) (some (.int .i64 0)) (some (.int .i64 (h : Int))) none).run Try.prog W = .ok (.slice (some ⟨b, o, none⟩) h N) W := by
  have := slice_arr t N ht b o 0 h (Nat.zero_le _) hh W
  rw [if_neg (by omega)] at this
  exact this
theorem slice_arr_to (t N : Nat) (hN : 0 < N) (ht : Try.prog.underlying t = some (.array N 5)) (b o h : Nat) (hh : h ≤ N) (W : World) :
    (Instr.sliceAt t (.pointer (some ⟨b, o, none⟩)) none (some (.int .i64 (h : Int))) none).run Try.prog W = .ok (.slice (some ⟨b, o, none⟩) h N) W := by
  have e2 : ((h : Int)).toNat = h := Int.toNat_natCast h
  have hn : ¬ N = 0 := by omega
  simp [Instr.sliceAt, Instr.sureAddr, run_underlying ht, Instr.sliceBounds, run_sliceBound, e2, hh, size_u8, addr_add, hn]
theorem slice_arr_all (t N : Nat) (hN : 0 < N) (ht : Try.prog.underlying t = some (.array N 5)) (b o : Nat) (W : World) :
    (Instr.sliceAt t (.pointer (some ⟨b, o, none⟩)) none none none).run Try.prog W = .ok (.slice (some ⟨b, o, none⟩) N N) W := by
  have hn : ¬ N = 0 := by omega
  simp [Instr.sliceAt, Instr.sureAddr, run_underlying ht, Instr.sliceBounds, size_u8, addr_add, hn]

/-- v[l:] of a slice of bytes: where it lies. -/
theorem slice_lo (b o n c l : Nat) (h1 : l ≤ n) (h2 : n ≤ c) :
    ∃ o', (∀ W, (Instr.sliceAt 22 (.slice (some ⟨b, o, none⟩) n c) (some (.int .i64 (l : Int))) none none).run Try.prog W = .ok (.slice (some ⟨b, o', none⟩) (n - l) (c - l)) W) ∧ (l < n → o' = o + l) := by
  have hel : Try.prog.elem 22 = 5 := by kernel_rfl
  refine ⟨if c = l then o else o + l, fun W => ?_, fun h => by rw [if_neg (by omega)]⟩
  have e1 : ((l : Int)).toNat = l := Int.toNat_natCast l
  rw [run_sliceAt_slice W _ _ _ _ _ (by rw [hel]; exact Try.underlying22)]
  by_cases hc : c = l
  · simp [Instr.slice, run_underlying Try.underlying22, Instr.sliceBounds, run_sliceBound, e1, h1, hc, size_u8]
  · simp [Instr.slice, run_underlying Try.underlying22, Instr.sliceBounds, run_sliceBound, e1, h1, hc, size_u8, addr_add]
/-- v[0:h] of a slice of bytes. -/
theorem slice_hi (b o n c h : Nat) (hc : h ≤ c) (W : World) :
    (Instr.sliceAt 22 (.slice (some ⟨b, o, none⟩) n c) (some (.int .i64 0)) (some (.int .i64 (h : Int))) none).run Try.prog W = .ok (.slice (some ⟨b, o, none⟩) h c) W := by
  have hel : Try.prog.elem 22 = 5 := by kernel_rfl
  have e1 : ((h : Int)).toNat = h := Int.toNat_natCast h
  rw [run_sliceAt_slice W _ _ _ _ _ (by rw [hel]; exact Try.underlying22)]
  simp [Instr.slice, run_underlying Try.underlying22, Instr.sliceBounds, run_sliceBound, e1, hc, size_u8, addr_add]
/-- v[:h] of a slice of bytes. -/
theorem slice_to (b o n c h : Nat) (hc : h ≤ c) (W : World) :
    (Instr.sliceAt 22 (.slice (some ⟨b, o, none⟩) n c) none (some (.int .i64 (h : Int))) none).run Try.prog W = .ok (.slice (some ⟨b, o, none⟩) h c) W := by
  have hel : Try.prog.elem 22 = 5 := by kernel_rfl
  have e1 : ((h : Int)).toNat = h := Int.toNat_natCast h
  rw [run_sliceAt_slice W _ _ _ _ _ (by rw [hel]; exact Try.underlying22)]
  simp [Instr.slice, run_underlying Try.underlying22, Instr.sliceBounds, run_sliceBound, e1, hc, size_u8, addr_add]
end Go.Proofs.Ytpjehmblndjknaa
