/-
  Plain laws: a proper block's lengths, and that its headers can be read back. No program is named here.
-/
import Derived.Test.YtpjehmblndjknaaForm2
namespace Go.Proofs.Ytpjehmblndjknaa
open Go.RowKit Go.Maps
set_option linter.unusedSimpArgs false
set_option linter.unusedVariables false

theorem lines64_length (n : Nat) : ∀ x : List UInt8, x.length ≤ n → (lines64 x).length ≤ 2 * x.length := by
  induction n with
  | zero =>
    intro x h
    obtain rfl : x = [] := List.eq_nil_of_length_eq_zero (by omega)
    rw [lines64, dif_neg (by simp), if_pos rfl]; simp
  | succ n ih =>
    intro x h
    rw [lines64]
    split
    · have := ih (x.drop 64) (by rw [List.length_drop]; omega)
      rw [List.length_append, List.length_cons, List.length_take]
      rw [List.length_drop] at this
      omega
    · split
      · simp
      · rename_i h1 h2
        have : 0 < x.length := List.length_pos_iff.2 h2
        rw [List.length_append, List.length_singleton]; omega
theorem hlinesL_length (m : Nat) : ∀ ls : Hdrs, (∀ p ∈ ls, p.1.length ≤ m ∧ p.2.length ≤ m) → (hlinesL ls).length ≤ ls.length * (2 * m + 3)
  | [], _ => by simp [hlinesL]
  | p :: l, h => by
    have h1 := hlinesL_length m l (fun q hq => h q (List.mem_cons_of_mem _ hq))
    obtain ⟨h2, h3⟩ := h p (List.mem_cons_self ..)
    have e : hlinesL (p :: l) = headLine p.1 p.2 ++ hlinesL l := rfl
    have hll : (headLine p.1 p.2).length = p.1.length + (p.2.length + 3) := by unfold headLine; simp
    rw [e, List.length_append, hll, List.length_cons, Nat.succ_mul]
    omega
/-- How long a written block is. -/
theorem written_len {ty d : List UInt8} {ls : Hdrs} (m : Nat) (h : ∀ p ∈ ls, p.1.length ≤ m ∧ p.2.length ≤ m) : (writtenP ty ls d).length ≤ 2 * ty.length + ls.length * (2 * m + 3) + 4 * d.length + 60 := by
  have h1 := hlinesL_length m ls h
  have h2 := lines64_length _ (b64 d) (Nat.le_refl _)
  have e : writtenP ty ls d = begP ++ ty ++ (dashP ++ [10]) ++ hlinesL ls ++ (if ls = [] then [] else [10]) ++ lines64 (b64 d) ++ endP ++ ty ++ (dashP ++ [10]) := rfl
  have h3 : (if ls = [] then ([] : List UInt8) else [10]).length ≤ 1 := by split <;> simp
  have e1 : begP.length = 11 := rfl
  have e2 : endP.length = 9 := rfl
  have e3 : (dashP ++ [10]).length = 6 := rfl
  rw [b64_length] at h2
  rw [e]
  simp only [List.length_append] at e3 ⊢
  simp only [List.length_append, e1, e2]
  omega
theorem wlist_len (hs : Hdrs) : (wlist hs).length ≤ hs.length + 1 := by
  unfold wlist hsort
  rw [List.length_append, List.length_map, List.length_mergeSort]
  have h1 := List.length_filter_le (fun k => !decide (k = procT)) (hkeys hs)
  have h2 := hkeys_len hs
  cases hget hs procT with
  | none => simp; omega
  | some v => simp; omega
theorem wlist_sub {hs : Hdrs} {p : List UInt8 × List UInt8} (h : p ∈ wlist hs) : p ∈ hs := hget_mem (wlist_mem.1 h)
/-- A bound of the encoded form's length, of whatever headers. -/
theorem pemOut_bound {ty d : List UInt8} {hs : Hdrs} (h1 : ty.length ≤ 1048576) (h2 : hs.length ≤ 1048577) (h3 : d.length ≤ 1048576) (h4 : ∀ p ∈ hs, p.1.length ≤ 1048576 ∧ p.2.length ≤ 1048576) : (pemOut ty hs d).length ≤ 3000000000000 := by
  rw [pemOut_written]
  have e1 := written_len (ty := ty) (d := d) (ls := wlist hs) 1048576 (fun p hp => h4 p (wlist_sub hp))
  have e2 := wlist_len hs
  have e3 : (wlist hs).length * (2 * 1048576 + 3) ≤ 1048578 * (2 * 1048576 + 3) := Nat.mul_le_mul_right _ (by omega)
  omega
end Go.Proofs.Ytpjehmblndjknaa
