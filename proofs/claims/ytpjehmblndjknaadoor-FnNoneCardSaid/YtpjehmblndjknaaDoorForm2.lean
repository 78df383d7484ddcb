/-
  Plain laws: which bytes a written block is made of; its headers read back. No program is named here.
-/
import Derived.Test.YtpjehmblndjknaaDoorForm
namespace Go.Proofs.YtpjehmblndjknaaDoor
open Go.RowKit Go.Maps
set_option linter.unusedSimpArgs false
set_option linter.unusedVariables false

theorem aq_mem (n : Nat) : aq n ∈ alpha := by
  unfold aq
  have h : n % 64 < alpha.length := by show n % 64 < 64; omega
  rw [List.getD_eq_getElem?_getD, List.getElem?_eq_getElem h]
  exact List.getElem_mem h
theorem b64_mem : ∀ (n : Nat) (l : List UInt8), l.length ≤ n → ∀ c ∈ b64 l, c ∈ alpha ∨ c = 61
  | 0, l, h, c, hc => by
    obtain rfl : l = [] := List.eq_nil_of_length_eq_zero (by omega)
    cases hc
  | n + 1, l, h, c, hc => by
    match l, h with
    | [], _ => cases hc
    | [a], _ =>
      simp only [b64, List.mem_cons, List.not_mem_nil, or_false] at hc
      rcases hc with rfl | rfl | rfl | rfl
      · exact .inl (aq_mem _)
      · exact .inl (aq_mem _)
      · exact .inr rfl
      · exact .inr rfl
    | [a, b], _ =>
      simp only [b64, List.mem_cons, List.not_mem_nil, or_false] at hc
      rcases hc with rfl | rfl | rfl | rfl
      · exact .inl (aq_mem _)
      · exact .inl (aq_mem _)
      · exact .inl (aq_mem _)
      · exact .inr rfl
    | a :: b :: d :: r, h =>
      rw [b64_cons, List.mem_append] at hc
      rcases hc with hc | hc
      · simp only [List.mem_cons, List.not_mem_nil, or_false] at hc
        rcases hc with rfl | rfl | rfl | rfl <;> exact .inl (aq_mem _)
      · exact b64_mem n r (by simp at h; omega) c hc
theorem lines64_mem (n : Nat) : ∀ x : List UInt8, x.length ≤ n → ∀ c ∈ lines64 x, c ∈ x ∨ c = 10 := by
  induction n with
  | zero =>
    intro x h c hc
    obtain rfl : x = [] := List.eq_nil_of_length_eq_zero (by omega)
    rw [lines64, dif_neg (by simp), if_pos rfl] at hc
    cases hc
  | succ n ih =>
    intro x h c hc
    rw [lines64] at hc
    split at hc
    · rw [List.mem_append, List.mem_cons] at hc
      rcases hc with hc | rfl | hc
      · exact .inl (List.mem_of_mem_take hc)
      · exact .inr rfl
      · rcases ih (x.drop 64) (by rw [List.length_drop]; omega) c hc with h1 | h1
        · exact .inl (List.mem_of_mem_drop h1)
        · exact .inr h1
    · split at hc
      · cases hc
      · rw [List.mem_append, List.mem_singleton] at hc; exact hc
theorem alpha_chars : ∀ c ∈ alpha, c ≠ 58 ∧ c ≠ 10 ∧ c ≠ 45 ∧ c ≠ 13 ∧ c ≠ 32 ∧ c ≠ 9 := by decide
/-- The bytes of the lines of base64. -/
theorem body_chars (b : List UInt8) : ∀ c ∈ lines64 (b64 b), c ≠ 58 ∧ c ≠ 45 ∧ c ≠ 13 ∧ c ≠ 32 ∧ c ≠ 9 := by
  intro c hc
  rcases lines64_mem _ _ (Nat.le_refl _) c hc with h | rfl
  · rcases b64_mem _ _ (Nat.le_refl _) c h with h | rfl
    · obtain ⟨h1, _, h2, h3, h4, h5⟩ := alpha_chars c h
      exact ⟨h1, h2, h3, h4, h5⟩
    · decide
  · decide

/-- What stands behind the headers. -/
def tailP (ty : List UInt8) (ls : Hdrs) (b : List UInt8) : List UInt8 := (if ls = [] then [] else [10]) ++ (lines64 (b64 b) ++ (endP ++ (ty ++ (dashP ++ [10]))))
def hlinesL (ls : Hdrs) : List UInt8 := ls.flatMap fun p => headLine p.1 p.2
theorem written_split (ty : List UInt8) (ls : Hdrs) (b : List UInt8) : writtenP ty ls b = (begP ++ (ty ++ dashP)) ++ 10 :: (hlinesL ls ++ tailP ty ls b) := by
  unfold writtenP tailP hlinesL
  simp only [List.append_assoc, List.cons_append, List.nil_append]
/-- No colon in the first line behind the headers. -/
theorem tail_noColon {ty : List UInt8} (ht : (58 : UInt8) ∉ ty) (ls : Hdrs) (b : List UInt8) : (58 : UInt8) ∉ preNL (tailP ty ls b) := by
  unfold tailP
  split
  · intro h
    have h2 : (58 : UInt8) ∈ lines64 (b64 b) ++ (endP ++ (ty ++ (dashP ++ [10]))) := by
      have := List.mem_of_mem_take (i := (preNL ([] ++ (lines64 (b64 b) ++ (endP ++ (ty ++ (dashP ++ [10])))))).length) (by rw [← preNL_take]; exact h)
      simpa using this
    rw [List.mem_append, List.mem_append, List.mem_append] at h2
    rcases h2 with h2 | h2 | h2 | h2
    · exact (body_chars b _ h2).1 rfl
    · revert h2; decide
    · exact ht h2
    · revert h2; decide
  · have : preNL ([10] ++ (lines64 (b64 b) ++ (endP ++ (ty ++ (dashP ++ [10]))))) = [] := rfl
    rw [this]; simp
theorem tail_hasNL (ty : List UInt8) (ls : Hdrs) (b : List UInt8) : hasNL (tailP ty ls b) = true := by
  unfold hasNL tailP
  rw [List.any_eq_true]
  exact ⟨10, by simp, by decide⟩

/-- Where the first colon stands, or the length. -/
def colAt (l : List UInt8) : Nat := (l.takeWhile fun c => c != 58).length
/-- The header on a line, if it is one. -/
def hdrOf (l : List UInt8) : Option (List UInt8 × List UInt8) := if l[colAt l + 1]? = some 32 then some (l.take (colAt l), l.drop (colAt l + 2)) else none
theorem colAt_no {l : List UInt8} (h : (58 : UInt8) ∉ l) : colAt l = l.length := by
  unfold colAt
  induction l with
  | nil => rfl
  | cons x r ih =>
    have hx : (x != 58) = true := by simp; rintro rfl; exact h (by simp)
    rw [List.takeWhile_cons, hx, if_pos rfl, List.length_cons, List.length_cons, ih (fun e => h (by simp [e]))]
theorem colAt_head {k r : List UInt8} (h : (58 : UInt8) ∉ k) : colAt (k ++ 58 :: r) = k.length := by
  unfold colAt
  induction k with
  | nil => rfl
  | cons x k ih =>
    have hx : (x != 58) = true := by simp; rintro rfl; exact h (by simp)
    rw [List.cons_append, List.takeWhile_cons, hx, if_pos rfl, List.length_cons, List.length_cons, ih (fun e => h (by simp [e]))]
theorem hdrOf_head {k v : List UInt8} (h : (58 : UInt8) ∉ k) : hdrOf (k ++ 58 :: 32 :: v) = some (k, v) := by
  unfold hdrOf
  rw [colAt_head h]
  have e1 : (k ++ 58 :: 32 :: v)[k.length + 1]? = some 32 := by
    rw [List.getElem?_append_right (by omega), show k.length + 1 - k.length = 1 by omega]; rfl
  rw [if_pos e1, List.take_left' rfl, show k ++ 58 :: 32 :: v = (k ++ [58, 32]) ++ v by simp, List.drop_left' (by simp)]
theorem hdrOf_no {l : List UInt8} (h : (58 : UInt8) ∉ l) : hdrOf l = none := by
  unfold hdrOf
  rw [colAt_no h, List.getElem?_eq_none (by omega), if_neg (by simp)]
theorem colAt_le (l : List UInt8) : colAt l ≤ l.length := (List.takeWhile_sublist _).length_le
theorem colAt_before {l : List UInt8} {j : Nat} (h : j < colAt l) : ∃ c, l[j]? = some c ∧ c ≠ 58 := by
  have hl := colAt_le l
  refine ⟨l[j], List.getElem?_eq_getElem (by omega), fun e => ?_⟩
  have h1 : l.takeWhile (fun c => c != 58) = l.take (colAt l) := by
    have := List.prefix_iff_eq_take.1 (List.takeWhile_prefix (fun c : UInt8 => c != 58) (l := l))
    exact this
  have h2 : l[j] ∈ l.takeWhile (fun c => c != 58) := by
    rw [h1, List.mem_take_iff_getElem]
    exact ⟨j, by omega, rfl⟩
  have := List.all_takeWhile (l := l) (p := fun c : UInt8 => c != 58)
  rw [List.all_eq_true] at this
  have := this _ h2
  rw [e] at this
  exact absurd this (by decide)
theorem colAt_at {l : List UInt8} (h : colAt l < l.length) : l[colAt l]? = some 58 := by
  unfold colAt at *
  induction l with
  | nil => simp at h
  | cons x r ih =>
    rw [List.takeWhile_cons] at h ⊢
    by_cases hx : x = 58
    · subst hx; rfl
    · have hx' : (x != 58) = true := by simpa using hx
      rw [hx', if_pos rfl, List.length_cons] at h ⊢
      rw [List.getElem?_cons_succ]
      exact ih (by rw [List.length_cons] at h; omega)
theorem hlinesL_drop {ls : Hdrs} {j : Nat} {p : List UInt8 × List UInt8} (h : ls[j]? = some p) : hlinesL (ls.drop j) = (p.1 ++ 58 :: 32 :: p.2) ++ 10 :: hlinesL (ls.drop (j + 1)) := by
  obtain ⟨hj, e⟩ := List.getElem?_eq_some_iff.1 h
  rw [List.drop_eq_getElem_cons hj, e]
  show headLine p.1 p.2 ++ hlinesL (ls.drop (j + 1)) = _
  unfold headLine
  simp
end Go.Proofs.YtpjehmblndjknaaDoor
