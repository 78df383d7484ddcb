/-
  Plain laws on lists of bytes: lines of 64 bytes. No program is named here.
-/
namespace Go.Proofs.Ytpjehmblndjknaa

/-- The full lines of x, each with 64 bytes and a line feed. -/
def fullLines (x : List UInt8) : List UInt8 := if h : x.length < 64 then [] else x.take 64 ++ 10 :: fullLines (x.drop 64)
termination_by x.length
decreasing_by rw [List.length_drop]; omega
/-- What is left behind the full lines. -/
def remPart (x : List UInt8) : List UInt8 := if h : x.length < 64 then x else remPart (x.drop 64)
termination_by x.length
decreasing_by rw [List.length_drop]; omega

theorem fullLines_small {x : List UInt8} (h : x.length < 64) : fullLines x = [] := by rw [fullLines, dif_pos h]
theorem fullLines_big {x : List UInt8} (h : 64 ≤ x.length) : fullLines x = x.take 64 ++ 10 :: fullLines (x.drop 64) := by rw [fullLines, dif_neg (by omega)]
theorem remPart_small {x : List UInt8} (h : x.length < 64) : remPart x = x := by rw [remPart, dif_pos h]
theorem remPart_big {x : List UInt8} (h : 64 ≤ x.length) : remPart x = remPart (x.drop 64) := by rw [remPart, dif_neg (by omega)]

theorem remPart_lt (n : Nat) : ∀ x : List UInt8, x.length ≤ n → (remPart x).length < 64 := by
  induction n with
  | zero => intro x h; rw [remPart_small (by omega)]; omega
  | succ n ih =>
    intro x h
    by_cases hx : x.length < 64
    · rw [remPart_small hx]; exact hx
    · rw [remPart_big (by omega)]; exact ih _ (by rw [List.length_drop]; omega)

theorem fullLines_len (n : Nat) : ∀ x : List UInt8, x.length ≤ n → (fullLines x).length ≤ 2 * x.length := by
  induction n with
  | zero => intro x h; rw [fullLines_small (by omega)]; simp
  | succ n ih =>
    intro x h
    by_cases hx : x.length < 64
    · rw [fullLines_small hx]; simp
    · rw [fullLines_big (by omega)]
      have := ih (x.drop 64) (by rw [List.length_drop]; omega)
      rw [List.length_drop] at this
      rw [List.length_append, List.length_cons, List.length_take]
      omega

/-- Adding bytes to what is left. -/
theorem lines_step (n : Nat) : ∀ (x d : List UInt8), x.length ≤ n → fullLines (x ++ d) = fullLines x ++ fullLines (remPart x ++ d) ∧ remPart (x ++ d) = remPart (remPart x ++ d) := by
  induction n with
  | zero =>
    intro x d h
    rw [fullLines_small (x := x) (by omega), remPart_small (x := x) (by omega)]
    exact ⟨rfl, rfl⟩
  | succ n ih =>
    intro x d h
    by_cases hx : x.length < 64
    · rw [fullLines_small hx, remPart_small hx]
      exact ⟨rfl, rfl⟩
    · have hx' : 64 ≤ x.length := by omega
      have hxd : 64 ≤ (x ++ d).length := by rw [List.length_append]; omega
      obtain ⟨h1, h2⟩ := ih (x.drop 64) d (by rw [List.length_drop]; omega)
      rw [fullLines_big hxd, remPart_big hxd, fullLines_big hx', remPart_big hx', List.take_append_of_le_length hx', List.drop_append_of_le_length hx', h1, h2]
      exact ⟨by simp, rfl⟩

/-- The lines of x: the last one may be shorter; none where x is empty. -/
def lines64 (x : List UInt8) : List UInt8 := if h : 64 < x.length then x.take 64 ++ 10 :: lines64 (x.drop 64) else if x = [] then [] else x ++ [10]
termination_by x.length
decreasing_by rw [List.length_drop]; omega

def closeOut (pend : List UInt8) : List UInt8 := if pend = [] then [] else pend ++ [10]

theorem lines64_eq (n : Nat) : ∀ x : List UInt8, x.length ≤ n → lines64 x = fullLines x ++ closeOut (remPart x) := by
  induction n with
  | zero =>
    intro x h
    obtain rfl : x = [] := List.eq_nil_of_length_eq_zero (by omega)
    rw [lines64, dif_neg (by simp), fullLines_small (by simp), remPart_small (by simp)]
    rfl
  | succ n ih =>
    intro x h
    by_cases hx : 64 < x.length
    · rw [lines64, dif_pos hx, fullLines_big (by omega), remPart_big (by omega), ih (x.drop 64) (by rw [List.length_drop]; omega)]
      simp
    · rw [lines64, dif_neg hx]
      by_cases hx2 : x.length < 64
      · rw [fullLines_small hx2, remPart_small hx2]
        rfl
      · have h64 : x.length = 64 := by omega
        have hd : x.drop 64 = [] := List.drop_of_length_le (by omega)
        rw [fullLines_big (by omega), remPart_big (by omega), hd, fullLines_small (by simp), remPart_small (by simp), List.take_of_length_le (by omega), if_neg (by rintro rfl; simp at h64)]
        simp [closeOut]
end Go.Proofs.Ytpjehmblndjknaa
