/-
  Plain laws on lists of bytes: lines of 64 bytes. No program is named here.
-/
namespace Go.Proofs.YtpjehmblndjknaaDoor
set_option linter.unusedSimpArgs false
set_option linter.unusedVariables false

/-- The full lines of x, each with 64 bytes and a line feed. -/
def fullLines (x : List UInt8) : List UInt8 := if h : x.length < 64 then [] else x.take 64 ++ 10 :: fullLines (x.drop 64)
termination_by x.length
decreasing_by rw [List.length_drop]; omega
/-- What is left behind the full lines. -/
def remPart (x : List UInt8) : List UInt8 := if h : x.length < 64 then x else remPart (x.drop 64)
termination_by x.length
decreasing_by rw [List.length_drop]; omega

theorem fullLines_small {x : List UInt8} (h : x.length < 64) : fullLines x = [] := by rw [fullLines, dif_pos h]
theorem fullLines_big {x : List UInt8} (h : 64 ≤ x.length) : fullLines x = x.take 64 ++ 10 :: fullLines (x.drop 64) := by rw [fullLines, dif_neg (by omega)]
theorem remPart_small {x : List UInt8} (h : x.length < 64) : remPart x = x := by rw [remPart, dif_pos h]
theorem remPart_big {x : List UInt8} (h : 64 ≤ x.length) : remPart x = remPart (x.drop 64) := by rw [remPart, dif_neg (by omega)]

theorem remPart_lt (n : Nat) : ∀ x : List UInt8, x.length ≤ n → (remPart x).length < 64 := by
  induction n with
  | zero => intro x h; rw [remPart_small (by omega)]; omega
  | succ n ih =>
    intro x h
    by_cases hx : x.length < 64
    · rw [remPart_small hx]; exact hx
    · rw [remPart_big (by omega)]; exact ih _ (by rw [List.length_drop]; omega)

theorem fullLines_len (n : Nat) : ∀ x : List UInt8, x.length ≤ n → (fullLines x).length ≤ 2 * x.length := by
  induction n with
  | zero => intro x h; rw [fullLines_small (by omega)]; simp
  | succ n ih =>
    intro x h
    by_cases hx : x.length < 64
    · rw [fullLines_small hx]; simp
    · rw [fullLines_big (by omega)]
      have := ih (x.drop 64) (by rw [List.length_drop]; omega)
      rw [List.length_drop] at this
      rw [List.length_append, List.length_cons, List.length_take]
      omega

/-- Adding bytes to what is left. -/
theorem lines_step (n : Nat) : ∀ (x d : List UInt8), x.length ≤ n → fullLines (x ++ d) = fullLines x ++ fullLines (remPart x ++ d) ∧ remPart (x ++ d) = remPart (remPart x ++ d) := by
  induction n with
  | zero =>
    intro x d h
    rw [fullLines_small (x := x) (by omega), remPart_small (x := x) (by omega)]
    exact ⟨rfl, rfl⟩
  | succ n ih =>
    intro x d h
    by_cases hx : x.length < 64
    · rw [fullLines_small hx, remPart_small hx]
      exact ⟨rfl, rfl⟩
    · have hx' : 64 ≤ x.length := by omega
      have hxd : 64 ≤ (x ++ d).length := by rw [List.length_append]; omega
      obtain ⟨h1, h2⟩ := ih (x.drop 64) d (by rw [List.length_drop]; omega)
      rw [fullLines_big hxd, remPart_big hxd, fullLines_big hx', remPart_big hx', List.take_append_of_le_length hx', List.drop_append_of_le_length hx', h1, h2]
      exact ⟨by simp, rfl⟩

/-- The lines of x: the last one may be shorter; none where x is empty. -/
def lines64 (x : List UInt8) : List UInt8 := if h : 64 < x.length then x.take 64 ++ 10 :: lines64 (x.drop 64) else if x = [] then [] else x ++ [10]
termination_by x.length
decreasing_by rw [List.length_drop]; omega

def closeOut (pend : List UInt8) : List UInt8 := if pend = [] then [] else pend ++ [10]

theorem lines64_eq (n : Nat) : ∀ x : List UInt8, x.length ≤ n → lines64 x = fullLines x ++ closeOut (remPart x) := by
  induction n with
  | zero =>
    intro x h
    obtain rfl : x = [] := List.eq_nil_of_length_eq_zero (by omega)
    rw [lines64, dif_neg (by simp), fullLines_small (by simp), remPart_small (by simp)]
    rfl
  | succ n ih =>
    intro x h
    by_cases hx : 64 < x.length
    · rw [lines64, dif_pos hx, fullLines_big (by omega), remPart_big (by omega), ih (x.drop 64) (by rw [List.length_drop]; omega)]
      simp
    · rw [lines64, dif_neg hx]
      by_cases hx2 : x.length < 64
      · rw [fullLines_small hx2, remPart_small hx2]
        rfl
      · have h64 : x.length = 64 := by omega
        have hd : x.drop 64 = [] := List.drop_of_length_le (by omega)
        rw [fullLines_big (by omega), remPart_big (by omega), hd, fullLines_small (by simp), remPart_small (by simp), List.take_of_length_le (by omega), if_neg (by rintro rfl; simp at h64)]
        simp [closeOut]

/-! ### The first line -/
def blankB (b : UInt8) : Bool := b == 32 || b == 9
/-- Without the blanks and tabs at its end. -/
def trimR (l : List UInt8) : List UInt8 := (l.reverse.dropWhile blankB).reverse
theorem trimR_nil : trimR [] = [] := rfl
theorem trimR_snoc (l : List UInt8) (x : UInt8) : trimR (l ++ [x]) = if blankB x then trimR l else l ++ [x] := by
  unfold trimR
  rw [List.reverse_append]
  simp only [List.reverse_cons, List.reverse_nil, List.nil_append, List.singleton_append, List.dropWhile_cons]
  split <;> simp
theorem trimR_le (l : List UInt8) : (trimR l).length ≤ l.length := by
  unfold trimR
  rw [List.length_reverse, ← List.length_reverse (as := l)]
  exact (List.dropWhile_sublist _).length_le

def preNL (l : List UInt8) : List UInt8 := l.takeWhile fun b => b != 10
def hasNL (l : List UInt8) : Bool := l.any fun b => b == 10
def dropCR (l : List UInt8) : List UInt8 := if l.getLast? = some 13 then l.dropLast else l
def lineP (l : List UInt8) : List UInt8 := if hasNL l then trimR (dropCR (preNL l)) else trimR l
def restP (l : List UInt8) : List UInt8 := if hasNL l then l.drop ((preNL l).length + 1) else []
def consP (l : List UInt8) : Nat := if hasNL l then (preNL l).length + 1 else l.length

theorem preNL_take (l : List UInt8) : preNL l = l.take (preNL l).length := by
  unfold preNL
  induction l with
  | nil => rfl
  | cons x r ih =>
    rw [List.takeWhile_cons]
    split
    · rw [List.length_cons, List.take_succ_cons]; exact congrArg _ ih
    · rfl
theorem preNL_le (l : List UInt8) : (preNL l).length ≤ l.length := (List.takeWhile_sublist _).length_le
theorem preNL_lt {l : List UInt8} (h : hasNL l = true) : (preNL l).length < l.length := by
  unfold preNL hasNL at *
  induction l with
  | nil => simp at h
  | cons x r ih =>
    rw [List.takeWhile_cons]
    by_cases hx : x = 10
    · subst hx; simp
    · have hx' : (x != 10) = true := by simpa using hx
      rw [hx', if_pos rfl, List.length_cons, List.length_cons]
      have h2 : (r.any fun b => b == 10) = true := by
        rw [List.any_cons] at h
        have : (x == 10) = false := by simpa using hx
        rw [this, Bool.false_or] at h
        exact h
      have := ih h2
      omega
theorem preNL_no {l : List UInt8} (h : hasNL l = false) : preNL l = l := by
  unfold preNL hasNL at *
  induction l with
  | nil => rfl
  | cons x r ih =>
    rw [List.any_cons, Bool.or_eq_false_iff] at h
    rw [List.takeWhile_cons]
    have : (x != 10) = true := by simpa using h.1
    rw [this, if_pos rfl, ih h.2]
theorem preNL_get {l : List UInt8} (h : hasNL l = true) : l[(preNL l).length]? = some 10 := by
  unfold preNL hasNL at *
  induction l with
  | nil => simp at h
  | cons x r ih =>
    rw [List.takeWhile_cons]
    by_cases hx : x = 10
    · subst hx; simp
    · have hx' : (x != 10) = true := by simpa using hx
      rw [hx', if_pos rfl, List.length_cons, List.getElem?_cons_succ]
      refine ih ?_
      rw [List.any_cons] at h
      have : (x == 10) = false := by simpa using hx
      rw [this, Bool.false_or] at h
      exact h
theorem preNL_before {l : List UInt8} {j : Nat} (hj : j < (preNL l).length) : l[j]? ≠ some 10 := by
  intro e
  have h1 : (preNL l)[j]? = some 10 := by rw [preNL_take, List.getElem?_take, if_pos hj]; exact e
  have h2 : (10 : UInt8) ∈ preNL l := List.mem_of_getElem? h1
  unfold preNL at h2
  have := List.all_takeWhile (l := l) (p := fun b : UInt8 => b != 10)
  rw [List.all_eq_true] at this
  exact absurd (this 10 h2) (by decide)

theorem nl_at {l : List UInt8} {k : Nat} (hb : ∀ j, j < k → l[j]? ≠ some 10) (hk : l[k]? = some 10) : hasNL l = true ∧ (preNL l).length = k := by
  have h1 : hasNL l = true := by
    unfold hasNL; rw [List.any_eq_true]
    exact ⟨10, List.mem_of_getElem? hk, by decide⟩
  refine ⟨h1, ?_⟩
  have h2 := preNL_get h1
  rcases Nat.lt_trichotomy (preNL l).length k with h | h | h
  · exact absurd h2 (hb _ h)
  · exact h
  · exact absurd hk (preNL_before h)
theorem nl_none {l : List UInt8} (hb : ∀ j, j < l.length → l[j]? ≠ some 10) : hasNL l = false := by
  cases h : hasNL l with
  | false => rfl
  | true => exact absurd (preNL_get h) (hb _ (preNL_lt h))
end Go.Proofs.YtpjehmblndjknaaDoor
