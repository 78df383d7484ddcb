/-
  Plain laws: a block as the reference writes it, and as the package does. No program is named here.
-/
import Derived.Test.YtpjehmblndjknaaDoorHdr
namespace Go.Proofs.YtpjehmblndjknaaDoor
open Go.RowKit Go.Maps
set_option linter.unusedSimpArgs false
set_option linter.unusedVariables false

theorem nl_split {a r : List UInt8} (h : (10 : UInt8) ∉ a) : hasNL (a ++ 10 :: r) = true ∧ preNL (a ++ 10 :: r) = a ∧ restP (a ++ 10 :: r) = r := by
  obtain ⟨h1, h2⟩ := nl_at (l := a ++ 10 :: r) (k := a.length) (fun j hj => by
    rw [List.getElem?_append_left hj]
    intro e
    exact h (List.mem_of_getElem? e)) (by rw [List.getElem?_append_right (Nat.le_refl _), Nat.sub_self]; rfl)
  refine ⟨h1, ?_, ?_⟩
  · rw [preNL_take, h2, List.take_left' rfl]
  · unfold restP
    rw [if_pos h1, h2]
    rw [show a ++ 10 :: r = (a ++ [10]) ++ r by simp, List.drop_left' (by simp)]

/-- The headers in the order in which they are written. -/
def wlist (hs : Hdrs) : Hdrs := (match hget hs procT with | some v => [(procT, v)] | none => []) ++ (hsort (hkeys hs)).map fun k => (k, (hget hs k).getD [])
/-- A block as the reference writes it. -/
def writtenP (ty : List UInt8) (ls : Hdrs) (b : List UInt8) : List UInt8 :=
  begP ++ ty ++ (dashP ++ [10]) ++ (ls.flatMap fun p => headLine p.1 p.2) ++ (if ls = [] then [] else [10]) ++ lines64 (b64 b) ++ endP ++ ty ++ (dashP ++ [10])

theorem hsort_mem {ss : List (List UInt8)} {k : List UInt8} : k ∈ hsort ss ↔ k ∈ ss ∧ k ≠ procT := by
  unfold hsort
  rw [List.mem_mergeSort, List.mem_filter]
  simp
theorem hsort_nodup {ss : List (List UInt8)} (h : ss.Nodup) : (hsort ss).Nodup := by
  unfold hsort
  exact ((List.mergeSort_perm _ _).nodup_iff).2 (h.filter _)
theorem wlist_mem {hs : Hdrs} {p : List UInt8 × List UInt8} : p ∈ wlist hs ↔ hget hs p.1 = some p.2 := by
  obtain ⟨k, v⟩ := p
  unfold wlist
  rw [List.mem_append, List.mem_map]
  constructor
  · rintro (h | ⟨x, hx, e⟩)
    · cases hp : hget hs procT with
      | none => rw [hp] at h; cases h
      | some u =>
        rw [hp] at h
        simp at h
        obtain ⟨rfl, rfl⟩ := h
        exact hp
    · rw [hsort_mem, hkeys_mem, ← hget_isSome] at hx
      obtain ⟨u, hu⟩ := Option.isSome_iff_exists.1 hx.1
      have e1 : x = k := congrArg Prod.fst e
      have e2 : (hget hs x).getD [] = v := congrArg Prod.snd e
      show hget hs k = some v
      rw [← e2, ← e1, hu]; rfl
  · intro h
    by_cases e : k = procT
    · subst e
      left
      have h' : hget hs procT = some v := h
      rw [h']; simp
    · right
      refine ⟨k, ?_, ?_⟩
      · rw [hsort_mem, hkeys_mem, ← hget_isSome]
        exact ⟨by rw [show hget hs k = some v from h]; rfl, e⟩
      · rw [show hget hs k = some v from h]; rfl
theorem wlist_keys_nodup (hs : Hdrs) : ((wlist hs).map (·.1)).Nodup := by
  unfold wlist
  rw [List.map_append, List.map_map]
  have e : ((fun x : List UInt8 × List UInt8 => x.1) ∘ fun k => (k, (hget hs k).getD [])) = id := rfl
  rw [e, List.map_id]
  refine List.nodup_append.2 ⟨?_, hsort_nodup (hkeys_nodup hs), ?_⟩
  · cases hget hs procT <;> simp
  · intro a ha b hb e2
    subst e2
    cases hp : hget hs procT with
    | none => rw [hp] at ha; cases ha
    | some u =>
      rw [hp] at ha
      simp at ha
      exact (hsort_mem.1 hb).2 ha
theorem nodup_of_map {hs : Hdrs} (h : (hs.map (·.1)).Nodup) : hs.Nodup := by
  induction hs with
  | nil => exact List.nodup_nil
  | cons p l ih =>
    rw [List.map_cons, List.nodup_cons] at h
    exact List.nodup_cons.2 ⟨fun e => h.1 (List.mem_map.2 ⟨p, e, rfl⟩), ih h.2⟩
theorem wlist_perm {hs : Hdrs} (h : (hs.map (·.1)).Nodup) : (wlist hs).Perm hs := by
  refine (List.perm_ext_iff_of_nodup (nodup_of_map (wlist_keys_nodup hs)) (nodup_of_map h)).2 fun p => ?_
  rw [wlist_mem]
  exact ⟨fun e => hget_mem e, fun e => hget_of_nodup h e⟩
theorem wlist_nil {hs : Hdrs} : wlist hs = [] ↔ hs = [] := by
  constructor
  · intro h
    cases hs with
    | nil => rfl
    | cons p l =>
      have h1 : (hget (p :: l) p.1).isSome = true := hget_isSome.2 (by simp)
      obtain ⟨v, hv⟩ := Option.isSome_iff_exists.1 h1
      have : (p.1, v) ∈ wlist (p :: l) := wlist_mem.2 hv
      rw [h] at this; cases this
  · rintro rfl
    unfold wlist hsort hkeys hget
    simp
/-- The package writes what the reference writes. -/
theorem pemOut_written (ty : List UInt8) (hs : Hdrs) (b : List UInt8) : pemOut ty hs b = writtenP ty (wlist hs) b := by
  unfold pemOut writtenP headOut
  have e : (wlist hs).flatMap (fun p => headLine p.1 p.2) = procOut hs ++ hlines hs (hsort (hkeys hs)) := by
    unfold wlist procOut hlines
    rw [List.flatMap_append, List.flatMap_map]
    cases hget hs procT <;> simp
  rw [e]
  by_cases h : hs = []
  · subst h
    rw [if_pos rfl, if_pos (wlist_nil.2 rfl)]
    have : procOut [] ++ hlines [] (hsort (hkeys [])) = [] := by unfold procOut hlines hsort hkeys hget; simp
    rw [this]
    simp
  · rw [if_neg h, if_neg (fun e => h (wlist_nil.1 e))]
    simp
/-- Proc-Type is written first. -/
theorem wlist_head {hs : Hdrs} {v : List UInt8} (h : hget hs procT = some v) : ∃ r, wlist hs = (procT, v) :: r := by
  unfold wlist
  rw [h]; exact ⟨_, rfl⟩

/-! ### Plain strings and proper blocks -/
def plainC (c : UInt8) : Bool := (decide (97 ≤ c.toNat) && decide (c.toNat ≤ 122)) || (decide (65 ≤ c.toNat) && decide (c.toNat ≤ 90)) || (decide (48 ≤ c.toNat) && decide (c.toNat ≤ 57)) || decide (c.toNat = 32) || decide (c.toNat = 46) || decide (c.toNat = 44) || decide (c.toNat = 47) || decide (c.toNat = 95)
def plainS (l : List UInt8) : Bool := l.all plainC && !l.isEmpty && !decide (l.head? = some 32) && !decide (l.getLast? = some 32)
/-- The first j headers are plain and have different keys. -/
def hdrsOK (hs : Hdrs) : Bool := hs.all (fun p => plainS p.1 && plainS p.2) && decide (hs.map (·.1)).Nodup
def properB (ty : List UInt8) (hs : Hdrs) (b : List UInt8) : Bool := plainS ty && decide (hs.length ≤ 50) && decide (b.length ≤ 5000) && hdrsOK hs

theorem plain_no {l : List UInt8} (h : plainS l = true) {c : UInt8} (hc : c ∈ l) : c ≠ 10 ∧ c ≠ 58 ∧ c ≠ 45 ∧ c ≠ 13 ∧ c ≠ 9 ∧ c.toNat < 128 := by
  unfold plainS at h
  simp only [Bool.and_eq_true, List.all_eq_true] at h
  have := h.1.1.1 c hc
  unfold plainC at this
  simp only [Bool.or_eq_true, Bool.and_eq_true, decide_eq_true_eq] at this
  refine ⟨?_, ?_, ?_, ?_, ?_, by omega⟩ <;> (rintro rfl; revert this; decide)

/-- As many, and each of the one is among the other. -/
def sameH (a b : Hdrs) : Bool := decide (a.length = b.length) && a.all fun x => decide (x ∈ b)
theorem sameH_perm {a b : Hdrs} (h : a.Perm b) : sameH a b = true := by
  unfold sameH
  rw [Bool.and_eq_true, List.all_eq_true]
  exact ⟨by simpa using h.length_eq, fun x hx => by simpa using h.mem_iff.1 hx⟩
end Go.Proofs.YtpjehmblndjknaaDoor
