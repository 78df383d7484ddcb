/-
  Headers as a list of pairs, of two with one key the later one; what a map of strings that is filled from them reads as; a block as it is written. No program is named here.
-/
import Derived.Test.YtpjehmblndjknaaDoorB64
import Derived.Maps.Ext
import Derived.Maps.StringElems
import Derived.Sort.KeysCollected
namespace Go.Proofs.YtpjehmblndjknaaDoor
open Go.RowKit Go.Maps
set_option linter.unusedSimpArgs false
set_option linter.unusedVariables false

abbrev Hdrs := List (List UInt8 × List UInt8)
/-- A header as it is written. -/
def headLine (k v : List UInt8) : List UInt8 := k ++ 58 :: 32 :: (v ++ [10])

/-- What stands at key k: of two headers with one key the later one. -/
def hget (hs : Hdrs) (k : List UInt8) : Option (List UInt8) := hs.foldl (fun r p => if p.1 = k then some p.2 else r) none
theorem hget_nil (k : List UInt8) : hget [] k = none := rfl
theorem hget_snoc (hs : Hdrs) (p : List UInt8 × List UInt8) (k : List UInt8) : hget (hs ++ [p]) k = if p.1 = k then some p.2 else hget hs k := by
  unfold hget; rw [List.foldl_append]; rfl
theorem hget_foldl (hs : Hdrs) (k : List UInt8) : ∀ r, hs.foldl (fun r (p : List UInt8 × List UInt8) => if p.1 = k then some p.2 else r) r = (hget hs k).or r := by
  unfold hget
  induction hs with
  | nil => intro r; simp
  | cons p l ih =>
    intro r
    rw [List.foldl_cons, List.foldl_cons, ih, ih (if p.1 = k then some p.2 else none)]
    cases hl : l.foldl (fun r (p : List UInt8 × List UInt8) => if p.1 = k then some p.2 else r) none <;> simp
    split <;> simp
theorem hget_cons (hs : Hdrs) (p : List UInt8 × List UInt8) (k : List UInt8) : hget (p :: hs) k = (hget hs k).or (if p.1 = k then some p.2 else none) := by
  show (p :: hs).foldl _ none = _
  rw [List.foldl_cons, hget_foldl]
theorem hget_isSome {hs : Hdrs} {k : List UInt8} : (hget hs k).isSome = true ↔ k ∈ hs.map (·.1) := by
  induction hs with
  | nil => simp [hget_nil]
  | cons p l ih =>
    rw [hget_cons, List.map_cons, List.mem_cons]
    constructor
    · intro h
      by_cases e : p.1 = k
      · exact .inl e.symm
      · rw [if_neg e, Option.or_none] at h; exact .inr (ih.1 h)
    · rintro (rfl | h)
      · simp
      · have := ih.2 h
        cases hx : hget l k with
        | none => rw [hx] at this; cases this
        | some v => simp
theorem hget_mem {hs : Hdrs} {k v : List UInt8} (h : hget hs k = some v) : (k, v) ∈ hs := by
  induction hs with
  | nil => cases h
  | cons p l ih =>
    rw [hget_cons] at h
    cases hx : hget l k with
    | some u =>
      rw [hx] at h
      simp at h
      subst h
      exact List.mem_cons_of_mem _ (ih hx)
    | none =>
      rw [hx] at h
      simp at h
      obtain ⟨e1, e2⟩ := h
      subst e1; subst e2
      exact List.mem_cons_self
/-- Where no key stands twice, each header is found. -/
theorem hget_of_nodup {hs : Hdrs} (hn : (hs.map (·.1)).Nodup) {k v : List UInt8} (h : (k, v) ∈ hs) : hget hs k = some v := by
  induction hs with
  | nil => cases h
  | cons p l ih =>
    rw [List.map_cons, List.nodup_cons] at hn
    rw [hget_cons]
    rcases List.mem_cons.1 h with e | h'
    · subst e
      have hx : hget l k = none := by
        cases hx : hget l k with
        | none => rfl
        | some u => exact absurd (hget_isSome.1 (by rw [hx]; rfl)) hn.1
      rw [hx]; simp
    · rw [ih hn.2 h']; simp

/-- The keys, each once. -/
def hkeys (hs : Hdrs) : List (List UInt8) := hs.foldr (fun p r => if p.1 ∈ r then r else p.1 :: r) []
theorem hkeys_mem {hs : Hdrs} {k : List UInt8} : k ∈ hkeys hs ↔ k ∈ hs.map (·.1) := by
  induction hs with
  | nil => simp [hkeys]
  | cons p l ih =>
    show k ∈ (if p.1 ∈ hkeys l then hkeys l else p.1 :: hkeys l) ↔ _
    rw [List.map_cons, List.mem_cons]
    by_cases e : p.1 ∈ hkeys l
    · rw [if_pos e, ih]
      exact ⟨.inr, fun h => h.elim (fun h => by subst h; exact ih.1 e) id⟩
    · rw [if_neg e, List.mem_cons, ih]
theorem hkeys_nodup (hs : Hdrs) : (hkeys hs).Nodup := by
  induction hs with
  | nil => exact List.nodup_nil
  | cons p l ih =>
    show (if p.1 ∈ hkeys l then hkeys l else p.1 :: hkeys l).Nodup
    by_cases e : p.1 ∈ hkeys l
    · rw [if_pos e]; exact ih
    · rw [if_neg e]; exact List.nodup_cons.2 ⟨e, ih⟩
theorem hkeys_of_nodup {hs : Hdrs} (hn : (hs.map (·.1)).Nodup) : hkeys hs = hs.map (·.1) := by
  induction hs with
  | nil => rfl
  | cons p l ih =>
    rw [List.map_cons, List.nodup_cons] at hn
    show (if p.1 ∈ hkeys l then hkeys l else p.1 :: hkeys l) = _
    rw [if_neg (fun h => hn.1 (hkeys_mem.1 h)), ih hn.2, List.map_cons]
theorem hkeys_nil_iff {hs : Hdrs} : hkeys hs = [] ↔ hs = [] := by
  cases hs with
  | nil => exact ⟨fun _ => rfl, fun _ => rfl⟩
  | cons p l =>
    refine ⟨fun h => ?_, fun h => by cases h⟩
    have : p.1 ∈ hkeys (p :: l) := hkeys_mem.2 (by simp)
    rw [h] at this
    cases this
theorem hkeys_len (hs : Hdrs) : (hkeys hs).length ≤ hs.length := by
  induction hs with
  | nil => exact Nat.le_refl _
  | cons p l ih =>
    show (if p.1 ∈ hkeys l then hkeys l else p.1 :: hkeys l).length ≤ _
    rw [List.length_cons]
    split
    · omega
    · rw [List.length_cons]; omega

/-- What a map filled from headers reads as. -/
def MapIs (D : DataW Unit) (hs : Hdrs) : Prop := Tidy D ∧ (∀ k, has D (.string k) = (hget hs k).isSome) ∧ (∀ k v, hget hs k = some v → ∀ z, D.atKey (.string k) z = .lit (.string v)) ∧ Maps.size D = (hkeys hs).length

theorem mapIs_empty : MapIs (.map []) [] := ⟨tidy_empty, fun _ => rfl, (fun k v h => absurd h (by simp [hget_nil])), rfl⟩
theorem str_key (k : List UInt8) : WideAt.IsKeyLit (.string k) := trivial
theorem hkeys_snoc_len (hs : Hdrs) (k v : List UInt8) : (hkeys (hs ++ [(k, v)])).length = if (hget hs k).isSome then (hkeys hs).length else (hkeys hs).length + 1 := by
  by_cases h : (hget hs k).isSome = true
  · rw [if_pos h]
    refine List.Perm.length_eq ((List.perm_ext_iff_of_nodup (hkeys_nodup _) (hkeys_nodup _)).2 fun x => ?_)
    rw [hkeys_mem, hkeys_mem, List.map_append, List.mem_append]
    exact ⟨fun e => e.elim id (fun e => by simp at e; subst e; exact hget_isSome.1 h), .inl⟩
  · rw [if_neg h]
    have hk : k ∉ hkeys hs := fun e => h (hget_isSome.2 (hkeys_mem.1 e))
    have := List.Perm.length_eq ((List.perm_ext_iff_of_nodup (hkeys_nodup (hs ++ [(k, v)])) (List.nodup_cons.2 ⟨hk, hkeys_nodup hs⟩)).2 fun x => by
      rw [hkeys_mem, List.mem_cons, hkeys_mem, List.map_append, List.mem_append]
      simp only [List.map_cons, List.map_nil, List.mem_singleton]
      exact Or.comm)
    rw [this, List.length_cons]
theorem MapIs.put {D : DataW Unit} {hs : Hdrs} (h : MapIs D hs) (k v : List UInt8) : MapIs (D.put (.string k) (.lit (.string v))) (hs ++ [(k, v)]) := by
  obtain ⟨h1, h2, h3, h4⟩ := h
  refine ⟨h1.put (str_key k) _, fun x => ?_, fun x u hx z => ?_, ?_⟩
  · rw [hget_snoc]
    by_cases e : k = x
    · subst e; rw [if_pos rfl, has_put_same h1.isMap (str_key k)]; rfl
    · rw [if_neg e, has_put_other (by simpa using fun h => e h.symm), h2]
  · rw [hget_snoc] at hx
    by_cases e : k = x
    · subst e
      rw [if_pos rfl] at hx
      rw [atKey_put_same h1.isMap (str_key k), ← Option.some.inj hx]
    · rw [if_neg e] at hx
      rw [atKey_put_other (by simpa using fun h => e h.symm)]
      exact h3 x u hx z
  · rw [size_put h1, h2, h4, hkeys_snoc_len]

/-- What a range has collected when nothing is left. -/
theorem collected_keys {D : DataW Unit} {hs : Hdrs} (h : MapIs D hs) {left : Lit → Bool} {ss : List (List UInt8)} (hC : Collected D left ss) (hl : ∀ kl, left kl = false) : ss.Perm (hkeys hs) := by
  refine (List.perm_ext_iff_of_nodup hC.1 (hkeys_nodup hs)).2 fun x => ?_
  rw [hC.2 x, hl, h.2.1 x, hkeys_mem, ← hget_isSome]
  simp
theorem collected_at {D : DataW Unit} {hs : Hdrs} (h : MapIs D hs) {x : List UInt8} {y : DataW Unit} (hat : ∀ zd, D.atKey (.string x) zd = y) : ∃ v, hget hs x = some v ∧ y = .lit (.string v) := by
  have h1 := has_true_of_atKey hat
  rw [h.2.1 x] at h1
  obtain ⟨v, hv⟩ := Option.isSome_iff_exists.1 h1
  exact ⟨v, hv, by rw [← hat .nil, h.2.2.1 x v hv]⟩

/-! ### A block as it is written -/
def procT : List UInt8 := [80, 114, 111, 99, 45, 84, 121, 112, 101]
def begP : List UInt8 := [45, 45, 45, 45, 45, 66, 69, 71, 73, 78, 32]
def endP : List UInt8 := [45, 45, 45, 45, 45, 69, 78, 68, 32]
def dashP : List UInt8 := [45, 45, 45, 45, 45]
/-- The keys but Proc-Type, sorted. -/
def hsort (ss : List (List UInt8)) : List (List UInt8) := (ss.filter fun k => !decide (k = procT)).mergeSort leB
def hlines (hs : Hdrs) (ks : List (List UInt8)) : List UInt8 := ks.flatMap fun k => headLine k ((hget hs k).getD [])
def procOut (hs : Hdrs) : List UInt8 := match hget hs procT with | some v => headLine procT v | none => []
/-- The headers, and the empty line behind them. -/
def headOut (hs : Hdrs) : List UInt8 := if hs = [] then [] else procOut hs ++ hlines hs (hsort (hkeys hs)) ++ [10]
def pemOut (ty : List UInt8) (hs : Hdrs) (b : List UInt8) : List UInt8 :=
  begP ++ (ty ++ (dashP ++ [10])) ++ headOut hs ++ lines64 (b64 b) ++ endP ++ (ty ++ (dashP ++ [10]))

theorem hsort_perm {a b : List (List UInt8)} (h : a.Perm b) : hsort a = hsort b := mergeSort_of_perm (h.filter _)
theorem hlines_snoc (hs : Hdrs) (ks : List (List UInt8)) (k : List UInt8) : hlines hs (ks ++ [k]) = hlines hs ks ++ headLine k ((hget hs k).getD []) := by
  unfold hlines; rw [List.flatMap_append]; simp
theorem hlines_take_succ {hs : Hdrs} {ks : List (List UInt8)} {j : Nat} {k : List UInt8} (h : ks[j]? = some k) : hlines hs (ks.take (j + 1)) = hlines hs (ks.take j) ++ headLine k ((hget hs k).getD []) := by
  rw [List.take_add_one, h]; exact hlines_snoc _ _ _
theorem hlines_prefix (hs : Hdrs) (ks : List (List UInt8)) (j : Nat) : ∃ r, hlines hs ks = hlines hs (ks.take j) ++ r := by
  refine ⟨hlines hs (ks.drop j), ?_⟩
  unfold hlines; rw [← List.flatMap_append, List.take_append_drop]

/-- No key with a colon. -/
def anyColon (hs : Hdrs) : Bool := hs.any fun p => decide ((58 : UInt8) ∈ p.1)
end Go.Proofs.YtpjehmblndjknaaDoor
