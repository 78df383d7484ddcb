/-
  Plain laws: base64 read back; what Decode finds in a text; blocks in texts. No program is named here.
-/
import Derived.Test.YtpjehmblndjknaaDoorForm3
import Derived.Test.YtpjehmblndjknaaDoorNewEnc
import Derived.Test.YtpjehmblndjknaaDoorSolid
import Derived.Lib.IndexLaws
import Derived.Lib.LastIndexLaws
import Derived.Lib.Space
namespace Go.Proofs.YtpjehmblndjknaaDoor
open Go.RowKit Go.Maps
set_option linter.unusedSimpArgs false
set_option linter.unusedVariables false

/-! ### base64 read back -/
/-- Line feeds and carriage returns. -/
def isNl (c : UInt8) : Bool := c == 10 || c == 13
/-- Without them. -/
def cl (l : List UInt8) : List UInt8 := l.filter fun c => !isNl c
/-- What a character stands for; 255: nothing. -/
def dmv (c : UInt8) : Nat := dmk 64 c.toNat
def isA (c : UInt8) : Bool := dmv c != 255
def qv (a b c d : Nat) : Nat := a * 262144 + b * 4096 + c * 64 + d
def q3 (v : Nat) : List UInt8 := [UInt8.ofNat (v / 65536 % 256), UInt8.ofNat (v / 256 % 256), UInt8.ofNat (v % 256)]
/-- base64 with padding read back; none: it is no base64. -/
def d64 : List UInt8 → Option (List UInt8)
  | [] => some []
  | a :: b :: c :: d :: r =>
    if isA a && isA b then
      if isA c then
        if isA d then (d64 r).map (q3 (qv (dmv a) (dmv b) (dmv c) (dmv d)) ++ ·)
        else if d = 61 ∧ r = [] then some ((q3 (qv (dmv a) (dmv b) (dmv c) 0)).take 2) else none
      else if c = 61 ∧ d = 61 ∧ r = [] then some ((q3 (qv (dmv a) (dmv b) 0 0)).take 1) else none
    else none
  | _ => none

theorem dmv_le (c : UInt8) : dmv c ≤ 255 := dmk_le _ 64 (Nat.le_refl _)
theorem dmk_lt (c : Nat) : ∀ k, k ≤ 64 → dmk k c = 255 ∨ dmk k c < k
  | 0, _ => .inl rfl
  | k + 1, h => by
    unfold dmk
    split
    · right; omega
    · rcases dmk_lt c k (by omega) with h | h
      · exact .inl h
      · right; omega
theorem dmv_lt {c : UInt8} (h : isA c = true) : dmv c < 64 := by
  rcases dmk_lt c.toNat 64 (Nat.le_refl _) with h2 | h2
  · unfold isA dmv at h; rw [h2] at h; exact absurd h (by decide)
  · exact h2
theorem dmv_aq0 : ∀ k, k < 64 → dmv (aq k) = k := by decide +kernel
theorem aq_mod' (n : Nat) : aq (n % 64) = aq n := by unfold aq; rw [Nat.mod_mod]
theorem dmv_aq (n : Nat) : dmv (aq n) = n % 64 := by rw [← aq_mod']; exact dmv_aq0 _ (Nat.mod_lt _ (by decide))
theorem isA_aq (n : Nat) : isA (aq n) = true := by
  unfold isA; rw [dmv_aq]
  have : n % 64 < 64 := Nat.mod_lt _ (by decide)
  simp; omega
theorem isA_61 : isA 61 = false := by decide +kernel
theorem isA_33 : isA 33 = false := by decide +kernel
theorem q3_bytes (a b c : UInt8) (v : Nat) (h : v = a.toNat * 65536 + b.toNat * 256 + c.toNat) : q3 v = [a, b, c] := by
  have ha := a.toNat_lt; have hb := b.toNat_lt; have hc := c.toNat_lt
  unfold q3
  have h1 : v / 65536 % 256 = a.toNat := by omega
  have h2 : v / 256 % 256 = b.toNat := by omega
  have h3 : v % 256 = c.toNat := by omega
  rw [h1, h2, h3]; simp
theorem d64_b64 (n : Nat) : ∀ l : List UInt8, l.length ≤ n → d64 (b64 l) = some l := by
  induction n with
  | zero =>
    intro l h
    obtain rfl : l = [] := List.eq_nil_of_length_eq_zero (by omega)
    rfl
  | succ n ih =>
    intro l h
    match l, h with
    | [], _ => rfl
    | [a], _ =>
      have ha := a.toNat_lt
      rw [b64, d64, isA_aq, isA_aq, isA_61]
      simp only [Bool.and_self, if_true, Bool.false_eq_true, if_false, and_self]
      rw [dmv_aq, dmv_aq, q3_bytes a 0 0 _ (by unfold qv; show _ = _ * 65536 + 0 * 256 + 0; omega)]
      rfl
    | [a, b], _ =>
      have ha := a.toNat_lt; have hb := b.toNat_lt
      rw [b64, d64, isA_aq, isA_aq, isA_aq, isA_61]
      simp only [Bool.and_self, if_true, Bool.false_eq_true, if_false, and_self]
      rw [dmv_aq, dmv_aq, dmv_aq, q3_bytes a b 0 _ (by unfold qv; show _ = _ * 65536 + _ * 256 + 0; omega)]
      rfl
    | a :: b :: c :: r, h =>
      have ha := a.toNat_lt; have hb := b.toNat_lt; have hc := c.toNat_lt
      rw [b64, d64, isA_aq, isA_aq, isA_aq, isA_aq]
      simp only [Bool.and_self, if_true]
      rw [ih r (by simp at h; omega), dmv_aq, dmv_aq, dmv_aq, dmv_aq, q3_bytes a b c _ (by unfold qv; omega)]
      rfl
/-- Of what is base64 each character is one of the 64, or '='. -/
theorem d64_mem (n : Nat) : ∀ (l out : List UInt8), l.length ≤ n → d64 l = some out → ∀ c ∈ l, isA c = true ∨ c = 61 := by
  induction n with
  | zero =>
    intro l out h _ c hc
    obtain rfl : l = [] := List.eq_nil_of_length_eq_zero (by omega)
    cases hc
  | succ n ih =>
    intro l out h hd x hx
    match l, h with
    | [], _ => cases hx
    | [_], _ => cases hd
    | [_, _], _ => cases hd
    | [_, _, _], _ => cases hd
    | a :: b :: c :: d :: r, h =>
      rw [d64] at hd
      split at hd
      · rename_i hab
        rw [Bool.and_eq_true] at hab
        split at hd
        · rename_i hc
          split at hd
          · rename_i hdd
            obtain ⟨o2, ho, _⟩ := Option.map_eq_some_iff.1 hd
            simp only [List.mem_cons] at hx
            rcases hx with rfl | rfl | rfl | rfl | hx
            · exact .inl hab.1
            · exact .inl hab.2
            · exact .inl hc
            · exact .inl hdd
            · exact ih r o2 (by simp at h; omega) ho x hx
          · split at hd
            · rename_i he
              obtain ⟨rfl, rfl⟩ := he
              simp only [List.mem_cons, List.not_mem_nil, or_false] at hx
              rcases hx with rfl | rfl | rfl | rfl
              · exact .inl hab.1
              · exact .inl hab.2
              · exact .inl hc
              · exact .inr rfl
            · cases hd
        · split at hd
          · rename_i he
            obtain ⟨rfl, rfl, rfl⟩ := he
            simp only [List.mem_cons, List.not_mem_nil, or_false] at hx
            rcases hx with rfl | rfl | rfl | rfl
            · exact .inl hab.1
            · exact .inl hab.2
            · exact .inr rfl
            · exact .inr rfl
          · cases hd
      · cases hd
theorem d64_none {l : List UInt8} {c : UInt8} (hc : c ∈ l) (h1 : isA c = false) (h2 : c ≠ 61) : d64 l = none := by
  cases h : d64 l with
  | none => rfl
  | some out =>
    rcases d64_mem _ l out (Nat.le_refl _) h c hc with h3 | h3
    · rw [h1] at h3; cases h3
    · exact absurd h3 h2
theorem q3_len (v : Nat) : (q3 v).length = 3 := rfl
theorem cl_append (a b : List UInt8) : cl (a ++ b) = cl a ++ cl b := List.filter_append ..
theorem cl_of {l : List UInt8} (h : ∀ c ∈ l, isNl c = false) : cl l = l := by
  unfold cl; rw [List.filter_eq_self]; intro c hc; rw [h c hc]; rfl
theorem cl_nl (l : List UInt8) : cl (10 :: l) = cl l := rfl
theorem cl_cr (l : List UInt8) : cl (13 :: l) = cl l := rfl
theorem cl_le (l : List UInt8) : (cl l).length ≤ l.length := List.length_filter_le _ _

/-- What a piece trimmed is known to be. -/
def Trims (l l' : List UInt8) : Prop := l'.length ≤ l.length ∧ ((∀ c ∈ l, c.toNat < 128) → l' = Lib.trimSpace l)

/-! ### What Decode finds -/
def endN : List UInt8 := 10 :: endP
/-- The headers from r on, and where they end; none: the data end first. -/
inductive HdrL : List UInt8 → Hdrs → Option (List UInt8) → Prop
  | gone : HdrL [] [] none
  | stop {r : List UInt8} : r ≠ [] → (58 : UInt8) ∉ lineP r → HdrL r [] (some r)
  | more {r k v : List UInt8} {hs : Hdrs} {o : Option (List UInt8)} : r ≠ [] → (58 : UInt8) ∈ lineP r → Trims ((lineP r).take (colAt (lineP r))) k → Trims ((lineP r).drop (colAt (lineP r) + 1)) v → HdrL (restP r) hs o → HdrL r ((k, v) :: hs) o
/-- A block that is found, and what follows it. -/
structure Res where
  ty : List UInt8
  hs : Hdrs
  by_ : List UInt8
  rest : List UInt8
inductive Out where
  | gone
  | next
  | done (r : Res)
/-- Behind the headers: s the data from where the search began, e where its END line begins, i where the headers end. -/
def tailF (s : List UInt8) (e i : Nat) (ty : List UInt8) (hs : Hdrs) : Out :=
  if hs ≠ [] ∧ e < i then (if e + 10 < i then .gone else .next)
  else if (s.drop (e + 10)).length < ty.length + 5 then .next
  else if Lib.hasPrefix ((s.drop (e + 10)).take (ty.length + 5)) ty = true ∧ Lib.hasSuffix ((s.drop (e + 10)).take (ty.length + 5)) dashP = true ∧ lineP ((s.drop (e + 10)).drop (ty.length + 5)) = [] then
    match d64 (cl (solid ((s.drop i).take (e - i)))) with
    | none => .next
    | some b => .done ⟨ty, hs, b, restP (s.drop (e + 9))⟩
  else .next
/-- What becomes of the END line at e. -/
def StepR (s : List UInt8) (e : Nat) (o : Out) : Prop :=
  (Lib.lastIndex (s.take e) begP = -1 ∧ o = .next) ∨
  ∃ b : Nat, Lib.lastIndex (s.take e) begP = (b : Int) ∧ b + 11 ≤ e ∧
    ((0 < b ∧ s[b - 1]? ≠ some 10 ∧ o = .next) ∨
     ((0 < b → s[b - 1]? = some 10) ∧
      ((Lib.hasSuffix (lineP (s.drop (b + 11))) dashP = false ∧ o = .next) ∨
       (Lib.hasSuffix (lineP (s.drop (b + 11))) dashP = true ∧
        ((∃ hs, HdrL (restP (s.drop (b + 11))) hs none ∧ o = .gone) ∨
         (∃ hs i, HdrL (restP (s.drop (b + 11))) hs (some (s.drop i)) ∧ b + 11 + (lineP (s.drop (b + 11))).length ≤ i ∧ i ≤ s.length ∧ o = tailF s e i ((lineP (s.drop (b + 11))).take ((lineP (s.drop (b + 11))).length - 5)) hs))))))
/-- What Decode finds from s on. -/
inductive Dec : List UInt8 → Option Res → Prop
  | nope {s : List UInt8} : Lib.index s endN = -1 → Dec s none
  | gone {s : List UInt8} {e : Nat} : Lib.index s endN = (e : Int) → StepR s e .gone → Dec s none
  | next {s : List UInt8} {e : Nat} {o : Option Res} : Lib.index s endN = (e : Int) → StepR s e .next → Dec (s.drop (e + 10)) o → Dec s o
  | done {s : List UInt8} {e : Nat} {r : Res} : Lib.index s endN = (e : Int) → StepR s e (.done r) → Dec s (some r)

/-! ### Bounds -/
theorem lineP_le (l : List UInt8) : (lineP l).length ≤ consP l := by
  unfold lineP consP
  split
  · have h1 := trimR_le (dropCR (preNL l))
    have h2 : (dropCR (preNL l)).length ≤ (preNL l).length := by unfold dropCR; split <;> simp
    omega
  · exact trimR_le l
theorem consP_le (l : List UInt8) : consP l ≤ l.length := by
  unfold consP
  split
  · rename_i h; have := preNL_lt h; omega
  · exact Nat.le_refl _
theorem restP_drop (l : List UInt8) : restP l = l.drop (consP l) := by
  unfold restP consP
  split
  · rfl
  · rw [List.drop_length]
theorem consP_pos {l : List UInt8} (h : l ≠ []) : 0 < consP l := by
  unfold consP
  split
  · omega
  · exact List.length_pos_iff.2 h
theorem colAt_mem {l : List UInt8} (h : (58 : UInt8) ∈ l) : colAt l < l.length := by
  rcases Nat.lt_or_ge (colAt l) l.length with h1 | h1
  · exact h1
  · exfalso
    obtain ⟨j, hj, he⟩ := List.getElem_of_mem h
    obtain ⟨c, hc1, hc2⟩ := colAt_before (l := l) (j := j) (by omega)
    rw [List.getElem?_eq_getElem hj, he] at hc1
    exact hc2 (Option.some.inj hc1).symm

/-- How much the headers take. -/
def bulk : Hdrs → Nat
  | [] => 0
  | p :: r => p.1.length + p.2.length + 1 + bulk r
theorem bulk_len (hs : Hdrs) : hs.length ≤ bulk hs := by
  induction hs with
  | nil => exact Nat.le_refl _
  | cons p r ih => rw [bulk, List.length_cons]; omega
theorem bulk_mem {hs : Hdrs} {p : List UInt8 × List UInt8} (h : p ∈ hs) : p.1.length + p.2.length ≤ bulk hs := by
  induction hs with
  | nil => cases h
  | cons q r ih =>
    rw [bulk]
    rcases List.mem_cons.1 h with rfl | h
    · omega
    · have := ih h; omega
theorem HdrL.bulk {r : List UInt8} {hs : Hdrs} {o : Option (List UInt8)} (h : HdrL r hs o) : bulk hs + (o.elim 0 List.length) ≤ r.length := by
  induction h with
  | gone => exact Nat.le_refl _
  | stop _ _ => simp [YtpjehmblndjknaaDoor.bulk]
  | @more r k v hs o hne hc hk hv _ ih =>
    have h1 := colAt_mem hc
    have h2 := lineP_le r
    have h3 := consP_le r
    rw [restP_drop, List.length_drop] at ih
    have hk1 := hk.1
    have hv1 := hv.1
    rw [List.length_take] at hk1
    rw [List.length_drop] at hv1
    rw [YtpjehmblndjknaaDoor.bulk]
    show k.length + v.length + 1 + YtpjehmblndjknaaDoor.bulk hs + _ ≤ _
    omega
theorem d64_len (n : Nat) : ∀ (l out : List UInt8), l.length ≤ n → d64 l = some out → out.length ≤ l.length := by
  induction n with
  | zero =>
    intro l out h hd
    obtain rfl : l = [] := List.eq_nil_of_length_eq_zero (by omega)
    cases hd; exact Nat.le_refl _
  | succ n ih =>
    intro l out h hd
    match l, h with
    | [], _ => cases hd; exact Nat.le_refl _
    | [_], _ => cases hd
    | [_, _], _ => cases hd
    | [_, _, _], _ => cases hd
    | a :: b :: c :: d :: r, h =>
      rw [d64] at hd
      split at hd
      · split at hd
        · split at hd
          · obtain ⟨o2, ho, rfl⟩ := Option.map_eq_some_iff.1 hd
            have := ih r o2 (by simp at h; omega) ho
            rw [List.length_append, q3_len]; simp; omega
          · split at hd
            · cases hd; simp [q3]
            · cases hd
        · split at hd
          · cases hd; simp [q3]
          · cases hd
      · cases hd
/-- The bounds of what is found. -/
def ResOK (s : List UInt8) (r : Res) : Prop := r.ty.length ≤ s.length ∧ bulk r.hs ≤ s.length ∧ r.by_.length ≤ s.length ∧ r.rest.length < s.length ∧ ∃ n, r.rest = s.drop n
theorem tailF_done {s : List UInt8} {e i : Nat} {ty : List UInt8} {hs : Hdrs} {r : Res} (h : tailF s e i ty hs = .done r) : r.ty = ty ∧ r.hs = hs ∧ r.rest = restP (s.drop (e + 9)) ∧ d64 (cl (solid ((s.drop i).take (e - i)))) = some r.by_ := by
  unfold tailF at h
  split at h
  · split at h <;> cases h
  · split at h
    · cases h
    · split at h
      · split at h
        · cases h
        · rename_i b hb
          cases h
          exact ⟨rfl, rfl, rfl, hb⟩
      · cases h
theorem StepR.ok {s : List UInt8} {e : Nat} {r : Res} (he : e < s.length) (h : StepR s e (.done r)) : ResOK s r := by
  rcases h with ⟨_, h⟩ | ⟨b, hb, hbe, h⟩
  · cases h
  · rcases h with ⟨_, _, h⟩ | ⟨_, h⟩
    · cases h
    · rcases h with ⟨_, h⟩ | ⟨_, h⟩
      · cases h
      · rcases h with ⟨_, _, h⟩ | ⟨hs, i, hh, hbi, hi, h⟩
        · cases h
        · obtain ⟨h1, h2, h3, h4⟩ := tailF_done h.symm
          have hbk := hh.bulk
          have e1 : (lineP (s.drop (b + 11))).length ≤ s.length - (b + 11) := by
            have a1 := lineP_le (s.drop (b + 11))
            have a2 := consP_le (s.drop (b + 11))
            rw [List.length_drop] at a2
            omega
          refine ⟨?_, ?_, ?_, ?_, ?_⟩
          · rw [h1, List.length_take]; omega
          · rw [h2]
            rw [restP_drop, List.length_drop, List.length_drop] at hbk
            omega
          · have b1 := d64_len _ _ _ (Nat.le_refl _) h4
            have b2 := cl_le (solid ((s.drop i).take (e - i)))
            have b3 := solid_le ((s.drop i).take (e - i))
            rw [List.length_take, List.length_drop] at b3
            omega
          · rw [h3, restP_drop, List.length_drop, List.length_drop]
            omega
          · exact ⟨_, by rw [h3, restP_drop, List.drop_drop]⟩
theorem index_lt {s : List UInt8} {e : Nat} (h : Lib.index s endN = (e : Int)) : e + 10 ≤ s.length := by
  have key : ∀ (s : List UInt8) (e : Nat), Lib.index s endN = (e : Int) → e + 10 ≤ s.length := by
    intro s
    induction s with
    | nil => intro e h; have h' : (-1 : Int) = (e : Int) := h; omega
    | cons c l ih =>
      intro e h
      unfold Lib.index at h
      split at h
      · rename_i hp
        have h1 := (List.isPrefixOf_iff_prefix.1 hp).length_le
        have h2 : endN.length = 10 := rfl
        omega
      · split at h
        · have h' : (-1 : Int) = (e : Int) := h; omega
        · rename_i hn
          have hge := Lib.index_ge l endN
          obtain ⟨e', he'⟩ : ∃ e' : Nat, Lib.index l endN = (e' : Int) := by
            refine ⟨(Lib.index l endN).toNat, ?_⟩
            have : Lib.index l endN ≠ -1 := by simpa using hn
            omega
          have := ih e' he'
          rw [List.length_cons]; omega
  exact key s e h
theorem Dec.ok {s : List UInt8} {o : Option Res} (h : Dec s o) : ∀ r, o = some r → ResOK s r := by
  induction h with
  | nope _ => intro r hr; cases hr
  | gone _ _ => intro r hr; cases hr
  | @next s e o hi hst hd ih =>
    intro r hr
    have hl := index_lt hi
    obtain ⟨h1, h2, h3, h4, n, h5⟩ := ih r hr
    rw [List.length_drop] at h1 h2 h3 h4
    exact ⟨by omega, by omega, by omega, by omega, _, by rw [h5, List.drop_drop]⟩
  | @done s e r hi hst =>
    intro r' hr
    cases hr
    have hl := index_lt hi
    exact hst.ok (by omega)

/-! ### Line ends -/
/-- What may stand at a line's end: CR LF, or blanks and LF. -/
def Eol (eol : List UInt8) : Prop := eol = [13, 10] ∨ ∃ bl : List UInt8, (∀ c ∈ bl, isBl c = true) ∧ eol = bl ++ [10]
/-- A line that reads back. -/
def GoodL (a : List UInt8) : Prop := (∀ c ∈ a, c ≠ 10 ∧ c ≠ 13) ∧ (∀ x, a.getLast? = some x → isBl x = false)
theorem Eol.lf : Eol [10] := .inr ⟨[], (fun _ h => nomatch h), rfl⟩
theorem isBl_no {c : UInt8} (h : isBl c = true) : c ≠ 10 ∧ c ≠ 13 ∧ c ≠ 45 ∧ c ≠ 66 ∧ c ≠ 58 := by
  unfold isBl at h
  rw [Bool.or_eq_true, beq_iff_eq, beq_iff_eq] at h
  rcases h with rfl | rfl <;> decide
theorem trimR_good {a : List UInt8} (h : ∀ x, a.getLast? = some x → isBl x = false) : trimR a = a := by
  rcases List.eq_nil_or_concat a with rfl | ⟨a', x, rfl⟩
  · rfl
  · rw [List.concat_eq_append] at h ⊢
    rw [trimR_snoc, if_neg]
    have := h x (by simp)
    show ¬ isBl x = true
    rw [this]; decide
theorem trimR_blanks (a : List UInt8) : ∀ (n : Nat) (bl : List UInt8), bl.length ≤ n → (∀ c ∈ bl, isBl c = true) → trimR (a ++ bl) = trimR a := by
  intro n
  induction n with
  | zero =>
    intro bl hl _
    obtain rfl : bl = [] := List.eq_nil_of_length_eq_zero (by omega)
    rw [List.append_nil]
  | succ n ih =>
    intro bl hl h
    rcases List.eq_nil_or_concat bl with rfl | ⟨bl', x, rfl⟩
    · rw [List.append_nil]
    · rw [List.concat_eq_append] at h hl ⊢
      rw [← List.append_assoc, trimR_snoc, if_pos (show blankB x = true from h x (by simp))]
      exact ih bl' (by simp at hl; omega) fun c hc => h c (by simp [hc])
theorem dropCR_no {a : List UInt8} (h : ∀ c ∈ a, c ≠ 13) : dropCR a = a := by
  unfold dropCR
  rw [if_neg]
  intro e
  exact h 13 (List.mem_of_getLast? e) rfl
theorem line_eol {a eol : List UInt8} (ha : GoodL a) (he : Eol eol) (r : List UInt8) : lineP (a ++ (eol ++ r)) = a ∧ restP (a ++ (eol ++ r)) = r := by
  rcases he with rfl | ⟨bl, hb, rfl⟩
  · have e : a ++ ([13, 10] ++ r) = (a ++ [13]) ++ 10 :: r := by simp
    obtain ⟨h1, h2, h3⟩ := nl_split (a := a ++ [13]) (r := r) (by
      intro h
      rw [List.mem_append] at h
      rcases h with h | h
      · exact (ha.1 _ h).1 rfl
      · revert h; decide)
    rw [e]
    refine ⟨?_, h3⟩
    unfold lineP
    rw [if_pos h1, h2]
    have : dropCR (a ++ [13]) = a := by unfold dropCR; rw [if_pos (by simp)]; simp
    rw [this]
    exact trimR_good ha.2
  · have e : a ++ (bl ++ [10] ++ r) = (a ++ bl) ++ 10 :: r := by simp
    obtain ⟨h1, h2, h3⟩ := nl_split (a := a ++ bl) (r := r) (by
      intro h
      rw [List.mem_append] at h
      rcases h with h | h
      · exact (ha.1 _ h).1 rfl
      · exact (isBl_no (hb _ h)).1 rfl)
    rw [e]
    refine ⟨?_, h3⟩
    unfold lineP
    rw [if_pos h1, h2, dropCR_no, trimR_blanks a _ bl (Nat.le_refl _) hb]
    · exact trimR_good ha.2
    · intro c hc
      rw [List.mem_append] at hc
      rcases hc with hc | hc
      · exact (ha.1 _ hc).2
      · exact (isBl_no (hb _ hc)).2.1
/-- Each line feed replaced by a line end. -/
def mapE (eol l : List UInt8) : List UInt8 := l.flatMap fun c => if c = 10 then eol else [c]
theorem mapE_append (eol a b : List UInt8) : mapE eol (a ++ b) = mapE eol a ++ mapE eol b := List.flatMap_append ..
theorem mapE_nil (eol : List UInt8) : mapE eol [] = [] := rfl
theorem mapE_cons (eol : List UInt8) (c : UInt8) (l : List UInt8) : mapE eol (c :: l) = (if c = 10 then eol else [c]) ++ mapE eol l := List.flatMap_cons ..
theorem mapE_nl (eol l : List UInt8) : mapE eol (10 :: l) = eol ++ mapE eol l := by rw [mapE_cons, if_pos rfl]
theorem mapE_no {eol l : List UInt8} (h : (10 : UInt8) ∉ l) : mapE eol l = l := by
  induction l with
  | nil => rfl
  | cons c r ih =>
    rw [mapE_cons, if_neg (fun e => h (by rw [e]; simp)), ih (fun e => h (by simp [e]))]
    rfl
theorem mapE_lf (l : List UInt8) : mapE [10] l = l := by
  induction l with
  | nil => rfl
  | cons c r ih =>
    rw [mapE_cons, ih]
    split
    · rename_i h; rw [h]; rfl
    · rfl
theorem Eol.mem {eol : List UInt8} (he : Eol eol) {c : UInt8} (hc : c ∈ eol) : c = 13 ∨ c = 10 ∨ isBl c = true := by
  rcases he with rfl | ⟨bl, hb, rfl⟩
  · simp at hc; rcases hc with rfl | rfl
    · exact .inl rfl
    · exact .inr (.inl rfl)
  · rw [List.mem_append, List.mem_singleton] at hc
    rcases hc with h | rfl
    · exact .inr (.inr (hb _ h))
    · exact .inr (.inl rfl)
theorem Eol.no {eol : List UInt8} (he : Eol eol) {c : UInt8} (hc : c ∈ eol) : c ≠ 45 ∧ c ≠ 66 ∧ c ≠ 58 := by
  rcases he.mem hc with rfl | rfl | h
  · decide
  · decide
  · obtain ⟨_, _, h1, h2, h3⟩ := isBl_no h
    exact ⟨h1, h2, h3⟩
theorem Eol.last {eol : List UInt8} (he : Eol eol) : ∃ e0, eol = e0 ++ [10] ∧ (10 : UInt8) ∉ e0 := by
  rcases he with rfl | ⟨bl, hb, rfl⟩
  · exact ⟨[13], rfl, by decide⟩
  · exact ⟨bl, rfl, fun h => (isBl_no (hb _ h)).1 rfl⟩
theorem Eol.cs {eol : List UInt8} (he : Eol eol) : cl (solid eol) = [] := by
  unfold cl solid
  rw [List.filter_filter, List.filter_eq_nil_iff]
  intro c hc
  rcases he.mem hc with rfl | rfl | h
  · decide
  · decide
  · rw [h]; simp
theorem mapE_mem {eol l : List UInt8} {c : UInt8} (h : c ∈ mapE eol l) : c ∈ l ∨ c ∈ eol := by
  unfold mapE at h
  obtain ⟨x, hx, hc⟩ := List.mem_flatMap.1 h
  split at hc
  · exact .inr hc
  · rw [List.mem_singleton] at hc; subst hc; exact .inl hx
theorem solid_append (a b : List UInt8) : solid (a ++ b) = solid a ++ solid b := List.filter_append ..
theorem cs_append (a b : List UInt8) : cl (solid (a ++ b)) = cl (solid a) ++ cl (solid b) := by rw [solid_append, cl_append]
/-- What the decoder of base64 sees of lines: whatever their ends. -/
theorem cs_mapE {eol : List UInt8} (he : Eol eol) (l : List UInt8) : cl (solid (mapE eol l)) = cl (solid l) := by
  induction l with
  | nil => rfl
  | cons c r ih =>
    rw [mapE_cons, cs_append, ih]
    split
    · rename_i h
      subst h
      rw [he.cs]; rfl
    · rw [← cs_append]; rfl
/-- No blank, tab or line end. -/
def bodyC (x : List UInt8) : Prop := ∀ c ∈ x, c ≠ 10 ∧ c ≠ 13 ∧ c ≠ 32 ∧ c ≠ 9 ∧ c ≠ 45 ∧ c ≠ 58
theorem cs_body {x : List UInt8} (h : bodyC x) : cl (solid x) = x := by
  have h1 : solid x = x := by
    unfold solid; rw [List.filter_eq_self]
    intro c hc
    have := h c hc
    unfold isBl
    simp; exact ⟨this.2.2.1, this.2.2.2.1⟩
  rw [h1]
  exact cl_of fun c hc => by
    have := h c hc
    unfold isNl; simp; exact ⟨this.1, this.2.1⟩
theorem cs_lines64 (n : Nat) : ∀ x : List UInt8, x.length ≤ n → bodyC x → cl (solid (lines64 x)) = x := by
  induction n with
  | zero =>
    intro x h _
    obtain rfl : x = [] := List.eq_nil_of_length_eq_zero (by omega)
    rw [lines64, dif_neg (by simp), if_pos rfl]; rfl
  | succ n ih =>
    intro x h hb
    rw [lines64]
    split
    · rename_i h64
      rw [show x.take 64 ++ 10 :: lines64 (x.drop 64) = x.take 64 ++ ([10] ++ lines64 (x.drop 64)) from rfl, cs_append, cs_append, cs_body fun c hc => hb c (List.mem_of_mem_take hc),
        ih _ (by rw [List.length_drop]; omega) fun c hc => hb c (List.mem_of_mem_drop hc)]
      show x.take 64 ++ ([] ++ x.drop 64) = x
      rw [List.nil_append, List.take_append_drop]
    · split
      · rename_i h0; rw [h0]; rfl
      · rw [cs_append, cs_body hb]
        exact List.append_nil x
theorem lines64_last (n : Nat) : ∀ x : List UInt8, x.length ≤ n → x ≠ [] → ∃ l, lines64 x = l ++ [10] := by
  induction n with
  | zero =>
    intro x h h0
    exact absurd (List.eq_nil_of_length_eq_zero (by omega)) h0
  | succ n ih =>
    intro x h h0
    rw [lines64]
    split
    · rename_i h64
      obtain ⟨l, hl⟩ := ih (x.drop 64) (by rw [List.length_drop]; omega) (by
        intro e
        have := congrArg List.length e
        rw [List.length_drop, List.length_nil] at this; omega)
      exact ⟨x.take 64 ++ 10 :: l, by rw [hl]; simp⟩
    · exact ⟨x, rfl⟩

/-! ### Where nothing is found -/
/-- No END line begins in a. -/
def Skip (a t : List UInt8) : Prop := ∀ j, j < a.length → Lib.occAt (a ++ t) endN j = false
theorem Skip.nil (t : List UInt8) : Skip [] t := fun j h => absurd h (Nat.not_lt_zero _)
theorem Skip.append {a b t : List UInt8} (h1 : Skip a (b ++ t)) (h2 : Skip b t) : Skip (a ++ b) t := by
  intro j hj
  rw [List.append_assoc]
  by_cases h : j < a.length
  · exact h1 j h
  · have := h2 (j - a.length) (by rw [List.length_append] at hj; omega)
    unfold Lib.occAt at this ⊢
    rw [List.drop_append, List.drop_of_length_le (by omega), List.nil_append]
    exact this
theorem occ_bytes {s sub : List UInt8} {j : Nat} (h : Lib.occAt s sub j = true) {k : Nat} {c : UInt8} (hk : sub[k]? = some c) : s[j + k]? = some c := by
  unfold Lib.occAt at h
  obtain ⟨t, ht⟩ := List.isPrefixOf_iff_prefix.1 h
  rw [← List.getElem?_drop, ← ht, List.getElem?_append_left (List.getElem?_eq_some_iff.1 hk).1, hk]
theorem Skip.of_nd {a t : List UInt8} (h : ∀ j, j < a.length → a[j]? = some 10 → (a ++ t)[j + 1]? ≠ some 45) : Skip a t := by
  intro j hj
  cases ho : Lib.occAt (a ++ t) endN j with
  | false => rfl
  | true =>
    exfalso
    have h0 := occ_bytes ho (k := 0) (c := 10) rfl
    have h1 := occ_bytes ho (k := 1) (c := 45) rfl
    rw [Nat.add_zero, List.getElem?_append_left hj] at h0
    exact h j hj h0 h1
theorem Skip.no10 {a t : List UInt8} (h : (10 : UInt8) ∉ a) : Skip a t := .of_nd fun j _ e => absurd (List.mem_of_getElem? e) h
/-- A line feed before a line that begins a block. -/
theorem Skip.beg (t : List UInt8) : Skip [10] (begP ++ t) := by
  intro j hj
  obtain rfl : j = 0 := by simp at hj; omega
  cases ho : Lib.occAt ([10] ++ (begP ++ t)) endN 0 with
  | false => rfl
  | true =>
    have h1 := occ_bytes ho (k := 6) (c := 69) rfl
    exact absurd h1 (by simp [begP])
theorem index_at {a q : List UInt8} (h : Skip a (endN ++ q)) : Lib.index (a ++ (endN ++ q)) endN = (a.length : Int) := by
  refine Lib.index_first (by simp) ?_ h
  unfold Lib.occAt
  rw [List.drop_left' rfl, List.isPrefixOf_iff_prefix]
  exact List.prefix_append _ _
theorem index_nowhere {s : List UInt8} (h : Skip s []) : Lib.index s endN = -1 := by
  refine Lib.index_none fun j hj => ?_
  rcases Nat.lt_or_ge j s.length with h1 | h1
  · have := h j h1
    rwa [List.append_nil] at this
  · unfold Lib.occAt
    rw [List.drop_of_length_le h1]; rfl

/-- The last line that begins a block. -/
theorem last_beg {pre ty R : List UInt8} (ht : (45 : UInt8) ∉ ty) (hR : (45 : UInt8) ∉ R) (h66 : R.head? ≠ some 66) : Lib.lastIndex (pre ++ (begP ++ (ty ++ (dashP ++ R)))) begP = (pre.length : Int) := by
  obtain ⟨M, hM⟩ : ∃ M, M = begP ++ (ty ++ (dashP ++ R)) := ⟨_, rfl⟩
  rw [← hM]
  have hb : begP.length = 11 := rfl
  have hd : dashP.length = 5 := rfl
  have hl : M.length = 11 + (ty.length + (5 + R.length)) := by rw [hM]; simp only [List.length_append, hb, hd]
  have ho : Lib.occAt (pre ++ M) begP pre.length = true := by
    unfold Lib.occAt
    rw [List.drop_left' rfl, List.isPrefixOf_iff_prefix, hM]
    exact List.prefix_append _ _
  -- the bytes of M
  have m5 : M[5]? = some 66 := by rw [hM]; rfl
  have mty : ∀ k c, 11 ≤ k → k < 11 + ty.length → M[k]? = some c → c ≠ 45 := by
    intro k c h1 h2 hc e
    rw [hM, List.getElem?_append_right (by omega), hb, List.getElem?_append_left (by omega)] at hc
    exact ht (e ▸ List.mem_of_getElem? hc)
  have mR : ∀ k c, 16 + ty.length ≤ k → M[k]? = some c → c ≠ 45 ∧ (k = 16 + ty.length → c ≠ 66) := by
    intro k c h1 hc
    rw [hM, List.getElem?_append_right (by omega), hb, List.getElem?_append_right (by omega), List.getElem?_append_right (by omega), hd] at hc
    refine ⟨fun e => hR (e ▸ List.mem_of_getElem? hc), fun e e2 => ?_⟩
    subst e; subst e2
    rw [show 16 + ty.length - 11 - ty.length - 5 = 0 by omega] at hc
    apply h66
    rw [List.head?_eq_getElem?]; exact hc
  have mbeg : ∀ k c, 5 ≤ k → k < 11 → M[k]? = some c → c ≠ 45 := by
    intro k c h1 h2 hc e
    rw [hM, List.getElem?_append_left (by omega)] at hc
    subst e
    have h3 : k = 5 ∨ k = 6 ∨ k = 7 ∨ k = 8 ∨ k = 9 ∨ k = 10 := by omega
    rcases h3 with rfl | rfl | rfl | rfl | rfl | rfl <;> exact absurd hc (by decide)
  have hno : ∀ j, 0 < j → Lib.occAt M begP j = false := by
    intro j hj
    cases h : Lib.occAt M begP j with
    | false => rfl
    | true =>
      exfalso
      have b0 := occ_bytes h (k := 0) (c := 45) rfl
      have b1 := occ_bytes h (k := 1) (c := 45) rfl
      have b2 := occ_bytes h (k := 2) (c := 45) rfl
      have b3 := occ_bytes h (k := 3) (c := 45) rfl
      have b4 := occ_bytes h (k := 4) (c := 45) rfl
      have b5 := occ_bytes h (k := 5) (c := 66) rfl
      rw [Nat.add_zero] at b0
      by_cases h1 : j < 5
      · have h2 : j = 1 ∨ j = 2 ∨ j = 3 ∨ j = 4 := by omega
        rcases h2 with rfl | rfl | rfl | rfl
        · exact mbeg _ _ (by omega) (by omega) b4 rfl
        · exact mbeg _ _ (by omega) (by omega) b4 rfl
        · exact mbeg _ _ (by omega) (by omega) b4 rfl
        · exact mbeg _ _ (by omega) (by omega) b4 rfl
      · by_cases h2 : j < 11
        · exact mbeg _ _ (by omega) h2 b0 rfl
        · by_cases h3 : j < 11 + ty.length
          · exact mty _ _ (by omega) h3 b0 rfl
          · by_cases h4 : 16 + ty.length ≤ j
            · exact (mR _ _ h4 b0).1 rfl
            · have h5 : j = 11 + ty.length ∨ j = 12 + ty.length ∨ j = 13 + ty.length ∨ j = 14 + ty.length ∨ j = 15 + ty.length := by omega
              rcases h5 with rfl | rfl | rfl | rfl | rfl
              · exact (mR _ _ (by omega) b5).2 (by omega) rfl
              · exact (mR _ _ (by omega) b4).1 rfl
              · exact (mR _ _ (by omega) b3).1 rfl
              · exact (mR _ _ (by omega) b2).1 rfl
              · exact (mR _ _ (by omega) b1).1 rfl
  have hshift : ∀ j, pre.length < j → Lib.occAt (pre ++ M) begP j = false := by
    intro j hj
    have := hno (j - pre.length) (by omega)
    unfold Lib.occAt at this ⊢
    rw [List.drop_append, List.drop_of_length_le (by omega), List.nil_append]
    exact this
  unfold Lib.lastIndex
  rw [if_pos (by rw [List.length_append]; omega)]
  rcases Lib.lastOcc_spec (pre ++ M) begP ((pre ++ M).length - begP.length + 1) with ⟨_, hn⟩ | ⟨i, hi, e, hc, hn⟩
  · have := hn pre.length (by rw [List.length_append]; omega)
    rw [ho] at this; cases this
  · rw [e]
    rcases Nat.lt_trichotomy i pre.length with h | h | h
    · have := hn pre.length h (by rw [List.length_append]; omega)
      rw [ho] at this; cases this
    · rw [h]
    · rw [hshift i h] at hc; cases hc

/-! ### A block in a text -/
theorem plainC_of {l : List UInt8} (h : plainS l = true) : (∀ c ∈ l, plainC c = true) ∧ l ≠ [] ∧ l.head? ≠ some 32 ∧ l.getLast? ≠ some 32 := by
  unfold plainS at h
  simp only [Bool.and_eq_true, List.all_eq_true, Bool.not_eq_true', decide_eq_false_iff_not] at h
  exact ⟨h.1.1.1, by rintro rfl; exact absurd h.1.1.2 (by decide), h.1.2, h.2⟩
theorem plainC_sp {c : UInt8} (h : plainC c = true) : Lib.isSp c = true → c = 32 := by
  intro h2
  unfold Lib.isSp at h2
  simp only [Bool.or_eq_true, beq_iff_eq] at h2
  rcases h2 with ((((rfl | rfl) | rfl) | rfl) | rfl) | rfl
  · exact absurd h (by decide)
  · exact absurd h (by decide)
  · exact absurd h (by decide)
  · exact absurd h (by decide)
  · exact absurd h (by decide)
  · rfl
theorem plain_good {l : List UInt8} (h : plainS l = true) : GoodL l := by
  obtain ⟨h1, h2, h3, h4⟩ := plainC_of h
  refine ⟨fun c hc => ?_, fun x hx => ?_⟩
  · have := plain_no h hc; exact ⟨this.1, this.2.2.2.1⟩
  · cases hb : isBl x with
    | false => rfl
    | true =>
      exfalso
      have hm := List.mem_of_getLast? hx
      have h9 := (plain_no h hm).2.2.2.2.1
      unfold isBl at hb
      rw [Bool.or_eq_true, beq_iff_eq, beq_iff_eq] at hb
      rcases hb with rfl | rfl
      · exact h4 hx
      · exact h9 rfl
theorem dropWhile_sp {l : List UInt8} (h : ∀ x, l.head? = some x → Lib.isSp x = false) : l.dropWhile Lib.isSp = l := by
  cases l with
  | nil => rfl
  | cons x r => rw [List.dropWhile_cons, h x rfl]; rfl
theorem trim_plain {l : List UInt8} (h : plainS l = true) : Lib.trimSpace l = l := by
  obtain ⟨h1, h2, h3, h4⟩ := plainC_of h
  unfold Lib.trimSpace
  rw [dropWhile_sp (l := l), dropWhile_sp (l := l.reverse), List.reverse_reverse]
  · intro x hx
    rw [List.head?_reverse] at hx
    cases hb : Lib.isSp x with
    | false => rfl
    | true => exact absurd (plainC_sp (h1 x (List.mem_of_getLast? hx)) hb ▸ hx) h4
  · intro x hx
    cases hb : Lib.isSp x with
    | false => rfl
    | true => exact absurd (plainC_sp (h1 x (List.mem_of_mem_head? hx)) hb ▸ hx) h3
theorem trim_sp {l : List UInt8} (h : plainS l = true) : Lib.trimSpace (32 :: l) = l := by
  have := trim_plain h
  unfold Lib.trimSpace at this ⊢
  rw [List.dropWhile_cons, if_pos (by decide)]
  exact this
/-- Plain headers. -/
def PlainH (ls : Hdrs) : Prop := ∀ p ∈ ls, plainS p.1 = true ∧ plainS p.2 = true
theorem hlinesL_cons (p : List UInt8 × List UInt8) (ls : Hdrs) : hlinesL (p :: ls) = (p.1 ++ 58 :: 32 :: p.2) ++ (10 :: hlinesL ls) := by
  show headLine p.1 p.2 ++ hlinesL ls = _
  unfold headLine
  simp
/-- Headers that are written are read. -/
theorem hdr_det {eol : List UInt8} (he : Eol eol) {t : List UInt8} (ht : t ≠ []) (hc : (58 : UInt8) ∉ lineP t) : ∀ (ls : Hdrs), PlainH ls → ∀ (hs : Hdrs) (o : Option (List UInt8)), HdrL (mapE eol (hlinesL ls) ++ t) hs o → hs = ls ∧ o = some t := by
  intro ls
  induction ls with
  | nil =>
    intro _ hs o h
    have e : mapE eol (hlinesL []) ++ t = t := rfl
    rw [e] at h
    cases h with
    | gone => exact absurd rfl ht
    | stop _ _ => exact ⟨rfl, rfl⟩
    | more _ h2 => exact absurd h2 hc
  | cons p ls ih =>
    intro hp hs o h
    obtain ⟨p1, p2⟩ := hp p (List.mem_cons_self ..)
    have n1 : (10 : UInt8) ∉ p.1 ++ 58 :: 32 :: p.2 := by
      intro hm
      rw [List.mem_append, List.mem_cons, List.mem_cons] at hm
      rcases hm with hm | hm | hm | hm
      · exact (plain_no p1 hm).1 rfl
      · revert hm; decide
      · revert hm; decide
      · exact (plain_no p2 hm).1 rfl
    have e : mapE eol (hlinesL (p :: ls)) ++ t = (p.1 ++ 58 :: 32 :: p.2) ++ (eol ++ (mapE eol (hlinesL ls) ++ t)) := by
      rw [hlinesL_cons, mapE_append, mapE_no n1, mapE_nl]
      simp only [List.append_assoc, List.cons_append]
    have hg : GoodL (p.1 ++ 58 :: 32 :: p.2) := by
      refine ⟨fun c hm => ?_, fun x hx => ?_⟩
      · rw [List.mem_append, List.mem_cons, List.mem_cons] at hm
        rcases hm with hm | rfl | rfl | hm
        · have := plain_no p1 hm; exact ⟨this.1, this.2.2.2.1⟩
        · decide
        · decide
        · have := plain_no p2 hm; exact ⟨this.1, this.2.2.2.1⟩
      · have h2 := (plainC_of p2).2.1
        have e2 : (p.1 ++ 58 :: 32 :: p.2).getLast? = p.2.getLast? := by
          rw [show p.1 ++ 58 :: 32 :: p.2 = (p.1 ++ [58, 32]) ++ p.2 by simp, List.getLast?_append]
          cases hq : p.2.getLast? with
          | none => exact absurd (List.getLast?_eq_none_iff.1 hq) h2
          | some y => rfl
        rw [e2] at hx
        exact (plain_good p2).2 x hx
    obtain ⟨g1, g2⟩ := line_eol hg he (mapE eol (hlinesL ls) ++ t)
    rw [e] at h
    have hcol : (58 : UInt8) ∈ p.1 ++ 58 :: 32 :: p.2 := by simp
    have hnc : (58 : UInt8) ∉ p.1 := fun hm => (plain_no p1 hm).2.1 rfl
    generalize hR : (p.1 ++ 58 :: 32 :: p.2) ++ (eol ++ (mapE eol (hlinesL ls) ++ t)) = R at h g1 g2
    cases h with
    | gone =>
      have := congrArg List.length hR
      simp at this
    | stop _ h2 => rw [g1] at h2; exact absurd hcol h2
    | @more _ k v hs' _ _ _ hk hv hr =>
      rw [g2] at hr
      obtain ⟨e1, e2⟩ := ih (fun q hq => hp q (List.mem_cons_of_mem _ hq)) _ _ hr
      rw [g1, colAt_head hnc] at hk hv
      rw [List.take_left' rfl] at hk
      rw [show p.1 ++ 58 :: 32 :: p.2 = (p.1 ++ [58]) ++ (32 :: p.2) by simp, List.drop_left' (by simp)] at hv
      have k1 := hk.2 fun c hc => (plain_no p1 hc).2.2.2.2.2
      have v1 := hv.2 fun c hc => by
        rcases List.mem_cons.1 hc with rfl | hc
        · decide
        · exact (plain_no p2 hc).2.2.2.2.2
      rw [trim_plain p1] at k1
      rw [trim_sp p2] at v1
      subst k1; subst v1; subst e1
      exact ⟨rfl, e2⟩

/-- What becomes of a block with these headers, this body, and q behind the END. -/
def tailG (ty : List UInt8) (ls : Hdrs) (x q : List UInt8) : Out :=
  if q.length < ty.length + 5 then .next
  else if Lib.hasPrefix (q.take (ty.length + 5)) ty = true ∧ Lib.hasSuffix (q.take (ty.length + 5)) dashP = true ∧ lineP (q.drop (ty.length + 5)) = [] then
    match d64 x with
    | none => .next
    | some b => .done ⟨ty, ls, b, restP (32 :: q)⟩
  else .next
/-- The line behind the headers, and the body. -/
def bodyL (ls : Hdrs) (x : List UInt8) : List UInt8 := (if ls = [] then [] else [10]) ++ lines64 x
/-- A block, and q behind the END. -/
def blockT (eol ty : List UInt8) (ls : Hdrs) (x q : List UInt8) : List UInt8 := begP ++ (ty ++ (dashP ++ (eol ++ (mapE eol (hlinesL ls) ++ (mapE eol (bodyL ls x) ++ (endP ++ q))))))

theorem bodyL_last (ls : Hdrs) (x : List UInt8) : bodyL ls x = [] ∧ ls = [] ∧ x = [] ∨ ∃ l, bodyL ls x = l ++ [10] := by
  unfold bodyL
  by_cases hx : x = []
  · subst hx
    have : lines64 [] = [] := by rw [lines64, dif_neg (by simp), if_pos rfl]
    rw [this]
    by_cases hl : ls = []
    · left; rw [if_pos hl]; exact ⟨rfl, hl, rfl⟩
    · right; rw [if_neg hl]; exact ⟨[], rfl⟩
  · right
    obtain ⟨l, hl⟩ := lines64_last _ x (Nat.le_refl _) hx
    exact ⟨(if ls = [] then [] else [10]) ++ l, by rw [hl, List.append_assoc]⟩
theorem lines64_chars {x : List UInt8} (h : bodyC x) {c : UInt8} (hc : c ∈ lines64 x) : c ≠ 45 ∧ c ≠ 58 := by
  rcases lines64_mem _ x (Nat.le_refl _) c hc with h1 | rfl
  · have := h c h1; exact ⟨this.2.2.2.2.1, this.2.2.2.2.2⟩
  · decide
theorem bodyL_chars {ls : Hdrs} {x : List UInt8} (h : bodyC x) {c : UInt8} (hc : c ∈ bodyL ls x) : c ≠ 45 ∧ c ≠ 58 := by
  unfold bodyL at hc
  rw [List.mem_append] at hc
  rcases hc with hc | hc
  · split at hc
    · cases hc
    · rw [List.mem_singleton] at hc; subst hc; decide
  · exact lines64_chars h hc
theorem hlinesL_chars {ls : Hdrs} (h : PlainH ls) {c : UInt8} (hc : c ∈ hlinesL ls) : c ≠ 45 := by
  unfold hlinesL at hc
  obtain ⟨p, hp, hc⟩ := List.mem_flatMap.1 hc
  obtain ⟨p1, p2⟩ := h p hp
  unfold headLine at hc
  rw [List.mem_append, List.mem_cons, List.mem_cons, List.mem_append, List.mem_singleton] at hc
  rcases hc with hc | rfl | rfl | hc | rfl
  · exact (plain_no p1 hc).2.2.1
  · decide
  · decide
  · exact (plain_no p2 hc).2.2.1
  · decide

theorem solid_snoc10 (l : List UInt8) : cl (solid (l ++ [10])) = cl (solid l) := by
  rw [cs_append]; exact List.append_nil _

/-- The line feed of the END line cut off. -/
theorem mid_split {eol : List UInt8} (he : Eol eol) (B : List UInt8) (hB : B = [] ∨ ∃ l, B = l ++ [10]) : ∃ R, eol ++ mapE eol B = R ++ [10] ∧ (∀ c ∈ R, c ∈ eol ∨ c ∈ B) ∧ R.head? ≠ some 66 := by
  obtain ⟨e0, h0, hn⟩ := he.last
  rcases hB with rfl | ⟨l, rfl⟩
  · refine ⟨e0, by rw [mapE_nil, List.append_nil]; exact h0, fun c hc => .inl (by rw [h0]; simp [hc]), fun h => ?_⟩
    have : (66 : UInt8) ∈ eol := by rw [h0]; simp [List.mem_of_mem_head? h]
    exact (he.no this).2.1 rfl
  · refine ⟨eol ++ (mapE eol l ++ e0), ?_, fun c hc => ?_, fun h => ?_⟩
    · rw [mapE_append, mapE_nl, mapE_nil, List.append_nil]
      rw [List.append_assoc, List.append_assoc, ← h0]
    · rw [List.mem_append, List.mem_append] at hc
      rcases hc with hc | hc | hc
      · exact .inl hc
      · rcases mapE_mem hc with h1 | h1
        · exact .inr (by simp [h1])
        · exact .inl h1
      · exact .inl (by rw [h0]; simp [hc])
    · have hne : eol ≠ [] := by rw [h0]; simp
      obtain ⟨y, r, hy⟩ := List.exists_cons_of_ne_nil hne
      rw [hy] at h
      simp at h
      exact (he.no (c := y) (by rw [hy]; simp)).2.1 h

/-- A block's text, cut at its END line. -/
theorem block_cut {eol ty x q pre : List UInt8} {ls : Hdrs} (he : Eol eol) (ht : plainS ty = true) (hl : PlainH ls) (hx : bodyC x)
    (hs : ∀ t, Skip pre (begP ++ t)) :
    ∃ A R : List UInt8, A = pre ++ (begP ++ (ty ++ (dashP ++ R))) ∧ pre ++ blockT eol ty ls x q = A ++ (endN ++ q) ∧ Lib.index (pre ++ blockT eol ty ls x q) endN = (A.length : Int) ∧
      (pre ++ blockT eol ty ls x q).drop (A.length + 10) = q ∧ (pre ++ blockT eol ty ls x q).drop (A.length + 9) = 32 :: q ∧ Lib.lastIndex ((pre ++ blockT eol ty ls x q).take A.length) begP = (pre.length : Int) := by
  have t45 : (45 : UInt8) ∉ ty := fun h => (plain_no ht h).2.2.1 rfl
  have t10 : (10 : UInt8) ∉ ty := fun h => (plain_no ht h).1 rfl
  have hB : hlinesL ls ++ bodyL ls x = [] ∨ ∃ l, hlinesL ls ++ bodyL ls x = l ++ [10] := by
    rcases bodyL_last ls x with ⟨h1, h2, _⟩ | ⟨l, h1⟩
    · left; rw [h1, h2]; rfl
    · right; exact ⟨hlinesL ls ++ l, by rw [h1, List.append_assoc]⟩
  obtain ⟨R, hR, hRm, hR66⟩ := mid_split he _ hB
  have R45 : (45 : UInt8) ∉ R := by
    intro h
    rcases hRm _ h with h1 | h1
    · exact (he.no h1).1 rfl
    · rw [List.mem_append] at h1
      rcases h1 with h1 | h1
      · exact hlinesL_chars hl h1 rfl
      · exact (bodyL_chars hx h1).1 rfl
  -- the text, cut at the END line
  obtain ⟨s, hsd⟩ : ∃ s, s = pre ++ blockT eol ty ls x q := ⟨_, rfl⟩
  have c1 : s = (pre ++ (begP ++ (ty ++ (dashP ++ R)))) ++ (endN ++ q) := by
    rw [hsd]
    unfold blockT endN
    have h1 : eol ++ (mapE eol (hlinesL ls) ++ (mapE eol (bodyL ls x) ++ (endP ++ q))) = (eol ++ mapE eol (hlinesL ls ++ bodyL ls x)) ++ (endP ++ q) := by rw [mapE_append]; simp only [List.append_assoc]
    rw [h1, hR]
    simp only [List.append_assoc, List.cons_append, List.nil_append]
  obtain ⟨A, hA⟩ : ∃ A, A = pre ++ (begP ++ (ty ++ (dashP ++ R))) := ⟨_, rfl⟩
  rw [← hA] at c1
  have hbl : begP.length = 11 := rfl
  have hdl : dashP.length = 5 := rfl
  have hAl : A.length = pre.length + (11 + (ty.length + (5 + R.length))) := by rw [hA]; simp only [List.length_append, hbl, hdl]
  have hsk : Skip A (endN ++ q) := by
    rw [hA]
    refine Skip.append ?_ ?_
    · rw [List.append_assoc]; exact hs _
    · have e : begP ++ (ty ++ (dashP ++ R)) = (begP ++ (ty ++ dashP)) ++ R := by simp only [List.append_assoc]
      rw [e]
      refine Skip.append (Skip.no10 ?_) (Skip.of_nd fun j hj _ h45 => ?_)
      · intro h
        rw [List.mem_append, List.mem_append] at h
        rcases h with h | h | h
        · revert h; decide
        · exact t10 h
        · revert h; decide
      · by_cases h1 : j + 1 < R.length
        · rw [List.getElem?_append_left h1] at h45
          exact R45 (List.mem_of_getElem? h45)
        · rw [List.getElem?_append_right (by omega), show j + 1 - R.length = 0 by omega] at h45
          exact absurd h45 (by simp [endN])
  have hidx := index_at hsk
  rw [← c1] at hidx
  rw [← hsd]
  have d10 : s.drop (A.length + 10) = q := by
    rw [c1, ← List.append_assoc, List.drop_left' (by rw [List.length_append]; rfl)]
  have d9 : s.drop (A.length + 9) = 32 :: q := by
    rw [c1, show A ++ (endN ++ q) = (A ++ [10, 45, 45, 45, 45, 45, 69, 78, 68]) ++ 32 :: q by simp [endN, endP], List.drop_left' (by rw [List.length_append]; rfl)]
  have hlast : Lib.lastIndex (s.take A.length) begP = (pre.length : Int) := by
    rw [c1, List.take_left' rfl, hA]
    exact last_beg t45 R45 hR66
  exact ⟨A, R, hA, c1, hidx, d10, d9, hlast⟩

theorem block_step {eol ty x q pre : List UInt8} {ls : Hdrs} (he : Eol eol) (ht : plainS ty = true) (hl : PlainH ls) (hx : bodyC x) (hq : (58 : UInt8) ∉ lineP (endP ++ q))
    (hs : ∀ t, Skip pre (begP ++ t)) (hp : 0 < pre.length → pre[pre.length - 1]? = some 10) :
    ∃ e : Nat, Lib.index (pre ++ blockT eol ty ls x q) endN = (e : Int) ∧ (pre ++ blockT eol ty ls x q).drop (e + 10) = q ∧ ∀ o, StepR (pre ++ blockT eol ty ls x q) e o → o = tailG ty ls x q := by
  obtain ⟨A, R, hA, c1, hidx, d10, d9, hlast⟩ := block_cut (q := q) he ht hl hx hs
  have hbl : begP.length = 11 := rfl
  have hdl : dashP.length = 5 := rfl
  have hAl : A.length = pre.length + (11 + (ty.length + (5 + R.length))) := by rw [hA]; simp only [List.length_append, hbl, hdl]
  obtain ⟨s, hsd⟩ : ∃ s, s = pre ++ blockT eol ty ls x q := ⟨_, rfl⟩
  rw [← hsd] at c1 hidx d10 d9 hlast ⊢
  refine ⟨A.length, hidx, d10, fun o ho => ?_⟩
  rcases ho with ⟨h, _⟩ | ⟨b, hb, hbe, h⟩
  · rw [hlast] at h; omega
  · rw [hlast] at hb
    obtain rfl : b = pre.length := by omega
    rcases h with ⟨h1, h2, _⟩ | ⟨_, h⟩
    · exfalso
      apply h2
      have := hp h1
      rw [c1, hA, List.append_assoc, List.getElem?_append_left (by omega)]
      exact this
    · have c2 : s.drop (pre.length + 11) = (ty ++ dashP) ++ (eol ++ (mapE eol (hlinesL ls) ++ (mapE eol (bodyL ls x) ++ (endP ++ q)))) := by
        rw [hsd]
        unfold blockT
        rw [← List.append_assoc, List.drop_left' (by rw [List.length_append]; rfl), List.append_assoc]
      have hg : GoodL (ty ++ dashP) := by
        refine ⟨fun c hc => ?_, fun y hy => ?_⟩
        · rw [List.mem_append] at hc
          rcases hc with hc | hc
          · have := plain_no ht hc; exact ⟨this.1, this.2.2.2.1⟩
          · unfold dashP at hc; simp at hc; subst hc; decide
        · rw [List.getLast?_append] at hy
          have : dashP.getLast? = some 45 := rfl
          rw [this] at hy
          cases hy; decide
      obtain ⟨g1, g2⟩ := line_eol hg he (mapE eol (hlinesL ls) ++ (mapE eol (bodyL ls x) ++ (endP ++ q)))
      rw [← c2] at g1 g2
      rw [g1, g2] at h
      have hsuf : Lib.hasSuffix (ty ++ dashP) dashP = true := by
        unfold Lib.hasSuffix
        rw [List.isSuffixOf_iff_suffix]
        exact List.suffix_append _ _
      have hlen : (ty ++ dashP).length = ty.length + 5 := by rw [List.length_append, hdl]
      rcases h with ⟨h1, _⟩ | ⟨_, h⟩
      · rw [hsuf] at h1; cases h1
      · have tne : mapE eol (bodyL ls x) ++ (endP ++ q) ≠ [] := by unfold endP; simp
        have tcol : (58 : UInt8) ∉ lineP (mapE eol (bodyL ls x) ++ (endP ++ q)) := by
          rcases bodyL_last ls x with ⟨h1, _, _⟩ | ⟨l, h1⟩
          · rw [h1]; exact hq
          · intro hm
            obtain ⟨e0, h0, _⟩ := he.last
            have h2 : mapE eol (bodyL ls x) ++ (endP ++ q) = (mapE eol l ++ e0) ++ 10 :: (endP ++ q) := by
              rw [h1, mapE_append, mapE_nl, mapE_nil, List.append_nil, h0]; simp only [List.append_assoc, List.cons_append, List.nil_append]
            generalize mapE eol (bodyL ls x) ++ (endP ++ q) = Y at hm h2
            have h3 : hasNL Y = true := by
              unfold hasNL; rw [List.any_eq_true, h2]
              exact ⟨10, by simp, by decide⟩
            have h4 : (58 : UInt8) ∈ preNL Y := by
              unfold lineP at hm
              rw [if_pos h3] at hm
              have h5 : ∀ l : List UInt8, ∀ c ∈ trimR l, c ∈ l := by
                intro l c hc
                unfold trimR at hc
                rw [List.mem_reverse] at hc
                have := (List.dropWhile_sublist blankB (l := l.reverse)).mem hc
                rwa [List.mem_reverse] at this
              have h6 := h5 _ _ hm
              unfold dropCR at h6
              split at h6
              · exact (List.dropLast_sublist _).mem h6
              · exact h6
            have h6 : (58 : UInt8) ∈ mapE eol l ++ e0 := by
              have hle : (preNL Y).length ≤ (mapE eol l ++ e0).length := by
                rcases Nat.lt_or_ge (mapE eol l ++ e0).length (preNL Y).length with hh | hh
                · exfalso
                  refine preNL_before hh ?_
                  rw [h2, List.getElem?_append_right (Nat.le_refl _), Nat.sub_self]; rfl
                · exact hh
              rw [preNL_take] at h4
              generalize (preNL Y).length = n at h4 hle
              rw [h2, List.take_append_of_le_length hle] at h4
              exact List.mem_of_mem_take h4
            rw [List.mem_append] at h6
            rcases h6 with h6 | h6
            · rcases mapE_mem h6 with h7 | h7
              · exact (bodyL_chars (ls := ls) hx (c := 58) (by rw [h1]; simp [h7])).2 rfl
              · exact (he.no h7).2.2 rfl
            · exact (he.no (c := 58) (by rw [h0]; simp [h6])).2.2 rfl
        rcases h with ⟨hs', hh, _⟩ | ⟨hs', i, hh, hbi, hi, h⟩
        · have := hdr_det he tne tcol ls hl _ _ hh
          exact absurd this.2 (by simp)
        · obtain ⟨e1, e2⟩ := hdr_det he tne tcol ls hl _ _ hh
          subst e1
          have e2 := Option.some.inj e2
          rw [hlen, show ty.length + 5 - 5 = ty.length by omega, List.take_left' rfl] at h
          rw [h]
          -- where the headers end
          have hsl : s.length = A.length + (10 + q.length) := by rw [c1, List.length_append, List.length_append]; rfl
          have hil : i + (mapE eol (bodyL hs' x)).length = A.length + 1 := by
            have := congrArg List.length e2
            rw [List.length_drop, List.length_append, List.length_append] at this
            have h9 : endP.length = 9 := rfl
            omega
          unfold tailF tailG
          have hbody : cl (solid ((s.drop i).take (A.length - i))) = x := by
            rw [e2]
            rcases bodyL_last hs' x with ⟨h1, h2, h3⟩ | ⟨l, h1⟩
            · rw [h1, mapE_nil] at hil
              rw [List.length_nil] at hil
              rw [show A.length - i = 0 by omega, List.take_zero, h3]; rfl
            · obtain ⟨e0, h0, _⟩ := he.last
              have h2 : mapE eol (bodyL hs' x) = (mapE eol l ++ e0) ++ [10] := by
                rw [h1, mapE_append, mapE_nl, mapE_nil, List.append_nil, List.append_assoc, ← h0]
              have h3 : A.length - i = (mapE eol l ++ e0).length := by
                rw [h2, List.length_append, List.length_singleton] at hil; omega
              rw [h3, h2, List.append_assoc, List.take_left' rfl, ← solid_snoc10, ← h2, cs_mapE he]
              unfold bodyL
              rw [cs_append, cs_lines64 _ x (Nat.le_refl _) hx]
              split
              · rfl
              · rfl
          rw [if_neg (by
            rintro ⟨h1, h2⟩
            rcases bodyL_last hs' x with ⟨_, h3, _⟩ | ⟨l, h3⟩
            · exact h1 h3
            · have : 1 ≤ (mapE eol (bodyL hs' x)).length := by
                obtain ⟨e0, h0, _⟩ := he.last
                rw [h3, mapE_append, mapE_nl, mapE_nil, List.append_nil, h0]; simp; omega
              omega), d10, d9, hbody]
          all_goals rfl

/-! ### The laws of Decode, in plain words -/
/-- A block whose END line is whole, and what follows it. -/
def goodQ (eol ty rest : List UInt8) : List UInt8 := ty ++ (dashP ++ (eol ++ rest))
theorem dec_step {s : List UInt8} {e : Nat} {o : Option Res} {out : Out} (hi : Lib.index s endN = (e : Int)) (hst : ∀ o, StepR s e o → o = out) (h : Dec s o) :
    (out = .gone ∧ o = none) ∨ (out = .next ∧ Dec (s.drop (e + 10)) o) ∨ (∃ r, out = .done r ∧ o = some r) := by
  cases h with
  | nope h => rw [hi] at h; omega
  | gone h1 h2 =>
    rw [hi] at h1
    obtain rfl := Int.ofNat.inj h1
    exact .inl ⟨(hst _ h2).symm, rfl⟩
  | next h1 h2 h3 =>
    rw [hi] at h1
    obtain rfl := Int.ofNat.inj h1
    exact .inr (.inl ⟨(hst _ h2).symm, h3⟩)
  | done h1 h2 =>
    rw [hi] at h1
    obtain rfl := Int.ofNat.inj h1
    exact .inr (.inr ⟨_, (hst _ h2).symm, rfl⟩)
theorem b64_body (b : List UInt8) : bodyC (b64 b) := by
  intro c hc
  rcases b64_mem _ b (Nat.le_refl _) c hc with h | rfl
  · obtain ⟨h1, h2, h3, h4, h5, h6⟩ := alpha_chars c h
    exact ⟨h2, h4, h5, h6, h3, h1⟩
  · decide
theorem endline_good {ty : List UInt8} (ht : plainS ty = true) : GoodL (endP ++ (ty ++ dashP)) := by
  refine ⟨fun c hc => ?_, fun y hy => ?_⟩
  · rw [List.mem_append, List.mem_append] at hc
    rcases hc with hc | hc | hc
    · exact (show ∀ c ∈ endP, c ≠ 10 ∧ c ≠ 13 by decide) c hc
    · have := plain_no ht hc; exact ⟨this.1, this.2.2.2.1⟩
    · exact (show ∀ c ∈ dashP, c ≠ 10 ∧ c ≠ 13 by decide) c hc
  · rw [List.getLast?_append, List.getLast?_append] at hy
    have : dashP.getLast? = some 45 := rfl
    rw [this] at hy
    cases hy; decide
theorem goodQ_line {eol ty : List UInt8} (he : Eol eol) (ht : plainS ty = true) (rest : List UInt8) : (58 : UInt8) ∉ lineP (endP ++ goodQ eol ty rest) := by
  have e : endP ++ goodQ eol ty rest = (endP ++ (ty ++ dashP)) ++ (eol ++ rest) := by unfold goodQ; simp only [List.append_assoc]
  rw [e, (line_eol (endline_good ht) he rest).1]
  intro h
  rw [List.mem_append, List.mem_append] at h
  rcases h with h | h | h
  · revert h; decide
  · exact (plain_no ht h).2.1 rfl
  · revert h; decide
theorem goodL_nil : GoodL [] := ⟨fun _ h => (by cases h), fun _ h => (by cases h)⟩
theorem tail_good {eol ty x b : List UInt8} (he : Eol eol) (ht : plainS ty = true) (hx : d64 x = some b) (ls : Hdrs) (rest : List UInt8) : tailG ty ls x (goodQ eol ty rest) = .done ⟨ty, ls, b, rest⟩ := by
  have hdl : dashP.length = 5 := rfl
  have e1 : goodQ eol ty rest = (ty ++ dashP) ++ (eol ++ rest) := by unfold goodQ; simp only [List.append_assoc]
  have hl : (ty ++ dashP).length = ty.length + 5 := by rw [List.length_append, hdl]
  have e2 : (goodQ eol ty rest).take (ty.length + 5) = ty ++ dashP := by rw [e1, ← hl, List.take_left' rfl]
  have e3 : (goodQ eol ty rest).drop (ty.length + 5) = eol ++ rest := by rw [e1, ← hl, List.drop_left' rfl]
  have e4 : lineP (eol ++ rest) = [] := (line_eol goodL_nil he rest).1
  have hg : GoodL (32 :: (ty ++ dashP)) := by
    refine ⟨fun c hc => ?_, fun y hy => ?_⟩
    · rw [List.mem_cons, List.mem_append] at hc
      rcases hc with rfl | hc | hc
      · decide
      · have := plain_no ht hc; exact ⟨this.1, this.2.2.2.1⟩
      · exact (show ∀ c ∈ dashP, c ≠ 10 ∧ c ≠ 13 by decide) c hc
    · rw [show 32 :: (ty ++ dashP) = (32 :: ty) ++ dashP from rfl, List.getLast?_append] at hy
      have : dashP.getLast? = some 45 := rfl
      rw [this] at hy
      cases hy; decide
  have e5 : restP (32 :: goodQ eol ty rest) = rest := by
    rw [e1]; exact (line_eol hg he rest).2
  unfold tailG
  rw [e2, e3, e4, e5, hx, if_neg (by rw [e1, List.length_append, hl]; omega), if_pos]
  refine ⟨?_, ?_, rfl⟩
  · unfold Lib.hasPrefix
    rw [List.isPrefixOf_iff_prefix]; exact List.prefix_append _ _
  · unfold Lib.hasSuffix
    rw [List.isSuffixOf_iff_suffix]; exact List.suffix_append _ _
/-- A block is found, whatever stands ahead of it that neither ends a block nor leaves a line open. -/
theorem dec_found {eol ty b pre rest : List UInt8} {ls : Hdrs} {o : Option Res} (he : Eol eol) (ht : plainS ty = true) (hl : PlainH ls)
    (hs : ∀ t, Skip pre (begP ++ t)) (hp : 0 < pre.length → pre[pre.length - 1]? = some 10) (h : Dec (pre ++ blockT eol ty ls (b64 b) (goodQ eol ty rest)) o) : o = some ⟨ty, ls, b, rest⟩ := by
  obtain ⟨e, h1, h2, h3⟩ := block_step (q := goodQ eol ty rest) he ht hl (b64_body b) (goodQ_line he ht rest) hs hp
  have h4 := tail_good he ht (d64_b64 _ b (Nat.le_refl _)) ls rest
  rcases dec_step h1 h3 h with ⟨h5, _⟩ | ⟨h5, _⟩ | ⟨r, h5, h6⟩
  · rw [h4] at h5; cases h5
  · rw [h4] at h5; cases h5
  · rw [h4] at h5; cases h5; exact h6
/-- A block that is passed over. -/
theorem dec_over {ty x q pre : List UInt8} {ls : Hdrs} {o : Option Res} (ht : plainS ty = true) (hl : PlainH ls) (hx : bodyC x) (hq : (58 : UInt8) ∉ lineP (endP ++ q))
    (hs : ∀ t, Skip pre (begP ++ t)) (hp : 0 < pre.length → pre[pre.length - 1]? = some 10) (hG : tailG ty ls x q = .next) (h : Dec (pre ++ blockT [10] ty ls x q) o) : Dec q o := by
  obtain ⟨e, h1, h2, h3⟩ := block_step (q := q) Eol.lf ht hl hx hq hs hp
  rcases dec_step h1 h3 h with ⟨h5, _⟩ | ⟨_, h6⟩ | ⟨r, h5, _⟩
  · rw [hG] at h5; cases h5
  · rwa [h2] at h6
  · rw [hG] at h5; cases h5
theorem dec_nothing {s : List UInt8} {o : Option Res} (hs : Skip s []) (h : Dec s o) : o = none := by
  have hi := index_nowhere hs
  cases h with
  | nope _ => rfl
  | gone h1 _ => rfl
  | next h1 _ _ => rw [hi] at h1; omega
  | done h1 _ => rw [hi] at h1; omega
/-- Where no line begins a block. -/
theorem dec_none {s : List UInt8} {o : Option Res} (h : Dec s o) : (∀ j, Lib.occAt s begP j = false) → o = none := by
  induction h with
  | nope _ => intro _; rfl
  | gone _ _ => intro _; rfl
  | @next s e o _ _ _ ih =>
    intro hn
    refine ih fun j => ?_
    have := hn (e + 10 + j)
    unfold Lib.occAt at this ⊢
    rw [List.drop_drop]; exact this
  | @done s e r h1 h2 =>
    intro hn
    exfalso
    have hl : Lib.lastIndex (s.take e) begP = -1 := by
      unfold Lib.lastIndex
      split
      · rcases Lib.lastOcc_spec (s.take e) begP ((s.take e).length - begP.length + 1) with ⟨h3, _⟩ | ⟨i, _, _, hc, _⟩
        · exact h3
        · have := hn i
          unfold Lib.occAt at this hc
          rw [List.isPrefixOf_iff_prefix] at hc
          have hp : begP <+: s.drop i := by
            refine hc.trans ?_
            rw [List.drop_take]; exact List.take_prefix _ _
          rw [List.isPrefixOf_iff_prefix.2 hp] at this
          cases this
      · rfl
    rcases h2 with ⟨_, h⟩ | ⟨b, hb, _⟩
    · cases h
    · rw [hl] at hb; omega

/-! ### What may stand ahead of a block -/
theorem skip_line {a : List UInt8} (h : (10 : UInt8) ∉ a) (t : List UInt8) : Skip (a ++ [10]) (begP ++ t) := (Skip.no10 h).append (Skip.beg t)
theorem dash_of {s : List UInt8} {j : Nat} (h0 : s[j]? = some 45) (h1 : s[j + 1]? = some 45) (h2 : s[j + 2]? = some 45) (h3 : s[j + 3]? = some 45) (h4 : s[j + 4]? = some 45) : Lib.occAt s dashP j = true := by
  unfold Lib.occAt
  rw [List.isPrefixOf_iff_prefix]
  have hj : j + 4 < s.length := (List.getElem?_eq_some_iff.1 h4).1
  have cons : ∀ k, s[k]? = some 45 → s.drop k = 45 :: s.drop (k + 1) := fun k hk => by
    obtain ⟨h, e⟩ := List.getElem?_eq_some_iff.1 hk
    rw [List.drop_eq_getElem_cons h, e]
  rw [cons j h0, cons _ h1, cons _ h2, cons _ h3, cons _ h4]
  exact ⟨_, rfl⟩
theorem skip_text {a : List UInt8} (h : ∀ j, Lib.occAt a dashP j = false) (t : List UInt8) : Skip (a ++ [10]) (begP ++ t) := by
  refine Skip.append ?_ (Skip.beg t)
  intro j hj
  cases ho : Lib.occAt (a ++ ([10] ++ (begP ++ t))) endN j with
  | false => rfl
  | true =>
    exfalso
    have b1 := occ_bytes ho (k := 1) (c := 45) rfl
    have b2 := occ_bytes ho (k := 2) (c := 45) rfl
    have b3 := occ_bytes ho (k := 3) (c := 45) rfl
    have b4 := occ_bytes ho (k := 4) (c := 45) rfl
    have b5 := occ_bytes ho (k := 5) (c := 45) rfl
    have hat : ∀ k, k = a.length → (a ++ ([10] ++ (begP ++ t)))[k]? = some 10 := fun k hk => by
      subst hk; rw [List.getElem?_append_right (Nat.le_refl _), Nat.sub_self]; rfl
    by_cases h5 : j + 5 < a.length
    · rw [List.getElem?_append_left (by omega)] at b1 b2 b3 b4 b5
      have := h (j + 1)
      rw [dash_of b1 b2 b3 b4 b5] at this
      cases this
    · have hc : j + 1 = a.length ∨ j + 2 = a.length ∨ j + 3 = a.length ∨ j + 4 = a.length ∨ j + 5 = a.length := by omega
      rcases hc with hc | hc | hc | hc | hc
      · rw [hat _ hc] at b1; exact absurd b1 (by decide)
      · rw [hat _ hc] at b2; exact absurd b2 (by decide)
      · rw [hat _ hc] at b3; exact absurd b3 (by decide)
      · rw [hat _ hc] at b4; exact absurd b4 (by decide)
      · rw [hat _ hc] at b5; exact absurd b5 (by decide)
theorem last_nl (a : List UInt8) : 0 < (a ++ [(10 : UInt8)]).length → (a ++ [(10 : UInt8)])[(a ++ [(10 : UInt8)]).length - 1]? = some 10 := by
  intro _
  rw [List.length_append, List.length_singleton, Nat.add_sub_cancel, List.getElem?_append_right (Nat.le_refl _), Nat.sub_self]; rfl
theorem mapE_written {eol ty b : List UInt8} {ls : Hdrs} (ht : plainS ty = true) (rest : List UInt8) : mapE eol (writtenP ty ls b) ++ rest = blockT eol ty ls (b64 b) (goodQ eol ty rest) := by
  have t10 : (10 : UInt8) ∉ ty := fun h => (plain_no ht h).1 rfl
  unfold writtenP blockT goodQ bodyL
  have e : (ls.flatMap fun p => headLine p.1 p.2) = hlinesL ls := rfl
  rw [e]
  simp only [mapE_append, mapE_no t10, mapE_no (show (10 : UInt8) ∉ begP by decide), mapE_no (show (10 : UInt8) ∉ endP by decide), mapE_no (show (10 : UInt8) ∉ dashP by decide), List.append_assoc]
  rw [show mapE eol [10] = eol by rw [mapE_nl, mapE_nil, List.append_nil]]
theorem written_block {ty b : List UInt8} {ls : Hdrs} (ht : plainS ty = true) (rest : List UInt8) : writtenP ty ls b ++ rest = blockT [10] ty ls (b64 b) (goodQ [10] ty rest) := by
  rw [← mapE_written ht, mapE_lf]

/-! ### The laws -/
theorem law_back {ty b rest : List UInt8} {ls : Hdrs} {o : Option Res} (ht : plainS ty = true) (hl : PlainH ls) (h : Dec (writtenP ty ls b ++ rest) o) : o = some ⟨ty, ls, b, rest⟩ := by
  rw [written_block ht] at h
  exact dec_found (pre := []) Eol.lf ht hl (fun t => Skip.nil _) (fun h => absurd h (by simp)) h
theorem law_after {before ty b rest : List UInt8} {ls : Hdrs} {o : Option Res} (hb : ∀ j, Lib.occAt before dashP j = false) (ht : plainS ty = true) (hl : PlainH ls) (h : Dec ((before ++ [10]) ++ (writtenP ty ls b ++ rest)) o) : o = some ⟨ty, ls, b, rest⟩ := by
  rw [written_block ht] at h
  exact dec_found Eol.lf ht hl (fun t => skip_text hb t) (last_nl _) h
theorem law_ends {eol ty b : List UInt8} {ls : Hdrs} {o : Option Res} (he : Eol eol) (ht : plainS ty = true) (hl : PlainH ls) (h : Dec (mapE eol (writtenP ty ls b)) o) : o = some ⟨ty, ls, b, []⟩ := by
  have e := mapE_written (eol := eol) (b := b) (ls := ls) ht []
  rw [List.append_nil] at e
  rw [e] at h
  exact dec_found (pre := []) he ht hl (fun t => Skip.nil _) (fun h => absurd h (by simp)) h
/-- Another type at the block's end, or no base64 in it. -/
theorem law_over {ty x q' ty2 b2 rest : List UInt8} {ls2 : Hdrs} {o : Option Res} (ht : plainS ty = true) (hx : bodyC x) (hq' : (10 : UInt8) ∉ q') (hq : (58 : UInt8) ∉ lineP (endP ++ (q' ++ [10] ++ (writtenP ty2 ls2 b2 ++ rest))))
    (hG : tailG ty [] x (q' ++ [10] ++ (writtenP ty2 ls2 b2 ++ rest)) = .next) (ht2 : plainS ty2 = true) (hl2 : PlainH ls2)
    (h : Dec (blockT [10] ty [] x (q' ++ [10] ++ (writtenP ty2 ls2 b2 ++ rest))) o) : o = some ⟨ty2, ls2, b2, rest⟩ := by
  have h1 := dec_over (pre := []) ht (fun p hp => by cases hp) hx hq (fun t => Skip.nil _) (fun h => absurd h (by simp)) hG h
  rw [written_block ht2] at h1
  exact dec_found Eol.lf ht2 hl2 (fun t => skip_line hq' t) (last_nl _) h1
theorem line58 {q' : List UInt8} (h : GoodL (endP ++ q')) (hc : (58 : UInt8) ∉ q') (r : List UInt8) : (58 : UInt8) ∉ lineP (endP ++ (q' ++ [10] ++ r)) := by
  have e : endP ++ (q' ++ [10] ++ r) = (endP ++ q') ++ ([10] ++ r) := by simp only [List.append_assoc]
  rw [e, (line_eol h Eol.lf r).1]
  intro hm
  rw [List.mem_append] at hm
  rcases hm with hm | hm
  · revert hm; decide
  · exact hc hm
theorem law_bad {ty x ty2 b2 rest : List UInt8} {ls2 : Hdrs} {o : Option Res} (ht : plainS ty = true) (hx : bodyC x) (hd : d64 x = none) (ht2 : plainS ty2 = true) (hl2 : PlainH ls2)
    (h : Dec (blockT [10] ty [] x (goodQ [10] ty (writtenP ty2 ls2 b2 ++ rest))) o) : o = some ⟨ty2, ls2, b2, rest⟩ := by
  have e : goodQ [10] ty (writtenP ty2 ls2 b2 ++ rest) = (ty ++ dashP) ++ [10] ++ (writtenP ty2 ls2 b2 ++ rest) := by unfold goodQ; simp only [List.append_assoc]
  rw [e] at h
  have hdl : dashP.length = 5 := rfl
  refine law_over ht hx ?_ (line58 (endline_good ht) ?_ _) ?_ ht2 hl2 h
  · intro hm
    rw [List.mem_append] at hm
    rcases hm with hm | hm
    · exact (plain_no ht hm).1 rfl
    · revert hm; decide
  · intro hm
    rw [List.mem_append] at hm
    rcases hm with hm | hm
    · exact (plain_no ht hm).2.1 rfl
    · revert hm; decide
  · unfold tailG
    split
    · rfl
    · split
      · rw [hd]
      · rfl
theorem law_type {ty x ty2 b2 rest : List UInt8} {ls2 : Hdrs} {o : Option Res} (ht : plainS ty = true) (hx : bodyC x) (ht2 : plainS ty2 = true) (hl2 : PlainH ls2)
    (h : Dec (blockT [10] ty [] x (ty ++ (120 :: (dashP ++ [10] ++ (writtenP ty2 ls2 b2 ++ rest))))) o) : o = some ⟨ty2, ls2, b2, rest⟩ := by
  have e : ty ++ (120 :: (dashP ++ [10] ++ (writtenP ty2 ls2 b2 ++ rest))) = (ty ++ 120 :: dashP) ++ [10] ++ (writtenP ty2 ls2 b2 ++ rest) := by simp only [List.append_assoc, List.cons_append]
  rw [e] at h
  have hg : GoodL (endP ++ (ty ++ 120 :: dashP)) := by
    refine ⟨fun c hc => ?_, fun y hy => ?_⟩
    · rw [List.mem_append, List.mem_append, List.mem_cons] at hc
      rcases hc with hc | hc | rfl | hc
      · exact (show ∀ c ∈ endP, c ≠ 10 ∧ c ≠ 13 by decide) c hc
      · have := plain_no ht hc; exact ⟨this.1, this.2.2.2.1⟩
      · decide
      · exact (show ∀ c ∈ dashP, c ≠ 10 ∧ c ≠ 13 by decide) c hc
    · rw [List.getLast?_append, List.getLast?_append] at hy
      have : (120 :: dashP).getLast? = some 45 := rfl
      rw [this] at hy
      cases hy; decide
  refine law_over ht hx ?_ (line58 hg ?_ _) ?_ ht2 hl2 h
  · intro hm
    rw [List.mem_append, List.mem_cons] at hm
    rcases hm with hm | hm | hm
    · exact (plain_no ht hm).1 rfl
    · revert hm; decide
    · revert hm; decide
  · intro hm
    rw [List.mem_append, List.mem_cons] at hm
    rcases hm with hm | hm | hm
    · exact (plain_no ht hm).2.1 rfl
    · revert hm; decide
    · revert hm; decide
  · unfold tailG
    split
    · rfl
    · rw [if_neg]
      rintro ⟨_, h2, _⟩
      have e2 : ((ty ++ 120 :: dashP) ++ [10] ++ (writtenP ty2 ls2 b2 ++ rest)).take (ty.length + 5) = ty ++ [120, 45, 45, 45, 45] := by
        rw [show (ty ++ 120 :: dashP) ++ [10] ++ (writtenP ty2 ls2 b2 ++ rest) = (ty ++ [120, 45, 45, 45, 45]) ++ (45 :: ([10] ++ (writtenP ty2 ls2 b2 ++ rest))) by simp [dashP], List.take_left' (by simp)]
      rw [e2] at h2
      unfold Lib.hasSuffix at h2
      rw [List.isSuffixOf_iff_suffix] at h2
      have h3 := (List.suffix_iff_eq_drop.1 h2)
      have e9 : (ty ++ [(120 : UInt8), 45, 45, 45, 45]).length - dashP.length = ty.length := by rw [List.length_append]; show ty.length + 5 - 5 = _; omega
      rw [e9, List.drop_left' rfl] at h3
      exact absurd h3 (by decide)
/-- A block that does not begin a line. -/
theorem law_inline {before ty b : List UInt8} {ls : Hdrs} {o : Option Res} (hb : plainS before = true) (ht : plainS ty = true) (hl : PlainH ls) (h : Dec (before ++ writtenP ty ls b) o) : o = none := by
  have h10 : (10 : UInt8) ∉ before := fun h => (plain_no hb h).1 rfl
  have e := written_block (b := b) (ls := ls) ht []
  rw [List.append_nil] at e
  rw [e] at h
  obtain ⟨A, R, hA, c1, hidx, d10, d9, hlast⟩ := block_cut (q := goodQ [10] ty []) Eol.lf ht hl (b64_body b) (pre := before) (fun t => Skip.no10 h10)
  have hne : before ≠ [] := (plainC_of hb).2.1
  have hpos : 0 < before.length := List.length_pos_iff.2 hne
  have hst : ∀ o, StepR (before ++ blockT [10] ty ls (b64 b) (goodQ [10] ty [])) A.length o → o = .next := by
    intro o ho
    rcases ho with ⟨h, _⟩ | ⟨k, hk, _, h⟩
    · rw [hlast] at h; omega
    · rw [hlast] at hk
      obtain rfl : k = before.length := by omega
      rcases h with ⟨_, _, h⟩ | ⟨h, _⟩
      · exact h
      · exfalso
        have := h hpos
        rw [List.getElem?_append_left (by omega)] at this
        exact h10 (List.mem_of_getElem? this)
  rcases dec_step hidx hst h with ⟨h5, _⟩ | ⟨_, h6⟩ | ⟨r, h5, _⟩
  · cases h5
  · rw [d10] at h6
    refine dec_nothing ?_ h6
    have e3 : goodQ [10] ty [] = (ty ++ dashP) ++ [10] := by unfold goodQ; simp
    rw [e3]
    refine (Skip.no10 ?_).append (Skip.of_nd fun j hj _ h45 => ?_)
    · intro hm
      rw [List.mem_append] at hm
      rcases hm with hm | hm
      · exact (plain_no ht hm).1 rfl
      · revert hm; decide
    · obtain rfl : j = 0 := by simp at hj; omega
      cases h45
  · cases h5
/-- A block that does not end a line. -/
theorem law_behind {behind ty b : List UInt8} {ls : Hdrs} {o : Option Res} (hb : plainS behind = true) (ht : plainS ty = true) (hl : PlainH ls) (h : Dec (blockT [10] ty ls (b64 b) (ty ++ (dashP ++ (behind ++ [10])))) o) : o = none := by
  have hdl : dashP.length = 5 := rfl
  have e : ty ++ (dashP ++ (behind ++ [10])) = (ty ++ (dashP ++ behind)) ++ [10] ++ [] := by simp only [List.append_assoc, List.append_nil]
  have hg : GoodL (endP ++ (ty ++ (dashP ++ behind))) := by
    refine ⟨fun c hc => ?_, fun y hy => ?_⟩
    · rw [List.mem_append, List.mem_append, List.mem_append] at hc
      rcases hc with hc | hc | hc | hc
      · exact (show ∀ c ∈ endP, c ≠ 10 ∧ c ≠ 13 by decide) c hc
      · have := plain_no ht hc; exact ⟨this.1, this.2.2.2.1⟩
      · exact (show ∀ c ∈ dashP, c ≠ 10 ∧ c ≠ 13 by decide) c hc
      · have := plain_no hb hc; exact ⟨this.1, this.2.2.2.1⟩
    · have hbl := (plain_good hb).2
      have hne := (plainC_of hb).2.1
      rw [List.getLast?_append, List.getLast?_append, List.getLast?_append] at hy
      cases hq : behind.getLast? with
      | none => exact absurd (List.getLast?_eq_none_iff.1 hq) hne
      | some z =>
        rw [hq] at hy
        cases hy
        exact hbl _ hq
  have hq : (58 : UInt8) ∉ lineP (endP ++ (ty ++ (dashP ++ (behind ++ [10])))) := by
    rw [e]
    refine line58 hg ?_ _
    intro hm
    rw [List.mem_append, List.mem_append] at hm
    rcases hm with hm | hm | hm
    · exact (plain_no ht hm).2.1 rfl
    · revert hm; decide
    · exact (plain_no hb hm).2.1 rfl
  have hG : tailG ty ls (b64 b) (ty ++ (dashP ++ (behind ++ [10]))) = .next := by
    unfold tailG
    split
    · rfl
    · rw [if_neg]
      rintro ⟨_, _, h3⟩
      have hl2 : (ty ++ dashP).length = ty.length + 5 := by rw [List.length_append, hdl]
      rw [← List.append_assoc, ← hl2, List.drop_left' rfl] at h3
      have := (line_eol (plain_good hb) Eol.lf []).1
      rw [List.append_nil] at this
      rw [this] at h3
      exact (plainC_of hb).2.1 h3
  have h1 := dec_over (pre := []) ht hl (b64_body b) hq (fun t => Skip.nil _) (fun h => absurd h (by simp)) hG h
  refine dec_nothing ?_ h1
  rw [e, List.append_nil]
  refine (Skip.no10 ?_).append (Skip.of_nd fun j hj _ h45 => ?_)
  · intro hm
    rw [List.mem_append, List.mem_append] at hm
    rcases hm with hm | hm | hm
    · exact (plain_no ht hm).1 rfl
    · revert hm; decide
    · exact (plain_no hb hm).1 rfl
  · obtain rfl : j = 0 := by simp at hj; omega
    cases h45
end Go.Proofs.YtpjehmblndjknaaDoor
