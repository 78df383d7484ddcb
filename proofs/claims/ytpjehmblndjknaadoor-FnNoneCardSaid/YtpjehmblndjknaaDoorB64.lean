/-
  Walk: (*base64.Encoding).Encode: it writes b64 of its source's bytes at its destination's beginning.
-/
import Derived.Test.YtpjehmblndjknaaDoorWriter
import Derived.Test.YtpjehmblndjknaaDoorPlain
import Derived.BigQuiet
import Derived.Deep.QuietTactic
import Derived.Deep.MidRow
namespace Go.Proofs.YtpjehmblndjknaaDoor
open Go.RowKit
set_option linter.unusedSimpArgs false
set_option linter.unusedVariables false

/-- The 64 characters. -/
def alpha : List UInt8 := [65,66,67,68,69,70,71,72,73,74,75,76,77,78,79,80,81,82,83,84,85,86,87,88,89,90,97,98,99,100,101,102,103,104,105,106,107,108,109,110,111,112,113,114,115,116,117,118,119,120,121,122,48,49,50,51,52,53,54,55,56,57,43,47]
def aq (n : Nat) : UInt8 := alpha.getD (n % 64) 0
/-- base64 of some bytes, with padding. -/
def b64 : List UInt8 → List UInt8
  | a :: b :: c :: r => aq (a.toNat / 4) :: aq (a.toNat % 4 * 16 + b.toNat / 16) :: aq (b.toNat % 16 * 4 + c.toNat / 64) :: aq (c.toNat % 64) :: b64 r
  | [a, b] => [aq (a.toNat / 4), aq (a.toNat % 4 * 16 + b.toNat / 16), aq (b.toNat % 16 * 4), 61]
  | [a] => [aq (a.toNat / 4), aq (a.toNat % 4 * 16), 61, 61]
  | [] => []

/-- An Encoding in block eb. -/
def Enc (w : World) (eb : Nat) : Prop := ∃ cs : Array Value, w.heap[eb]? = some (.cells cs 80 (0, 0)) ∧ (∀ i, i < 64 → cs[i]? = some (bv (aq i))) ∧ cs[320]? = some (.int .i32 61)

theorem Enc.c {w : World} {eb : Nat} (h : Enc w eb) (i : Nat) (hi : i < 64) : w.cell? ⟨eb, i, none⟩ = some (.int .u8 ((aq i).toNat : Int)) := by
  obtain ⟨cs, hb, h1, _⟩ := h
  rw [cell_of_heap hb]; exact h1 i hi
theorem Enc.pad {w : World} {eb : Nat} (h : Enc w eb) : w.cell? ⟨eb, 320, none⟩ = some (.int .i32 61) := by
  obtain ⟨cs, hb, _, h2⟩ := h
  rw [cell_of_heap hb]; exact h2


def alphaV : List Value := (List.range 64).map fun i => bv (aq i)
theorem Enc.range {w : World} {eb : Nat} (h : Enc w eb) : w.rangeAt eb 0 alphaV := by
  obtain ⟨cs, hb, h1, _⟩ := h
  intro j v hv
  unfold alphaV at hv
  rw [List.getElem?_map] at hv
  obtain ⟨i, hi, rfl⟩ := Option.map_eq_some_iff.1 hv
  rw [cell_of_heap hb, Nat.zero_add]
  have hi2 := List.getElem?_eq_some_iff.1 hi
  obtain ⟨hj, hi2⟩ := hi2
  rw [List.getElem_range] at hi2
  subst hi2
  exact h1 j (by simpa using hj)
theorem alphaV_len : (Tryd.prog.info? 78).map (·.size) = some alphaV.length := by kernel_rfl



theorem wraps_u64 (n : Int) (h₀ : 0 ≤ n) (h₁ : n < 2 ^ 64) : IntKind.u64.wrap n = n := by rw [IntKind.wrap_u64]; omega
theorem u64_and63 (x : Nat) (h : x ≤ 16777215) : bits .and .u64 (x : Int) 63 = ((x % 64 : Nat) : Int) := by
  have h2 := bits_mask .u64 64 (by decide) wraps_u64 6 (by decide) (x : Int) (by omega) (by omega)
  have e : ((2 : Int) ^ 6 - 1) = 63 := by decide
  rw [e] at h2
  rw [h2]; omega
theorem or_8 (x y : Nat) (hx : x ≤ 255) (hy : y ≤ 255) : bits .or .u64 ((x : Int) * 65536) ((y : Int) * 256) = ((x * 65536 + y * 256 : Nat) : Int) := by
  have h2 := bits_join .u64 64 (by decide) wraps_u64 16 ((x : Int) * 65536) ((y : Int) * 256) (by omega) (by omega) (by omega) (by omega) (by omega) (by omega)
  rw [h2]; omega
theorem or_0 (x y : Nat) (hx : x * 256 ≤ 16777215) (hy : y ≤ 255) : bits .or .u64 ((x * 256 : Nat) : Int) (y : Int) = ((x * 256 + y : Nat) : Int) := by
  have h2 := bits_join .u64 64 (by decide) wraps_u64 8 ((x * 256 : Nat) : Int) (y : Int) (by omega) (by omega) (by omega) (by omega) (by omega) (by omega)
  rw [h2]; omega
theorem or_all (a b c : UInt8) : bits .or .u64 (bits .or .u64 ((a.toNat : Int) * 65536) ((b.toNat : Int) * 256)) (c.toNat : Int) = ((a.toNat * 65536 + b.toNat * 256 + c.toNat : Nat) : Int) := by
  have ha := a.toNat_lt; have hb := b.toNat_lt; have hc := c.toNat_lt
  rw [or_8 _ _ (by omega) (by omega), show a.toNat * 65536 + b.toNat * 256 = (a.toNat * 256 + b.toNat) * 256 by omega, or_0 _ _ (by omega) (by omega)]

theorem setCells_snoc (b : Nat) (x : Value) : ∀ (vs : List Value) (o : Nat) (w : World), w.setCells b o (vs ++ [x]) = (w.setCells b o vs).setCell ⟨b, o + vs.length, none⟩ x
  | [], o, w => rfl
  | v :: r, o, w => by
    show (w.setCell _ v).setCells b (o + 1) (r ++ [x]) = _
    rw [setCells_snoc b x r (o + 1)]
    show ((w.setCell ⟨b, o, none⟩ v).setCells b (o + 1) r).setCell _ x = _
    rw [show o + 1 + r.length = o + (v :: r).length by simp; omega]
    rfl

/-- The world behind some stores, one behind the other, and some draws. -/
def SC (w : World) (b o : Nat) (vs : List UInt8) (w' : World) : Prop := ∃ n, w' = (w.setCells b o (vs.map bv)).drewN n
theorem SC.refl (w : World) (b o : Nat) : SC w b o [] w := ⟨0, rfl⟩
theorem SC.drewN {w w' : World} {b o : Nat} {vs : List UInt8} (h : SC w b o vs w') (m : Nat) : SC w b o vs (w'.drewN m) := by
  obtain ⟨n, rfl⟩ := h
  exact ⟨n + m, by show World.mk .. = World.mk ..; congr 1; exact Nat.add_assoc _ _ _⟩
theorem SC.snoc {w w' : World} {b o : Nat} {vs : List UInt8} (h : SC w b o vs w') (x : UInt8) {k : Nat} (hk : k = o + vs.length) : SC w b o (vs ++ [x]) (w'.setCell ⟨b, k, none⟩ (.int .u8 (x.toNat : Int))) := by
  obtain ⟨n, rfl⟩ := h
  subst hk
  refine ⟨n, ?_⟩
  rw [List.map_append, List.map_singleton, setCells_snoc, List.length_map]
  rfl
theorem SC.cell {w w' : World} {b o : Nat} {vs : List UInt8} (h : SC w b o vs w') (b' i : Nat) (hb : b' ≠ b ∨ i < o) : w'.cell? ⟨b', i, none⟩ = w.cell? ⟨b', i, none⟩ := by
  obtain ⟨n, rfl⟩ := h
  show (w.setCells b o (vs.map bv)).cell? _ = _
  exact World.cell?_setCells_out b _ o w _ (fun e _ => hb.elim (fun g => absurd e g) (fun g => .inl g))
theorem SC.there {w w' : World} {b o : Nat} {vs : List UInt8} (h : SC w b o vs w') {b' o' n : Nat} (ht : w.there b' o' n) : w'.there b' o' n := by
  obtain ⟨m, rfl⟩ := h
  exact World.there_setCells ht b o _
theorem SC.frozen {w w' : World} {b o : Nat} {vs : List UInt8} (h : SC w b o vs w') (p : Addr) : w'.frozen? p = w.frozen? p := by
  obtain ⟨m, rfl⟩ := h
  exact World.frozen?_setCells b _ o w p

theorem b64_cons (a b c : UInt8) (r : List UInt8) : b64 (a :: b :: c :: r) = [aq (a.toNat / 4), aq (a.toNat % 4 * 16 + b.toNat / 16), aq (b.toNat % 16 * 4 + c.toNat / 64), aq (c.toNat % 64)] ++ b64 r := by
  rw [b64]; rfl
theorem b64_append : ∀ (k : Nat) (x y : List UInt8), x.length = 3 * k → b64 (x ++ y) = b64 x ++ b64 y
  | 0, x, y, h => by
    obtain rfl : x = [] := List.eq_nil_of_length_eq_zero (by omega)
    rfl
  | k + 1, x, y, h => by
    match x, h with
    | a :: b :: c :: r, h =>
      have h3 : r.length = 3 * k := by simp at h; omega
      rw [List.cons_append, List.cons_append, List.cons_append, b64_cons, b64_cons, b64_append k r y h3, List.append_assoc]
theorem b64_length3 : ∀ (k : Nat) (x : List UInt8), x.length = 3 * k → (b64 x).length = 4 * k
  | 0, x, h => by
    obtain rfl : x = [] := List.eq_nil_of_length_eq_zero (by omega)
    rfl
  | k + 1, x, h => by
    match x, h with
    | a :: b :: c :: r, h =>
      have h3 : r.length = 3 * k := by simp at h; omega
      rw [b64_cons, List.length_append, b64_length3 k r h3]
      simp; omega
theorem b64_length (l : List UInt8) : (b64 l).length = 4 * ((l.length + 2) / 3) := by
  have h1 := List.take_append_drop (3 * (l.length / 3)) l
  have h2 : (l.take (3 * (l.length / 3))).length = 3 * (l.length / 3) := by rw [List.length_take]; omega
  have h3 : (l.drop (3 * (l.length / 3))).length = l.length % 3 := by rw [List.length_drop]; omega
  have h4 := b64_append _ _ (l.drop (3 * (l.length / 3))) h2
  rw [h1] at h4
  rw [h4, List.length_append, b64_length3 _ _ h2]
  generalize l.drop (3 * (l.length / 3)) = d at *
  match d, h3 with
  | [], h3 => simp [b64] at *; omega
  | [a], h3 => simp [b64] at *; omega
  | [a, b], h3 => simp [b64] at *; omega
  | a :: b :: c :: r, h3 => simp at h3; omega
theorem b64_round (l : List UInt8) (k : Nat) (a b c : UInt8) (ha : l[3 * k]? = some a) (hb : l[3 * k + 1]? = some b) (hc : l[3 * k + 2]? = some c) :
    b64 (l.take (3 * (k + 1))) = b64 (l.take (3 * k)) ++ [aq (a.toNat / 4)] ++ [aq (a.toNat % 4 * 16 + b.toNat / 16)] ++ [aq (b.toNat % 16 * 4 + c.toNat / 64)] ++ [aq (c.toNat % 64)] := by
  have hl : 3 * k + 2 < l.length := (List.getElem?_eq_some_iff.1 hc).1
  have e : l.take (3 * (k + 1)) = l.take (3 * k) ++ [a, b, c] := by
    rw [show 3 * (k + 1) = 3 * k + 1 + 1 + 1 by omega, List.take_add_one, List.take_add_one, List.take_add_one, ha, hb, hc]
    simp
  rw [e, b64_append k _ _ (by rw [List.length_take]; omega)]
  simp [b64]

/-- The four characters' numbers. -/
theorem quad (a b c V : Nat) (ha : a ≤ 255) (hb : b ≤ 255) (hc : c ≤ 255) (hV : V = a * 65536 + b * 256 + c) :
    V / 262144 % 64 = a / 4 ∧ V / 4096 % 64 = a % 4 * 16 + b / 16 ∧ V / 64 % 64 = b % 16 * 4 + c / 64 ∧ V % 64 = c % 64 := by omega
theorem aq_mod (n : Nat) : aq (n % 64) = aq n := by unfold aq; rw [Nat.mod_mod]
end Go.Proofs.YtpjehmblndjknaaDoor
