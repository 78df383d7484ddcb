/-
  The stream encoder of base64 over the lineBreaker: what is held of its block.
-/
import Derived.Test.YtpjehmblndjknaaDoorB64W
import Derived.Test.YtpjehmblndjknaaDoorNewEnc
import Derived.Test.YtpjehmblndjknaaDoorBreakerU
namespace Go.Proofs.YtpjehmblndjknaaDoor
open Go.RowKit
set_option linter.unusedSimpArgs false
set_option linter.unusedVariables false

theorem setCells_other (b : Nat) : ∀ (vs : List Value) (o : Nat) (w : World) (k : Nat), k ≠ b → (w.setCells b o vs).heap[k]? = w.heap[k]?
  | [], _, _, _, _ => rfl
  | v :: r, o, w, k, hk => by
    show ((w.setCell ⟨b, o, none⟩ v).setCells b (o + 1) r).heap[k]? = _
    rw [setCells_other b r (o + 1) _ k hk, Below.heap_setCell _ _ _ _ hk]
theorem setCells_own (b : Nat) : ∀ (vs : List Value) (o : Nat) (w : World) (cs : Array Value) (T : TypeId) (fz : Nat × Nat), w.heap[b]? = some (.cells cs T fz) →
    ∃ cs' : Array Value, (w.setCells b o vs).heap[b]? = some (.cells cs' T fz) ∧ cs'.size = cs.size ∧ (∀ i, i < o ∨ o + vs.length ≤ i → cs'[i]? = cs[i]?) ∧ (o + vs.length ≤ cs.size → ∀ (j : Nat) v, vs[j]? = some v → cs'[o + j]? = some v)
  | [], _, w, cs, T, fz, h => ⟨cs, h, rfl, fun _ _ => rfl, fun _ j v hj => by simp at hj⟩
  | x :: r, o, w, cs, T, fz, h => by
    obtain ⟨cs', h1, h2, h3, h4⟩ := setCells_own b r (o + 1) (w.setCell ⟨b, o, none⟩ x) (cs.setIfInBounds o x) T fz (heap_set_same h x)
    rw [Array.size_setIfInBounds] at h2 h4
    refine ⟨cs', h1, h2, fun i hi => ?_, fun hl j v hj => ?_⟩
    · have hl : (x :: r).length = r.length + 1 := rfl
      rw [h3 i (by omega), Array.getElem?_setIfInBounds_ne (by omega)]
    · have hl2 : (x :: r).length = r.length + 1 := rfl
      cases j with
      | zero =>
        have hv : x = v := by simpa using hj
        subst hv
        rw [Nat.add_zero, h3 o (by omega), Array.getElem?_setIfInBounds_self_of_lt (by omega)]
      | succ j =>
        rw [show o + (j + 1) = o + 1 + j by omega]
        exact h4 (by omega) j v (by simpa using hj)

theorem SC.other {w w' : World} {b o : Nat} {vs : List UInt8} (h : SC w b o vs w') (k : Nat) (hk : k ≠ b) : w'.heap[k]? = w.heap[k]? := by
  obtain ⟨n, rfl⟩ := h
  exact setCells_other b _ o w k hk
theorem SC.own {w w' : World} {b o : Nat} {vs : List UInt8} (h : SC w b o vs w') {cs : Array Value} {T : TypeId} {fz : Nat × Nat} (hb : w.heap[b]? = some (.cells cs T fz)) :
    ∃ cs' : Array Value, w'.heap[b]? = some (.cells cs' T fz) ∧ cs'.size = cs.size ∧ (∀ i, i < o ∨ o + vs.length ≤ i → cs'[i]? = cs[i]?) ∧ (o + vs.length ≤ cs.size → ∀ (j : Nat) x, vs[j]? = some x → cs'[o + j]? = some (bv x)) := by
  obtain ⟨n, rfl⟩ := h
  obtain ⟨cs', h1, h2, h3, h4⟩ := setCells_own b (vs.map bv) o w cs T fz hb
  rw [List.length_map] at h3 h4
  exact ⟨cs', h1, h2, h3, fun hl j x hx => h4 hl j _ (by rw [List.getElem?_map, hx]; rfl)⟩
theorem SC.size {w w' : World} {b o : Nat} {vs : List UInt8} (h : SC w b o vs w') : w'.heap.size = w.heap.size := by
  obtain ⟨n, rfl⟩ := h
  show (w.setCells b o (vs.map bv)).heap.size = _
  generalize vs.map bv = ws
  clear vs
  induction ws generalizing w o with
  | nil => rfl
  | cons x r ih =>
    show ((w.setCell ⟨b, o, none⟩ x).setCells b (o + 1) r).heap.size = _
    rw [ih]
    simp [World.setCell]
theorem SC.below {w w' : World} {b o : Nat} {vs : List UInt8} (h : SC w b o vs w') {B : Nat} (hB : B ≤ b) : Below B w w' := by
  obtain ⟨n, rfl⟩ := h
  refine below_drewN ?_ n
  generalize vs.map bv = ws
  clear vs
  induction ws generalizing w o with
  | nil => exact Below.refl _ _
  | cons x r ih => exact ((Below.refl _ _).setCell hB x).trans (ih (w := w.setCell ⟨b, o, none⟩ x) (o := o + 1))
theorem SC.keepW {w w' : World} {b o : Nat} {vs : List UInt8} (h : SC w b o vs w') {bb : Nat} {cs : Array Value} {T : TypeId} {fz : Nat × Nat} (hb : w.heap[b]? = some (.cells cs T fz)) (hT : T ≠ 5) (hne : b ≠ bb) : KeepW bb w w' := by
  intro k x hk hx
  have hkb : k ≠ b := by
    rintro rfl
    rw [hb] at hk
    rcases hx with e | ⟨c, fz', e⟩
    · exact hne e
    · rw [← Option.some.inj hk] at e
      injection e with _ e2 _
      exact hT e2
  rw [h.other k hkb]
  exact hk
theorem SC.frL {w w' : World} {b o : Nat} {vs : List UInt8} (h : SC w b o vs w') {B : Nat} (hB : B ≤ b) {bs : List Nat} (hbs : b ∈ bs) : FrL B bs w w' :=
  ⟨h.below hB, fun k x hk hkb _ => by rw [h.other k (fun e => hkb (e ▸ hbs))]; exact hk⟩
theorem SC.src {w w' : World} {b o : Nat} {vs : List UInt8} (h : SC w b o vs w') {cs : Array Value} {T : TypeId} {fz : Nat × Nat} (hb : w.heap[b]? = some (.cells cs T fz)) (hl : o + vs.length ≤ cs.size) : Src w' b o vs := by
  obtain ⟨cs', h1, _, _, h4⟩ := h.own hb
  intro i x hx
  rw [cell_of_heap h1]
  exact h4 hl i x hx

/-- The encoder in block nb: its Encoding in block eb, its lineBreaker in block b, pend: the bytes that wait. -/
def ESt (w : World) (nb eb b : Nat) (pend : List UInt8) : Prop :=
  ∃ cs : Array Value, w.heap[nb]? = some (.cells cs 133 (0, 0)) ∧ cs.size = 1031 ∧ cs[0]? = some .nilIface ∧ cs[1]? = some (.pointer (some ⟨eb, 0, none⟩)) ∧ cs[2]? = some (.iface 110 (.pointer (some ⟨b, 0, none⟩))) ∧
    (∀ (j : Nat) x, pend[j]? = some x → cs[3 + j]? = some (bv x)) ∧ cs[6]? = some (.int .i64 (pend.length : Int)) ∧ pend.length ≤ 2

theorem ESt.frL {w w' : World} {nb eb b : Nat} {pend : List UInt8} (h : ESt w nb eb b pend) {B : Nat} {bs : List Nat} (hf : FrL B bs w w') (hn : nb ∉ bs) : ESt w' nb eb b pend := by
  obtain ⟨cs, hb, r⟩ := h
  refine ⟨cs, hf.2 nb _ hb hn ?_, r⟩
  intro c fz e
  injection e with _ e2 _
  exact absurd e2 (by decide)
theorem ESt.drew {w : World} {nb eb b : Nat} {pend : List UInt8} (h : ESt w nb eb b pend) : ESt w.drew nb eb b pend := h
theorem ESt.sc {w w' : World} {nb eb b : Nat} {pend : List UInt8} (h : ESt w nb eb b pend) {vs : List UInt8} (hs : SC w nb 7 vs w') : ESt w' nb eb b pend := by
  obtain ⟨cs, hb, h1, h2, h3, h4, h5, h6, h7⟩ := h
  obtain ⟨cs', g1, g2, g3, _⟩ := hs.own hb
  refine ⟨cs', g1, g2.trans h1, ?_, ?_, ?_, fun j x hx => ?_, ?_, h7⟩
  · rw [g3 0 (.inl (by omega))]; exact h2
  · rw [g3 1 (.inl (by omega))]; exact h3
  · rw [g3 2 (.inl (by omega))]; exact h4
  · have hj : j < pend.length := (List.getElem?_eq_some_iff.1 hx).1
    rw [g3 (3 + j) (.inl (by omega))]; exact h5 j x hx
  · rw [g3 6 (.inl (by omega))]; exact h6
section
variable {w : World} {nb eb b : Nat} {pend : List UInt8}
theorem ESt.c0 (h : ESt w nb eb b pend) : w.cell? ⟨nb, 0, none⟩ = some .nilIface := by
  obtain ⟨cs, hb, _, h2, _⟩ := h
  rw [cell_of_heap hb]; exact h2
theorem ESt.c1 (h : ESt w nb eb b pend) : w.cell? ⟨nb, 1, none⟩ = some (.pointer (some ⟨eb, 0, none⟩)) := by
  obtain ⟨cs, hb, _, _, h3, _⟩ := h
  rw [cell_of_heap hb]; exact h3
theorem ESt.c2 (h : ESt w nb eb b pend) : w.cell? ⟨nb, 2, none⟩ = some (.iface 110 (.pointer (some ⟨b, 0, none⟩))) := by
  obtain ⟨cs, hb, _, _, _, h4, _⟩ := h
  rw [cell_of_heap hb]; exact h4
theorem ESt.c6 (h : ESt w nb eb b pend) : w.cell? ⟨nb, 6, none⟩ = some (.int .i64 (pend.length : Int)) := by
  obtain ⟨cs, hb, _, _, _, _, _, h6, _⟩ := h
  rw [cell_of_heap hb]; exact h6
theorem ESt.f (h : ESt w nb eb b pend) (j : Nat) : w.frozen? ⟨nb, j, none⟩ = false := by
  obtain ⟨cs, hb, _⟩ := h
  exact frozen_of_heap hb j
theorem ESt.there (h : ESt w nb eb b pend) : w.there nb 7 1024 := by
  obtain ⟨cs, hb, h1, _⟩ := h
  intro j hj
  refine ⟨?_, frozen_of_heap hb _⟩
  rw [cell_of_heap hb, Array.getElem?_eq_getElem (by omega)]; rfl
theorem ESt.blk (h : ESt w nb eb b pend) : ∃ cs : Array Value, w.heap[nb]? = some (.cells cs 133 (0, 0)) ∧ cs.size = 1031 := by
  obtain ⟨cs, hb, h1, _⟩ := h
  exact ⟨cs, hb, h1⟩
theorem ESt.src (h : ESt w nb eb b pend) : Src w nb 3 pend := by
  obtain ⟨cs, hb, _, _, _, _, h5, _⟩ := h
  intro i x hx
  rw [cell_of_heap hb]; exact h5 i x hx
/-- The error is set to none. -/
theorem ESt.err (h : ESt w nb eb b pend) : ESt (w.setCell ⟨nb, 0, none⟩ .nilIface) nb eb b pend := by
  obtain ⟨cs, hb, h1, h2, h3, h4, h5, h6, h7⟩ := h
  refine ⟨_, heap_set_same hb _, by rw [Array.size_setIfInBounds]; exact h1, by rw [Array.getElem?_setIfInBounds_self_of_lt (by omega)], ?_, ?_, fun j x hx => ?_, ?_, h7⟩
  · rw [Array.getElem?_setIfInBounds_ne (by omega)]; exact h3
  · rw [Array.getElem?_setIfInBounds_ne (by omega)]; exact h4
  · rw [Array.getElem?_setIfInBounds_ne (by omega)]; exact h5 j x hx
  · rw [Array.getElem?_setIfInBounds_ne (by omega)]; exact h6
end
theorem Enc.fr {w w' : World} {eb : Nat} (h : Enc w eb) {B : Nat} {bs : List Nat} (hf : FrL B bs w w') (hn : eb ∉ bs) : Enc w' eb := by
  obtain ⟨cs, hb, r⟩ := h
  refine ⟨cs, hf.2 eb _ hb hn ?_, r⟩
  intro c fz e
  injection e with _ e2 _
  exact absurd e2 (by decide)
theorem Enc.other {w w' : World} {eb : Nat} (h : Enc w eb) (he : w'.heap[eb]? = w.heap[eb]?) : Enc w' eb := by
  obtain ⟨cs, hb, r⟩ := h
  exact ⟨cs, he.trans hb, r⟩
end Go.Proofs.YtpjehmblndjknaaDoor
