/-
  Headers as cells: slices of headers that the text appends to.
-/
import Derived.Test.YtpjehmblndjknaaMem
import Derived.Laws.AppendOwnNone
import Derived.Lib.SlFresh
import Derived.Deep.RegionLaw
namespace Go.Proofs.Ytpjehmblndjknaa
open Go.RowKit Go.Maps
set_option linter.unusedSimpArgs false
set_option linter.unusedVariables false

def hcells (hs : Hdrs) : List Value := hs.flatMap fun p => [.string (bs p.1), .string (bs p.2)]
theorem hcells_len (hs : Hdrs) : (hcells hs).length = hs.length * 2 := by
  induction hs with
  | nil => rfl
  | cons p l ih => show ([_, _] ++ hcells l).length = _; rw [List.length_append, ih, List.length_cons]; simp; omega
theorem hcells_snoc (hs : Hdrs) (k v : List UInt8) : hcells (hs ++ [(k, v)]) = hcells hs ++ [.string (bs k), .string (bs v)] := by
  unfold hcells; rw [List.flatMap_append]; rfl
theorem hcells_one {hs : Hdrs} : ∀ u ∈ hcells hs, u.oneCell' = true := by
  intro u hu
  unfold hcells at hu
  rw [List.mem_flatMap] at hu
  obtain ⟨p, _, hp⟩ := hu
  simp only [List.mem_cons, List.not_mem_nil, or_false] at hp
  rcases hp with rfl | rfl <;> rfl
theorem hcells_even : ∀ (hs : Hdrs) (i : Nat), (hcells hs)[i * 2]? = (hs[i]?).map fun p => .string (bs p.1)
  | [], i => by simp [hcells]
  | p :: l, 0 => rfl
  | p :: l, i + 1 => by
    have e : (i + 1) * 2 = i * 2 + 1 + 1 := by omega
    rw [e]
    show (hcells l)[i * 2]? = _
    rw [hcells_even l i]; rfl
theorem hcells_odd : ∀ (hs : Hdrs) (i : Nat), (hcells hs)[i * 2 + 1]? = (hs[i]?).map fun p => .string (bs p.2)
  | [], i => by simp [hcells]
  | p :: l, 0 => rfl
  | p :: l, i + 1 => by
    have e : (i + 1) * 2 + 1 = i * 2 + 1 + 1 + 1 := by omega
    rw [e]
    show (hcells l)[i * 2 + 1]? = _
    rw [hcells_odd l i]; rfl

/-- What a slice of headers holds, cell by cell. -/
theorem Hd.cells {w : World} {v : Value} {hs : Hdrs} (h : Hd w v hs) : ∃ (p : Option Addr) (cap : Nat), v = .slice p hs.length cap ∧ ((p = none ∧ cap = 0 ∧ hs = []) ∨ ∃ a, p = some a ∧ ∀ (j : Nat) u, (hcells hs)[j]? = some u → w.cell? (a.add j) = some u) := by
  obtain ⟨p, cap, hv, ⟨hl, hn⟩, hc⟩ := h
  refine ⟨p, cap, hv, ?_⟩
  by_cases h0 : hs = []
  · cases p with
    | none => exact .inl ⟨rfl, hn rfl, h0⟩
    | some a => exact .inr ⟨a, rfl, fun j u hu => by rw [h0] at hu; simp [hcells] at hu⟩
  · obtain ⟨b, o, rfl, hcell⟩ := hc h0
    refine .inr ⟨_, rfl, fun j u hu => ?_⟩
    rw [addr_add]
    have hj : j < hs.length * 2 := by rw [← hcells_len]; exact (List.getElem?_eq_some_iff.1 hu).1
    have hi : j / 2 < hs.length := by omega
    obtain ⟨h1, h2⟩ := hcell (j / 2) _ (List.getElem?_eq_getElem hi)
    by_cases he : j % 2 = 0
    · have e : j = j / 2 * 2 := by omega
      have hu2 : (hcells hs)[j / 2 * 2]? = some u := by rw [← e]; exact hu
      rw [hcells_even, List.getElem?_eq_getElem hi] at hu2
      have e3 := Option.some.inj hu2
      rw [e, ← e3]; exact h1
    · have e : j = j / 2 * 2 + 1 := by omega
      have hu2 : (hcells hs)[j / 2 * 2 + 1]? = some u := by rw [← e]; exact hu
      rw [hcells_odd, List.getElem?_eq_getElem hi] at hu2
      have e3 := Option.some.inj hu2
      rw [e, ← e3, ← Nat.add_assoc]; exact h2
theorem Hd.of_owns {w : World} {base : Nat} {T : TypeId} {v : Value} {n : Nat} {hs : Hdrs} (h : w.ownsRow base T 2 v n (hcells hs)) : Hd w v hs := by
  obtain ⟨h1, h2⟩ := h
  have hn : n = hs.length := by rw [hcells_len] at h1; omega
  rcases h2 with ⟨rfl, h0⟩ | ⟨g, cap, cur, rfl, _, hg, hc, _, _, ht⟩
  · obtain rfl : hs = [] := List.eq_nil_of_length_eq_zero (by omega)
    exact Hd.nil w
  · subst hn
    refine ⟨_, cap, rfl, ⟨hc, fun h => by cases h⟩, fun _ => ⟨g, 0, rfl, fun i x hx => ?_⟩⟩
    have hi : i < hs.length := (List.getElem?_eq_some_iff.1 hx).1
    have key : ∀ (j : Nat) u, (hcells hs)[j]? = some u → w.cell? ⟨g, 0 + j, none⟩ = some u := by
      intro j u hu
      rw [cell_of_heap hg, Nat.zero_add, ← Array.getElem?_toList]
      rw [← ht, List.getElem?_take] at hu
      split at hu
      · exact hu
      · cases hu
    exact ⟨key (i * 2) _ (by rw [hcells_even, hx]; rfl), key (i * 2 + 1) _ (by rw [hcells_odd, hx]; rfl)⟩

theorem ownsRow_setCell {w : World} {base n size : Nat} {e : TypeId} {v : Value} {xs : List Value} (h : w.ownsRow base e size v n xs) {b : Nat} (hb : b < base) (i : Nat) (u : Value) : (w.setCell ⟨b, i, none⟩ u).ownsRow base e size v n xs := by
  refine ⟨h.1, ?_⟩
  rcases h.2 with h2 | ⟨g, cap, cur, rfl, hbase, hg, r⟩
  · exact .inl h2
  · exact .inr ⟨g, cap, cur, rfl, hbase, (Below.heap_setCell _ _ _ _ (fun e => by have e2 : g = b := e; omega)).trans hg, r⟩
theorem infoH : (Try.prog.info? 46).map (fun i => (i.zero, i.size, i.bytes)) = some (some (.agg #[.string ⟨#[]⟩, .string ⟨#[]⟩]), 2, 32) := by kernel_rfl
theorem infoG : (Try.prog.info? 49).map (fun i => (i.zero, i.size, i.bytes)) = some (some (.agg #[.string ⟨#[]⟩, .string ⟨#[]⟩]), 2, 32) := by kernel_rfl

/-- append(v0, u...), v0 of the call's own, u a slice of headers, from wherever. -/
theorem append_hd (t e : TypeId) (ht : Try.prog.underlying t = some (.slice e)) (he : (Try.prog.info? e).map (fun i => (i.zero, i.size, i.bytes)) = some (some (.agg #[.string ⟨#[]⟩, .string ⟨#[]⟩]), 2, 32)) (ty : TypeId) {w w0 : World} {base n0 : Nat} {v0 u : Value} {hs0 hs : Hdrs}
    (hown : w.ownsRow base e 2 v0 n0 (hcells hs0)) (hu : Hd w u hs) (hsz : n0 + hs.length ≤ 4294967297) (hbase : base ≤ w.heap.size) :
    ∃ v' w', (Builtin.append_ #[t, t] ty #[v0, u]).run Try.prog w = .ok v' w' ∧ w'.ownsRow base e 2 v' (n0 + hs.length) (hcells (hs0 ++ hs)) ∧ w.grownBy w' v0.ownBlock := by
  obtain ⟨i, hi, h1, h2, h3⟩ := info_parts he
  obtain ⟨p, cap, rfl, hc⟩ := hu.cells
  have happ : hcells (hs0 ++ hs) = hcells hs0 ++ hcells hs := by unfold hcells; rw [List.flatMap_append]
  rcases hc with ⟨rfl, rfl, rfl⟩ | ⟨a, rfl, hcell⟩
  · refine ⟨v0, w, run_append_owned_none w base t ty e i 2 ht hi v0 n0 _ hown, ?_, ⟨rfl, rfl, rfl, Nat.le_refl _, fun _ _ _ => rfl⟩⟩
    simpa using hown
  · obtain ⟨v', w', r1, r2, r3, _⟩ := run_append_own (P := Try.prog) (w := w) base t ty e i _ 2 32 ht hi h1 h2 h3 rfl (by decide) v0 n0 _ hown a hs.length cap (hcells hs) (hcells_len hs) hcell hcells_one (by unfold maxLen; omega) (by omega) hbase
    exact ⟨v', w', r1, by rw [happ]; exact r2, r3⟩
/-- append(v0, {k, v}): one header behind. -/
theorem append_hd1 (t e : TypeId) (ht : Try.prog.underlying t = some (.slice e)) (he : (Try.prog.info? e).map (fun i => (i.zero, i.size, i.bytes)) = some (some (.agg #[.string ⟨#[]⟩, .string ⟨#[]⟩]), 2, 32)) (ty : TypeId) {w : World} {base n0 : Nat} {v0 : Value} {hs0 : Hdrs} (k v : List UInt8)
    (hown : w.ownsRow base e 2 v0 n0 (hcells hs0)) (hsz : n0 + 1 ≤ 4294967297) (hbase : base ≤ w.heap.size) (T : TypeId) :
    ∃ v' w', (Builtin.append_ #[t, t] ty #[v0, .slice (some ⟨w.heap.size, 0, none⟩) 1 1]).run Try.prog (w.alloc (.cells #[.string (bs k), .string (bs v)] T)) = .ok v' w' ∧ w'.ownsRow base e 2 v' (n0 + 1) (hcells (hs0 ++ [(k, v)])) ∧ (w.alloc (.cells #[.string (bs k), .string (bs v)] T)).grownBy w' v0.ownBlock := by
  have hH : Hd (w.alloc (.cells #[.string (bs k), .string (bs v)] T)) (.slice (some ⟨w.heap.size, 0, none⟩) 1 1) [(k, v)] := by
    refine ⟨_, 1, rfl, ⟨Nat.le_refl _, fun h => by cases h⟩, fun _ => ⟨w.heap.size, 0, rfl, fun i x hx => ?_⟩⟩
    match i, hx with
    | 0, hx =>
      simp at hx
      subst hx
      exact ⟨by rw [cell_of_heap (heap_new w _)]; rfl, by rw [cell_of_heap (heap_new w _)]; rfl⟩
    | i + 1, hx => simp at hx
  exact append_hd (w0 := w) t e ht he ty (hown.alloc _) hH hsz (by rw [World.size_alloc]; omega)

/-- append as one step of a region that draws, its run known by an equation. -/
theorem step_append_run {P : Program} {ops : Array Oper} {o : Oper} {a : Act} {w : World} {K : Act → World → Prop} {Q : Exit → Act → World → Prop} {E : Prop}
    (hg : o.guard = none) (s x : Operand) (t : TypeId) (hop : o.op = Op.call { callee := Callee.builtin Builtin.append, args := #[s, x], argTypes := #[t, t] })
    (v u : Value) (hs : a.eval s = v) (hx : a.eval x = u) {v' : Value} {w' : World} (hr : (Builtin.append_ #[t, t] o.type #[v, u]).run P w = .ok v' w')
    (hK : K (a.put o.dst v') w') : if Region.wanted o (yielded ops a.tmps) = true then Oper.wp P o a w K Q else E := by
  have hw : Region.wanted o (yielded ops a.tmps) = true := by simp [Region.wanted, hg]
  rw [if_pos hw]
  unfold Oper.wp
  simp [execOp, hop, resolve, invoke, builtin, hs, hx, hr, Result.andThen]
  exact hK
end Go.Proofs.Ytpjehmblndjknaa
