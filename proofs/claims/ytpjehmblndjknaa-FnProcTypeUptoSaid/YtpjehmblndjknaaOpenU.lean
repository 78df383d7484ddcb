/-
  Arguments as they are handed in, with what the bound on their bulk gives.
-/
import Derived.Test.YtpjehmblndjknaaOpenB
import Derived.Test.YtpjehmblndjknaaRows
namespace Go.Proofs.Ytpjehmblndjknaa
open Go.RowKit Go.Maps Go.ChangeShapes Go.WideShapes Go.ChangeAt Go.Joins
set_option linter.unusedSimpArgs false
set_option linter.unusedVariables false

theorem bulk_pos {H : Type} (d : DataW H) : 1 ≤ Rows.uptoBulk d := by
  cases d with
  | lit l => cases l <;> simp [Rows.uptoBulk]
  | _ => simp [Rows.uptoBulk]
theorem bulk_part {H : Type} {d : DataW H} {l : List (DataW H)} (h : d ∈ l) : Rows.uptoBulk d ≤ Rows.uptoBulkAll l := by
  induction l with
  | nil => cases h
  | cons x r ih =>
    rw [Rows.uptoBulkAll]
    rcases List.mem_cons.1 h with e | e
    · subst e; omega
    · have := ih e; omega
theorem ubulk_len {H : Type} (l : List (DataW H)) : l.length ≤ Rows.uptoBulkAll l := by
  induction l with
  | nil => simp
  | cons x r ih => rw [Rows.uptoBulkAll, List.length_cons]; have := bulk_pos x; omega
theorem bulk_str {H : Type} (l : List UInt8) : Rows.uptoBulk (DataW.lit (H := H) (.string l)) = l.length + 1 := by rw [Rows.uptoBulk]
theorem bulk_elems {H : Type} (a b : List (DataW H)) : Rows.uptoBulkAll a ≤ Rows.uptoBulk (.slice a b) := by rw [Rows.uptoBulk]; omega
theorem bulk_agg {H : Type} (a : List (DataW H)) : Rows.uptoBulkAll a ≤ Rows.uptoBulk (.agg a) := by rw [Rows.uptoBulk]; omega

section
variable {H : Type} {enc : TypeId × Value → H} {W : World} {base : Nat} {held : Bool} {fuel : Nat}

theorem open_bytes_u {cs : List Value} {x : DataW H × List MemPlace} (h : DataW.trod enc Try.prog W base (fun _ => true) held fuel 22 cs = some x) :
    ∃ (q : Option Addr) (bc : Nat) (d : List UInt8), cs = [.slice q d.length bc] ∧ Sl W (.slice q d.length bc) d ∧ bc ≤ 9223372036854775807 ∧ (q = none → bc = 0) ∧ d.length ≤ bc ∧ d.length ≤ Rows.uptoBulk x.1 := by
  obtain ⟨q, bc, d, rfl, hS, hb, hq, hl⟩ := open_bytes h
  refine ⟨q, bc, d, rfl, hS, hb, hq, hl, ?_⟩
  rcases open_ints Try.underlying22 Try.underlying5 (by kernel_rfl) h with ⟨e, _⟩ | ⟨a, len, cap, zs, e, _, hl2, hm, hz, hx, _⟩
  · simp at e
    rw [e.2.1]; exact Nat.zero_le _
  · simp at e
    obtain ⟨-, e2, -⟩ := e
    rw [hx, e2]
    refine Nat.le_trans ?_ (bulk_elems _ _)
    refine Nat.le_trans ?_ (ubulk_len _)
    have hz2 : zs.length = cap := by simpa using hz
    unfold lits
    rw [List.length_map, List.length_take]
    omega

theorem open_hdrs_u {cs : List Value} {x : DataW H × List MemPlace} (h : DataW.trod enc Try.prog W base (fun _ => true) held fuel 29 cs = some x) :
    ∃ (v : Value) (hs : Hdrs), cs = [v] ∧ Hd W v hs ∧ hs.length ≤ Rows.uptoBulk x.1 ∧ ∀ p ∈ hs, p.1.length ≤ Rows.uptoBulk x.1 ∧ p.2.length ≤ Rows.uptoBulk x.1 := by
  rcases Deep.open_slice_pairs Try.underlying29 Try.underlying46 (by kernel_rfl) (by kernel_rfl) (by kernel_rfl) (by kernel_rfl) (by kernel_rfl) h with ⟨rfl, _⟩ | ⟨a, len, cap, m, n, V0, V1, D0, D1, P0, P1, rfl, _, hl, hm, hmm, hxx, hcell⟩
  · exact ⟨_, [], rfl, Hd.nil W, by simp, fun p hp => by (cases hp)⟩
  · have hmc : m = cap := by simpa using hmm
    subst hmc
    have each : ∀ i, i < m → ∃ q : ByteArray × ByteArray, W.cell? (a.add (i * 2)) = some (.string q.1) ∧ W.cell? (a.add (i * 2 + 1)) = some (.string q.2) ∧ D0 i = .lit (.string q.1.data.toList) ∧ D1 i = .lit (.string q.2.data.toList) := by
      intro i hi
      obtain ⟨h1, h2, h3, h4⟩ := hcell i hi
      obtain ⟨s1, e1, x1, l1⟩ := DataW.trod_string Try.underlying9 h3
      obtain ⟨s2, e2, x2, l2⟩ := DataW.trod_string Try.underlying9 h4
      simp at e1 e2
      exact ⟨(s1, s2), by rw [h1, e1], by rw [h2, e2], congrArg Prod.fst x1, congrArg Prod.fst x2⟩
    obtain ⟨q, hq⟩ := Deep.choose_lt each
    refine ⟨_, (List.range len).map fun i => ((q i).1.data.toList, (q i).2.data.toList), rfl, ⟨some a, m, by simp, ⟨by simpa using hl, fun h => by (cases h)⟩, fun hne => ?_⟩, ?_, fun p hp => ?_⟩
    · have hpos : 0 < len := by
        rcases Nat.eq_zero_or_pos len with h0 | h0
        · subst h0; simp at hne
        · exact h0
      obtain ⟨b, o, spot⟩ := a
      have h0 := (hq 0 (by omega)).1
      have hsp : spot = none := by simpa [Addr.add] using World.cell?_spot h0
      subst hsp
      refine ⟨b, o, rfl, fun i x hx => ?_⟩
      have hi : i < len := by
        have := (List.getElem?_eq_some_iff.1 hx).1
        simpa using this
      obtain ⟨h1, h2, _⟩ := hq i (by omega)
      rw [addr_add] at h1 h2
      have hx2 : x = ((q i).1.data.toList, (q i).2.data.toList) := by
        rw [List.getElem?_map, List.getElem?_range hi] at hx
        simpa using hx.symm
      subst hx2
      exact ⟨by rw [h1, bs_of], by rw [← Nat.add_assoc] at h2; rw [h2, bs_of]⟩
    · rw [hxx]
      refine Nat.le_trans ?_ (Nat.le_trans (ubulk_len _) (bulk_elems _ _))
      simp
    · obtain ⟨i, hi, rfl⟩ := List.mem_map.1 hp
      rw [List.mem_range] at hi
      obtain ⟨_, _, x1, x2⟩ := hq i (by omega)
      have hmem : (DataW.agg [D0 i, D1 i]) ∈ (List.range len).map fun i => DataW.agg [D0 i, D1 i] := List.mem_map.2 ⟨i, List.mem_range.2 hi, rfl⟩
      have hle := Nat.le_trans (bulk_part hmem) (bulk_elems _ ((List.range (m - len)).map fun j => .agg [D0 (len + j), D1 (len + j)]))
      have hle2 := Nat.le_trans (bulk_agg _) hle
      rw [hxx]
      rw [x1, x2] at hle2
      simp only [Rows.uptoBulkAll, bulk_str] at hle2
      simp only
      constructor <;> omega

set_option maxRecDepth 100000 in
theorem open_block_u {r : Reach} {b0 : Nat} {v : Value} {d : DataW H} {p : List MemPlace} (hv : Value.okWide Try.prog W r b0 31 v) (h : DataW.Trod enc Try.prog W base (fun _ => true) held 31 v d p) :
    ∃ (ty by_ : List UInt8) (hv : Value) (q : Option Addr) (bc : Nat) (hs : Hdrs), v = .agg #[.string (bs ty), hv, .slice q by_.length bc] ∧ Hd W hv hs ∧ Sl W (.slice q by_.length bc) by_ ∧ bc ≤ 9223372036854775807 ∧
      ty.length ≤ Rows.uptoBulk d ∧ hs.length ≤ Rows.uptoBulk d ∧ by_.length ≤ Rows.uptoBulk d ∧ ∀ p ∈ hs, p.1.length ≤ Rows.uptoBulk d ∧ p.2.length ≤ Rows.uptoBulk d := by
  obtain ⟨v0, v1, v2, y0, y1, y2, n, rfl, hd, _, t0, t1, t2⟩ := open_agg3 Try.underlying31 (by kernel_rfl) (by kernel_rfl) hv h
  obtain ⟨s, e0, x0, l0⟩ := DataW.trod_string Try.underlying9 t0
  obtain ⟨hv, hs, e1, hH, hn, hx⟩ := open_hdrs_u t1
  obtain ⟨q, bc, by_, e2, hS, hbc, _, _, hdl⟩ := open_bytes_u t2
  simp at e0 e1 e2
  subst e0; subst e1; subst e2
  have hx0 : y0.1 = .lit (.string s.data.toList) := congrArg Prod.fst x0
  have hall : Rows.uptoBulk y0.1 + (Rows.uptoBulk y1.1 + (Rows.uptoBulk y2.1 + 0)) ≤ Rows.uptoBulk d := by
    have h3 := bulk_agg [y0.1, y1.1, y2.1]
    simp only [Rows.uptoBulkAll] at h3
    rw [hd]; exact h3
  have hs0 : s.data.toList.length ≤ Rows.uptoBulk y0.1 := by rw [hx0, bulk_str]; omega
  refine ⟨s.data.toList, by_, v1, q, bc, hs, by rw [bs_of], hH, hS, hbc, by omega, by omega, by omega, fun p hp => ?_⟩
  have := hx p hp
  omega
end
end Go.Proofs.Ytpjehmblndjknaa
