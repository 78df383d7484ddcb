/-
  Arguments of type impl.Block, as they are handed in.
-/
import Derived.Test.YtpjehmblndjknaaHcell
import Derived.ProofKit
import Derived.OpenShut
import Derived.ShutString
import Derived.ChangeOld
import Derived.Lib.SmallJoins
import Derived.Deep.SlicePairs
import Derived.Lib.Bytes
namespace Go.Proofs.Ytpjehmblndjknaa
open Go.RowKit Go.Maps Go.ChangeShapes Go.WideShapes Go.ChangeAt Go.Joins
set_option linter.unusedSimpArgs false
set_option linter.unusedVariables false

theorem byte_wf2 {n : Int} (h : (Lit.int .u8 n).wf = true) : ((UInt8.ofNat n.toNat).toNat : Int) = n := by
  have hx : 0 ≤ n ∧ n ≤ 255 := by simpa [Lit.wf, IntKind.min, IntKind.max, IntKind.signed, IntKind.bits] using h
  rw [UInt8.toNat_ofNat']
  omega

section
variable {H : Type} {enc : TypeId × Value → H} {W : World} {base : Nat} {held : Bool} {fuel : Nat}

/-- A slice of bytes. -/
theorem open_bytes {cs : List Value} {x : DataW H × List MemPlace} (h : DataW.trod enc Try.prog W base (fun _ => true) held fuel 22 cs = some x) :
    ∃ (q : Option Addr) (bc : Nat) (d : List UInt8), cs = [.slice q d.length bc] ∧ Sl W (.slice q d.length bc) d ∧ bc ≤ 9223372036854775807 ∧ (q = none → bc = 0) ∧ d.length ≤ bc := by
  rcases open_ints Try.underlying22 Try.underlying5 (by kernel_rfl) h with ⟨rfl, _⟩ | ⟨a, len, cap, zs, rfl, _, hl, hm, hz, _, hcell, hwf⟩
  · exact ⟨none, 0, [], rfl, Sl.nil W, by omega, fun _ => rfl, Nat.le_refl _⟩
  · have hz2 : zs.length = cap := by simpa using hz
    have hlen : (Lib.bytesOf (zs.take len)).length = len := by rw [Lib.bytesOf_length, List.length_take]; omega
    unfold maxLen at hm
    refine ⟨some a, cap, Lib.bytesOf (zs.take len), by rw [hlen], ⟨some a, cap, rfl, by rw [hlen]; exact hl, fun hne => ?_⟩, hm, fun h => by (cases h), by rw [hlen]; exact hl⟩
    have hpos : 0 < len := by rw [← hlen]; exact List.length_pos_iff.2 hne
    obtain ⟨b, o, spot⟩ := a
    have h0 := hcell 0 (by omega)
    have hsp : spot = none := by simpa [Addr.add] using World.cell?_spot h0
    subst hsp
    refine ⟨b, o, rfl, fun i x hx => ?_⟩
    have hi : i < len := by rw [← hlen]; exact (List.getElem?_eq_some_iff.1 hx).1
    have h1 := hcell i (by omega)
    rw [addr_add] at h1
    rw [h1]
    unfold Lib.bytesOf at hx
    rw [List.getElem?_map, List.getElem?_take, if_pos hi] at hx
    obtain ⟨n, hn1, rfl⟩ := Option.map_eq_some_iff.1 hx
    rw [byte_wf2 (hwf n (List.mem_of_getElem? hn1))]
    simp [List.getD, hn1]

/-- A slice of headers. -/
theorem open_hdrs {cs : List Value} {x : DataW H × List MemPlace} (h : DataW.trod enc Try.prog W base (fun _ => true) held fuel 29 cs = some x) :
    ∃ (v : Value) (hs : Hdrs), cs = [v] ∧ Hd W v hs ∧ hs.length ≤ 9223372036854775807 ∧ ∀ p ∈ hs, p.1.length ≤ 9223372036854775807 ∧ p.2.length ≤ 9223372036854775807 := by
  rcases Deep.open_slice_pairs Try.underlying29 Try.underlying46 (by kernel_rfl) (by kernel_rfl) (by kernel_rfl) (by kernel_rfl) (by kernel_rfl) h with ⟨rfl, _⟩ | ⟨a, len, cap, m, n, V0, V1, D0, D1, P0, P1, rfl, _, hl, hm, hmm, _, hcell⟩
  · exact ⟨_, [], rfl, Hd.nil W, by simp, fun p hp => by (cases hp)⟩
  · have hmc : m = cap := by simpa using hmm
    subst hmc
    unfold maxLen at hm
    have each : ∀ i, i < m → ∃ q : ByteArray × ByteArray, W.cell? (a.add (i * 2)) = some (.string q.1) ∧ W.cell? (a.add (i * 2 + 1)) = some (.string q.2) ∧ q.1.size ≤ maxLen ∧ q.2.size ≤ maxLen := by
      intro i hi
      obtain ⟨h1, h2, h3, h4⟩ := hcell i hi
      obtain ⟨s1, e1, _, l1⟩ := DataW.trod_string Try.underlying9 h3
      obtain ⟨s2, e2, _, l2⟩ := DataW.trod_string Try.underlying9 h4
      simp at e1 e2
      exact ⟨(s1, s2), by rw [h1, e1], by rw [h2, e2], l1, l2⟩
    obtain ⟨q, hq⟩ := Deep.choose_lt each
    refine ⟨_, (List.range len).map fun i => ((q i).1.data.toList, (q i).2.data.toList), rfl, ⟨some a, m, by simp, ⟨by simpa using hl, fun h => by (cases h)⟩, fun hne => ?_⟩, by simp; omega, fun p hp => ?_⟩
    · have hpos : 0 < len := by
        rcases Nat.eq_zero_or_pos len with h0 | h0
        · subst h0; simp at hne
        · exact h0
      obtain ⟨b, o, spot⟩ := a
      have h0 := (hq 0 (by omega)).1
      have hsp : spot = none := by simpa [Addr.add] using World.cell?_spot h0
      subst hsp
      refine ⟨b, o, rfl, fun i x hx => ?_⟩
      have hi : i < len := by
        have := (List.getElem?_eq_some_iff.1 hx).1
        simpa using this
      obtain ⟨h1, h2, _⟩ := hq i (by omega)
      rw [addr_add] at h1 h2
      have hx2 : x = ((q i).1.data.toList, (q i).2.data.toList) := by
        rw [List.getElem?_map, List.getElem?_range hi] at hx
        simpa using hx.symm
      subst hx2
      exact ⟨by rw [h1, bs_of], by rw [← Nat.add_assoc] at h2; rw [h2, bs_of]⟩
    · obtain ⟨i, hi, rfl⟩ := List.mem_map.1 hp
      rw [List.mem_range] at hi
      obtain ⟨_, _, l1, l2⟩ := hq i (by omega)
      unfold maxLen at l1 l2
      exact ⟨by rw [len_of]; exact l1, by rw [len_of]; exact l2⟩


set_option maxRecDepth 100000 in
theorem open_block {r : Reach} {b0 : Nat} {v : Value} {d : DataW H} {p : List MemPlace} (hv : Value.okWide Try.prog W r b0 31 v) (h : DataW.Trod enc Try.prog W base (fun _ => true) held 31 v d p) :
    ∃ (ty by_ : List UInt8) (hv : Value) (q : Option Addr) (bc : Nat) (hs : Hdrs), v = .agg #[.string (bs ty), hv, .slice q by_.length bc] ∧ Hd W hv hs ∧ Sl W (.slice q by_.length bc) by_ ∧ bc ≤ 9223372036854775807 ∧
      ty.length ≤ 9223372036854775807 ∧ hs.length ≤ 9223372036854775807 ∧ by_.length ≤ 9223372036854775807 ∧ ∀ p ∈ hs, p.1.length ≤ 9223372036854775807 ∧ p.2.length ≤ 9223372036854775807 := by
  obtain ⟨v0, v1, v2, y0, y1, y2, n, rfl, _, _, t0, t1, t2⟩ := open_agg3 Try.underlying31 (by kernel_rfl) (by kernel_rfl) hv h
  obtain ⟨s, e0, _, l0⟩ := DataW.trod_string Try.underlying9 t0
  obtain ⟨hv, hs, e1, hH, hn, hx⟩ := open_hdrs t1
  obtain ⟨q, bc, by_, e2, hS, hbc, _, hdl⟩ := open_bytes t2
  simp at e0 e1 e2
  subst e0; subst e1; subst e2
  have l0 : s.size ≤ 9223372036854775807 := l0
  exact ⟨s.data.toList, by_, v1, q, bc, hs, by rw [bs_of], hH, hS, hbc, (by rw [len_of]; exact l0), hn, Nat.le_trans hdl hbc, hx⟩
end
end Go.Proofs.Ytpjehmblndjknaa
