/-
  Arguments as they are handed in: slices of bytes, slices of slices of bytes.
-/
import Derived.Test.YtpjehmblndjknaaBroken
import Derived.ProofKit
import Derived.OpenShut
import Derived.Deep.Matrix
import Derived.Lib.Bytes
namespace Go.Proofs.Ytpjehmblndjknaa
open Go.RowKit
set_option linter.unusedSimpArgs false
set_option linter.unusedVariables false

theorem byte_wf {n : Int} (h : (Lit.int .u8 n).wf = true) : ((UInt8.ofNat n.toNat).toNat : Int) = n := by
  have hx : 0 ≤ n ∧ n ≤ 255 := by simpa [Lit.wf, IntKind.min, IntKind.max, IntKind.signed, IntKind.bits] using h
  rw [UInt8.toNat_ofNat']
  omega

theorem sl_of_ints {w : World} {a : Option Addr} {len cap : Nat} {zs : List Int} (hl : len ≤ cap) (hz : zs.length = cap) (hw : ∀ n ∈ zs, (Lit.int .u8 n).wf = true)
    (hn : a = none → cap = 0) (hc : ∀ a', a = some a' → ∀ i, i < cap → w.cell? (a'.add i) = some (.int .u8 (zs.getD i 0))) : Sl w (.slice a len cap) (Lib.bytesOf (zs.take len)) := by
  have hlen : (Lib.bytesOf (zs.take len)).length = len := by rw [Lib.bytesOf_length, List.length_take]; omega
  refine ⟨a, cap, by rw [hlen], by rw [hlen]; exact hl, fun hne => ?_⟩
  have hpos : 0 < len := by rw [← hlen]; exact List.length_pos_iff.2 hne
  cases a with
  | none => exact absurd (hn rfl) (by omega)
  | some a =>
    obtain ⟨b, o, spot⟩ := a
    have h0 := hc _ rfl 0 (by omega)
    have hsp : spot = none := by simpa [Addr.add] using World.cell?_spot h0
    subst hsp
    refine ⟨b, o, rfl, fun i x hx => ?_⟩
    have hi : i < len := by rw [← hlen]; exact (List.getElem?_eq_some_iff.1 hx).1
    have h1 := hc _ rfl i (by omega)
    rw [addr_add] at h1
    rw [h1]
    unfold Lib.bytesOf at hx
    rw [List.getElem?_map, List.getElem?_take, if_pos hi] at hx
    obtain ⟨n, hn1, rfl⟩ := Option.map_eq_some_iff.1 hx
    rw [byte_wf (hw n (List.mem_of_getElem? hn1))]
    simp [List.getD, hn1]

/-- An argument of type [][]byte. -/
theorem open_pieces {H : Type} {enc : TypeId × Value → H} {W : World} {base : Nat} {held : Bool} {v : Value} {x : DataW H × List MemPlace} {fuel : Nat} (hok : ∃ a len cap, v = .slice a len cap) (h : DataW.trod enc Try.prog W base (fun _ => true) held fuel 26 v.cells.toList = some x) :
    ∃ ls : List (List UInt8), Pieces W v ls ∧ ls.length ≤ 9223372036854775807 := by
  obtain ⟨a0, len0, cap0, rfl⟩ := hok
  rcases Deep.open_int_rows Try.underlying26 Try.underlying22 Try.underlying5 (by kernel_rfl) (by kernel_rfl) h with ⟨hcs, _⟩ | ⟨a, len, cap, A, L, C, Z, hcs, _, hl, hm, _, hr⟩
  · simp [Value.cells] at hcs
    obtain ⟨rfl, rfl, rfl⟩ := hcs
    exact ⟨[], ⟨none, 0, rfl, fun h => absurd rfl h⟩, by simp⟩
  · simp [Value.cells] at hcs
    obtain ⟨rfl, rfl, rfl⟩ := hcs
    unfold maxLen at hm
    refine ⟨(List.range len0).map fun r => Lib.bytesOf ((Z r).take (L r)), ⟨some a, cap0, by simp, fun hne => ?_⟩, by simp; omega⟩
    have hpos : 0 < len0 := by
      rcases Nat.eq_zero_or_pos len0 with h0 | h0
      · subst h0; simp at hne
      · exact h0
    obtain ⟨b, o, spot⟩ := a
    have h0 := (hr 0 (by omega)).1
    have hsp : spot = none := by simpa [Addr.add] using World.cell?_spot h0
    subst hsp
    refine ⟨b, o, rfl, fun i l hl2 => ?_⟩
    have hi : i < len0 := by
      have := (List.getElem?_eq_some_iff.1 hl2).1
      simpa using this
    obtain ⟨h1, h2, h3, h4, h5, h6, h7⟩ := hr i (by omega)
    rw [addr_add] at h1
    have hl3 : l = Lib.bytesOf ((Z i).take (L i)) := by
      rw [List.getElem?_map, List.getElem?_range hi] at hl2
      simpa using hl2.symm
    subst hl3
    exact ⟨_, h1, sl_of_ints h2 h4 h5 h6 (fun a' ha' c hc => (h7 a' ha').2 c hc)⟩
end Go.Proofs.Ytpjehmblndjknaa
