/-
  A map of strings in memory, told by the headers from which it was filled; a block of the package in memory.
-/
import Derived.Test.YtpjehmblndjknaaHdr
import Derived.Test.YtpjehmblndjknaaWriter
import Derived.Test.YtpjehmblndjknaaStr
import Derived.Maps.RangeWalk
import Derived.Sort.OwnSorted
namespace Go.Proofs.Ytpjehmblndjknaa
open Go.RowKit Go.Maps
set_option linter.unusedSimpArgs false
set_option linter.unusedVariables false

theorem lawS : Keyed Try.prog 9 := string_keyed Try.underlying9
theorem zeroS (w : World) : (zeroValue 9).run Try.prog w = .ok (.string ⟨#[]⟩) w := by kernel_rfl

theorem encStr_bs (l : List UInt8) : Go.Proofs.encStr l = .string (bs l) := rfl
theorem key_bs {l : List UInt8} (h : l.length ≤ maxLen) : keyOf Try.prog 9 (.string (bs l)) = some (.string l) := by
  have h2 : (bs l).size ≤ maxLen := by rw [bs_size]; exact h
  simp [keyOf, Try.underlying9, mapKey, h2]
  rfl

theorem conv_sl2 {w : World} {v : Value} {l : List UInt8} (h : Sl w v l) : ∀ W, Below w.heap.size w W → (convert 22 9 v).run Try.prog W = .ok (.string (bs l)) W :=
  conv_later (P := Try.prog) h Try.underlying22 Try.underlying5 Try.underlying9

/-- Block mb is a map that reads as the headers hs. -/
def HM (w : World) (mb : Nat) (hs : Hdrs) : Prop := ∃ (n : Nat) (D : DataW Unit), n ≤ hs.length ∧ w.ownsMap Try.prog 9 (plainElem Try.prog 9) mb n D ∧ MapIs D hs

theorem ownsMap_heap {w w' : World} {mb n : Nat} {D : DataW Unit} (h : w.ownsMap Try.prog 9 (plainElem Try.prog 9) mb n D) (hk : ∀ es c, w.heap[mb]? = some (.map es c) → w'.heap[mb]? = some (.map es c)) : w'.ownsMap Try.prog 9 (plainElem Try.prog 9) mb n D := by
  obtain ⟨es, c, hb, r⟩ := h
  exact ⟨es, c, hk es c hb, r⟩
theorem HM.frL {w w' : World} {mb : Nat} {hs : Hdrs} (h : HM w mb hs) {B : Nat} {bs : List Nat} (hf : FrL B bs w w') (hn : mb ∉ bs) : HM w' mb hs := by
  obtain ⟨n, D, hn2, ho, hD⟩ := h
  exact ⟨n, D, hn2, ownsMap_heap ho (fun es c hb => hf.2 mb _ hb hn (by intro c fz e; cases e)), hD⟩
theorem HM.below {w w' : World} {mb : Nat} {hs : Hdrs} (h : HM w mb hs) (hb : Below w.heap.size w w') : HM w' mb hs := by
  obtain ⟨n, D, hn2, ho, hD⟩ := h
  exact ⟨n, D, hn2, ownsMap_heap ho (fun es c hb2 => (hb.block mb (lt_of_heap hb2)).trans hb2), hD⟩
theorem HM.lt {w : World} {mb : Nat} {hs : Hdrs} (h : HM w mb hs) : mb < w.heap.size := by
  obtain ⟨n, D, _, ho, _⟩ := h
  exact ho.lt

/-- m[k], the key being there. -/
theorem HM.look {w : World} {mb : Nat} {hs : Hdrs} (h : HM w mb hs) {k v : List UInt8} (hv : hget hs k = some v) (hk : k.length ≤ maxLen) :
    (Instr.lookup 87 (.map (some mb)) (.string (bs k)) false).run Try.prog w = .ok (.string (bs v)) w := by
  obtain ⟨n, D, _, ho, _, _, hat, _⟩ := h
  obtain ⟨v', ps, hrun, hR⟩ := ho.lookup lawS Try.underlying87 (zeroS w) (plainElem_string Try.underlying9 (s := ⟨#[]⟩) (Nat.zero_le _)) (key_bs hk)
  rw [hat k v hv] at hR
  obtain ⟨s, rfl, e, _⟩ := plainElem_string_inv Try.underlying9 hR
  have e1 : v = s.data.toList := by
    have h1 := congrArg Prod.fst e
    simpa only [DataW.lit.injEq, Lit.string.injEq] using h1
  have e3 : bs v = s := by rw [e1]; exact bs_of s
  rw [hrun, e3]
theorem HM.len {w : World} {mb : Nat} {hs : Hdrs} (h : HM w mb hs) (ty : TypeId) : (Builtin.len_ #[87] ty #[.map (some mb)]).run Try.prog w = .ok (.int .i64 ((hkeys hs).length : Int)) w := by
  obtain ⟨n, D, _, ho, _, _, _, hs'⟩ := h
  rw [← hs']
  exact ho.len Try.underlying87 ty

theorem invK (key : Value) (kl : Lit) (hk : keyOf Try.prog 9 key = some kl) : ∃ x, key = Go.Proofs.encStr x := by
  obtain ⟨x, hx, _⟩ := Maps.keyOf_str Try.underlying9 hk
  exact ⟨x, hx⟩
theorem invV (v : Value) (y : DataW Unit × List MemPlace) (hv : plainElem Try.prog 9 v = some y) : ∃ c, v = Value.string c := by
  obtain ⟨c, rfl, _⟩ := plainElem_string_inv Try.underlying9 hv
  exact ⟨c, rfl⟩

/-- A block of the package in block pb: its type, its headers' map in block mb, its bytes. -/
def PB (w : World) (pb : Nat) (ty : List UInt8) (mb : Nat) (bv : Value) : Prop := w.heap[pb]? = some (.cells #[.string (bs ty), .map (some mb), bv] 89 (0, 0))
section
variable {w : World} {pb mb : Nat} {ty : List UInt8} {bv : Value}
theorem PB.c0 (h : PB w pb ty mb bv) : w.cell? ⟨pb, 0, none⟩ = some (.string (bs ty)) := cell_of_heap h 0
theorem PB.c1 (h : PB w pb ty mb bv) : w.cell? ⟨pb, 1, none⟩ = some (.map (some mb)) := cell_of_heap h 1
theorem PB.c2 (h : PB w pb ty mb bv) : w.cell? ⟨pb, 2, none⟩ = some bv := cell_of_heap h 2
theorem PB.frL (h : PB w pb ty mb bv) {w' : World} {B : Nat} {bs : List Nat} (hf : FrL B bs w w') (hn : pb ∉ bs) : PB w' pb ty mb bv :=
  hf.2 pb _ h hn (by intro c fz e; injection e with _ e2 _; exact absurd e2 (by decide))
theorem PB.below (h : PB w pb ty mb bv) {w' : World} (hb : Below w.heap.size w w') : PB w' pb ty mb bv := (hb.block pb (lt_of_heap h)).trans h
end

/-- A frame over blocks that are new. -/
theorem FrL.comp {B : Nat} {bs cs : List Nat} {w a c : World} (h : FrL B bs w a) (k : FrL B cs a c) (hc : ∀ x ∈ cs, x ∈ bs ∨ w.heap.size ≤ x) : FrL B bs w c :=
  ⟨h.1.trans k.1, fun i o hi hib ho => k.2 i o (h.2 i o hi hib ho) (fun e => (hc i e).elim hib (fun h2 => by have := lt_of_heap hi; omega)) ho⟩
theorem FrL.of_below {B : Nat} {bs : List Nat} {w w' : World} (h : Below w.heap.size w w') (hB : B ≤ w.heap.size) : FrL B bs w w' :=
  ⟨h.mono hB, fun k o hk _ _ => (h.block k (lt_of_heap hk)).trans hk⟩
end Go.Proofs.Ytpjehmblndjknaa
