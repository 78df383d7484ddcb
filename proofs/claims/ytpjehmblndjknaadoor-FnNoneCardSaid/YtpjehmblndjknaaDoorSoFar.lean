/-
  What pem.Encode has written so far; what stands meanwhile.
-/
import Derived.Test.YtpjehmblndjknaaDoorEnColon
import Derived.Test.YtpjehmblndjknaaDoorEncC
import Derived.Test.YtpjehmblndjknaaDoorHead
import Derived.Test.YtpjehmblndjknaaDoorBrk
namespace Go.Proofs.YtpjehmblndjknaaDoor
open Go.RowKit Go.Maps
set_option linter.unusedSimpArgs false
set_option linter.unusedVariables false

/-- What pem.Encode leaves: all is written, or the writer's error. -/
def WroteE (W : Wr) (acc l : List UInt8) (w : World) (ev : Value) (w' : World) : Prop :=
  FrL W.B [W.bb] w w' ∧ ((Fits W.lim (acc ++ l).length ∧ ev = .nilIface ∧ W.Inv (acc ++ l) w') ∨ (¬ Fits W.lim (acc ++ l).length ∧ ev = W.ev ∧ W.Fin (cut W.lim (acc ++ l)) w'))
/-- So much is written, and nothing has failed. -/
def SoFar (W : Wr) (acc l : List UInt8) (w w' : World) : Prop := FrL W.B [W.bb] w w' ∧ W.Inv (acc ++ l) w'

theorem SoFar.step {W : Wr} {acc l m : List UInt8} {w a c : World} {ev : Value} (h : SoFar W acc l w a) (k : Wrote W (acc ++ l) m a ev c) :
    (ev = .nilIface ∧ SoFar W acc (l ++ m) w c) ∨ (ev = W.ev ∧ ∀ r, WroteE W acc (l ++ m ++ r) w W.ev c) := by
  obtain ⟨hF, h2⟩ := k
  have hF2 : FrL W.B [W.bb] w c := h.1.trans (hF.toL (by simp))
  rcases h2 with ⟨q1, q2, q3⟩ | ⟨q1, q2, q3⟩
  · exact .inl ⟨q2, hF2, by rw [← List.append_assoc]; exact q3⟩
  · refine .inr ⟨q2, fun r => ⟨hF2, .inr ?_⟩⟩
    obtain ⟨p1, p2⟩ := cut_prefix (lim := W.lim) (a := acc ++ l ++ m) (r := r) (l := acc ++ (l ++ m ++ r)) q1 (by simp only [List.append_assoc])
    exact ⟨p1, rfl, by rw [p2]; exact q3⟩

/-- The blocks that pem.Encode reads stand as they stood. -/
theorem PB.soFar {W : Wr} {acc l : List UInt8} {w a : World} {pb mb : Nat} {ty : List UInt8} {v : Value} (h : PB w pb ty mb v) (hs : SoFar W acc l w a) (hn : pb ≠ W.bb) : PB a pb ty mb v := h.frL hs.1 (by simpa using hn)
theorem HM.soFar {W : Wr} {acc l : List UInt8} {w a : World} {mb : Nat} {hs : Hdrs} (h : HM w mb hs) (hf : SoFar W acc l w a) (hn : mb ≠ W.bb) : HM a mb hs := h.frL hf.1 (by simpa using hn)
theorem SoFar.drew {W : Wr} {acc l : List UInt8} {w a : World} (hw : WrOK W) (h : SoFar W acc l w a) : SoFar W acc l w a.drew := ⟨h.1.drew, hw.keep _ _ _ h.2 (fun _ _ h _ => h)⟩
theorem SoFar.below {W : Wr} {acc l : List UInt8} {w a c : World} (hw : WrOK W) (h : SoFar W acc l w a) (hb : Below a.heap.size a c) : SoFar W acc l w c := ⟨h.1.below (hw.size _ _ h.2) hb, hw.keep _ _ _ h.2 (KeepW.below hb)⟩

theorem beg_ext : (⟨#[10, 45, 45, 45, 45, 45, 66, 69, 71, 73, 78, 32]⟩ : ByteArray).extract 1 12 = bs begP := by decide +kernel
theorem end_ext : (⟨#[10, 45, 45, 45, 45, 45, 69, 78, 68, 32]⟩ : ByteArray).extract 1 10 = bs endP := by decide +kernel
/-- What a write leaves behind so much: more, or the writer's error. -/
def Next (W : Wr) (acc l m : List UInt8) (w : World) (ev : Value) (w' : World) : Prop := (ev = .nilIface ∧ SoFar W acc (l ++ m) w w') ∨ (ev = W.ev ∧ ∀ r, WroteE W acc (l ++ m ++ r) w W.ev w')
/-- A string is converted and written. -/
theorem wr_str {W : Wr} (hw : WrOK W) {acc l : List UInt8} {w wk : World} (h : SoFar W acc l w wk) (m : List UInt8) (hsz : acc.length + l.length + m.length ≤ 140737488355328) :
    ∃ cap wb, (convert 9 22 (.string (bs m))).run Tryd.prog wk = .ok (.slice (some ⟨wk.heap.size, 0, none⟩) m.length cap) wb ∧
      Calls Tryd.prog W.F #[W.v, .slice (some ⟨wk.heap.size, 0, none⟩) m.length cap] wb fun e w' => ∃ (n : Int) (ev : Value), e = .returned (.tuple #[.int .i64 n, ev]) ∧ Next W acc l m w ev w' := by
  refine ⟨_, _, convS m wk, (wrS W hw (acc ++ l) m wk h.2 (by rw [List.length_append]; omega)).mono ?_⟩
  rintro e w' ⟨n, ev, rfl, hX⟩
  exact ⟨n, ev, rfl, h.step hX⟩


/-- The same, spelled as the walk spells it. -/
theorem wr_str' {W : Wr} (hw : WrOK W) {acc l : List UInt8} {w wk : World} (h : SoFar W acc l w wk) (m : List UInt8) (hsz : acc.length + l.length + m.length ≤ 140737488355328) (S : ByteArray) (hS : S = bs m) (n : Nat) (hn : n = m.length) (z : Nat) (hz : z = wk.heap.size) :
    ∃ cap wb, (convert 9 22 (.string S)).run Tryd.prog wk = .ok (.slice (some ⟨z, 0, none⟩) n cap) wb ∧
      Hid (Calls Tryd.prog W.F #[W.v, .slice (some ⟨z, 0, none⟩) n cap] wb fun e w' => ∃ (k : Int) (ev : Value), e = .returned (.tuple #[.int .i64 k, ev]) ∧ Next W acc l m w ev w') := by
  subst hS; subst hn; subst hz
  exact wr_str hw h m hsz

/-- A line feed is written. -/
theorem wr_nl {W : Wr} (hw : WrOK W) {acc l : List UInt8} {w wk : World} (h : SoFar W acc l w wk) (hsz : acc.length + l.length + 1 ≤ 140737488355328) :
    Calls Tryd.prog W.F #[W.v, .slice (some ⟨wk.heap.size, 0, none⟩) 1 1] (wk.alloc (.cells #[.int .u8 10] 5 (1, 2))) fun e w' => ∃ (k : Int) (ev : Value), e = .returned (.tuple #[.int .i64 k, ev]) ∧ Next W acc l [10] w ev w' := by
  have h2 : SoFar W acc l w (wk.alloc (.cells #[.int .u8 10] 5 (1, 2))) := h.below hw (balloc (Below.refl _ _) _)
  have hne2 : wk.heap.size ≠ W.bb := fun e => by have := hw.lt _ _ h.2; omega
  have hsz2 : (acc ++ l).length + [(10 : UInt8)].length ≤ 140737488355328 := by rw [List.length_append]; exact hsz
  by_cases hf : Fits W.lim ((acc ++ l).length + [(10 : UInt8)].length)
  · refine (hw.ok (acc ++ l) [10] wk.heap.size 0 1 _ h2.2 (Src.alloc rfl) hne2 (by decide) hsz2 hf).mono ?_
    rintro e w' ⟨rfl, h3, h4⟩
    exact ⟨_, _, rfl, h2.step ⟨h4, .inl ⟨by rw [List.length_append]; exact hf, rfl, h3⟩⟩⟩
  · refine (hw.no (acc ++ l) [10] wk.heap.size 0 1 _ h2.2 (Src.alloc rfl) hne2 (by decide) hsz2 hf).mono ?_
    rintro e w' ⟨n, rfl, h3, h4⟩
    exact ⟨_, _, rfl, h2.step ⟨h4, .inr ⟨by rw [List.length_append]; exact hf, rfl, h3⟩⟩⟩

theorem KeepW.grown {bb : Nat} {w w' : World} {row : Option Nat} (hg : w.grownBy w' row) (h : ∀ j, row = some j → j ≠ bb ∧ ∀ o, w.heap[j]? = some o → ∀ c fz, o ≠ .cells c 5 fz) : KeepW bb w w' := fun k o hk hx => by
  refine (hg.block k (lt_of_heap hk) ?_).trans hk
  intro e
  obtain ⟨h1, h2⟩ := h k e.symm
  rcases hx with hx | ⟨c, fz, hx⟩
  · exact h1 hx
  · exact h2 o hk c fz hx
theorem FrL.grown {B : Nat} {bs : List Nat} {w a c : World} {row : Option Nat} (h : FrL B bs w a) (hBw : B ≤ w.heap.size) (hg : a.grownBy c row) (hr : ∀ j, row = some j → w.heap.size ≤ j) : FrL B bs w c := by
  have hsz := h.size
  refine ⟨⟨hg.os.trans h.1.os, hg.tape.trans h.1.tape, hg.output.trans h.1.output, Nat.le_trans hsz hg.size, fun k hk => ?_⟩, fun k o hk hkb ho => ?_⟩
  · refine (hg.block k (by omega) (fun e => ?_)).trans (h.1.block k hk)
    have := hr k e.symm
    omega
  · have h1 := h.2 k o hk hkb ho
    refine (hg.block k (lt_of_heap h1) (fun e => ?_)).trans h1
    have := hr k e.symm
    have := lt_of_heap hk
    omega
theorem SoFar.grown {W : Wr} (hw : WrOK W) {acc l : List UInt8} {w a c : World} {row : Option Nat} (h : SoFar W acc l w a) (hbb : W.bb < w.heap.size) (hg : a.grownBy c row)
    (hr : ∀ j, row = some j → w.heap.size ≤ j ∧ ∀ o, a.heap[j]? = some o → ∀ c fz, o ≠ .cells c 5 fz) : SoFar W acc l w c :=
  ⟨h.1.grown (Nat.le_trans hw.base (Nat.le_of_lt hbb)) hg (fun j hj => (hr j hj).1), hw.keep _ _ _ h.2 (KeepW.grown hg (fun j hj => ⟨by have := (hr j hj).1; omega, (hr j hj).2⟩))⟩
theorem SoFar.size {W : Wr} {acc l : List UInt8} {w a : World} (h : SoFar W acc l w a) : w.heap.size ≤ a.heap.size := h.1.size

theorem row_block {w : World} {base n : Nat} {v : Value} {xs : List Value} (h : w.ownsRow base 9 1 v n xs) {j : Nat} (hj : v.ownBlock = some j) : base ≤ j ∧ ∀ o, w.heap[j]? = some o → ∀ c fz, o ≠ .cells c 5 fz := by
  rcases h.2 with ⟨rfl, _⟩ | ⟨g, cap, cur, rfl, hbase, hb, _⟩
  · simp [Value.ownBlock] at hj
  · have : g = j := by simpa [Value.ownBlock] using hj
    subst this
    refine ⟨hbase, fun o ho c fz e => ?_⟩
    rw [hb] at ho
    rw [← Option.some.inj ho] at e
    injection e with _ e2 _
    exact absurd e2 (by decide)

theorem ownsRow_frL {w w' : World} {base n : Nat} {v : Value} {xs : List Value} (h : w.ownsRow base 9 1 v n xs) {B : Nat} {bs : List Nat} (hf : FrL B bs w w') (hb : ∀ k ∈ bs, k < base) : w'.ownsRow base 9 1 v n xs := by
  refine ⟨h.1, ?_⟩
  rcases h.2 with h2 | ⟨g, cap, cur, rfl, hbase, hg, r⟩
  · exact .inl h2
  · refine .inr ⟨g, cap, cur, rfl, hbase, hf.2 g _ hg (fun e => by have := hb g e; omega) ?_, r⟩
    intro c fz e
    injection e with _ e2 _
    exact absurd e2 (by decide)
theorem procOut_some {hs : Hdrs} {v : List UInt8} (h : hget hs procT = some v) : procOut hs = headLine procT v := by unfold procOut; rw [h]
theorem procOut_none {hs : Hdrs} (h : hget hs procT = none) : procOut hs = [] := by unfold procOut; rw [h]

/-- A row of strings. -/
def StrRow (w : World) (g : Nat) (ks : List (List UInt8)) : Prop := ∃ cur fz, w.heap[g]? = some (.cells cur 9 fz) ∧ cur.toList.take ks.length = ks.map Go.Proofs.encStr
theorem StrRow.cell {w : World} {g : Nat} {ks : List (List UInt8)} (h : StrRow w g ks) {j : Nat} {k : List UInt8} (hk : ks[j]? = some k) : w.cell? ⟨g, 0 + j, none⟩ = some (.string (bs k)) := by
  obtain ⟨cur, fz, hb, ht⟩ := h
  have hj : j < ks.length := (List.getElem?_eq_some_iff.1 hk).1
  rw [cell_of_heap hb, Nat.zero_add, ← Array.getElem?_toList]
  have h2 : (cur.toList.take ks.length)[j]? = some (.string (bs k)) := by rw [ht, List.getElem?_map, hk]; rfl
  rw [List.getElem?_take, if_pos hj] at h2
  exact h2
theorem StrRow.frL {w w' : World} {g : Nat} {ks : List (List UInt8)} (h : StrRow w g ks) {B : Nat} {bs : List Nat} (hf : FrL B bs w w') (hn : g ∉ bs) : StrRow w' g ks := by
  obtain ⟨cur, fz, hb, ht⟩ := h
  refine ⟨cur, fz, hf.2 g _ hb hn ?_, ht⟩
  intro c fz e
  injection e with _ e2 _
  exact absurd e2 (by decide)

open Go.Sort in
/-- The library's sort, as the shelf has it. -/
def SortOK : Prop := ∀ (blk off cap : Nat) (ss : List (List UInt8)) (w : World), Holds Go.Proofs.encStr w blk off ss.toArray → blk < w.heap.size → ss.length < 4611686018427387904 →
    Calls Tryd.prog 52 #[.slice (some ⟨blk, off, none⟩) ss.length cap] w fun e w' =>
      e = .returned (.tuple #[]) ∧ ∃ n os, w' = grow (putRow Go.Proofs.encStr (Sort.ahead w n) blk off (ss.mergeSort fun x y => decide (x ≤ y)).toArray) os

theorem sort_row (hsort : SortOK) {w : World} {base : Nat} {v : Value} {ss : List (List UInt8)} (hrow : w.ownsRow base 9 1 v ss.length (ss.map Go.Proofs.encStr)) (hn : v ≠ .slice none 0 0) (hlen : ss.length < 4611686018427387904) :
    ∃ g cap, v = .slice (some ⟨g, 0, none⟩) ss.length cap ∧ base ≤ g ∧ (∀ o, w.heap[g]? = some o → ∀ c fz, o ≠ .cells c 5 fz) ∧
      Calls Tryd.prog 52 #[.slice (some ⟨g, 0, none⟩) ss.length cap] w fun e w' => e = .returned (.tuple #[]) ∧ StrRow w' g (ss.mergeSort leB) ∧ w.grownBy w' (some g) := by
  rcases hrow.2 with ⟨hnil, _⟩ | ⟨g, cap, cur, rfl, hbase, hb, h1, h2, h3, h4⟩
  · exact absurd hnil hn
  have hH : Go.Sort.Holds Go.Proofs.encStr w g 0 ss.toArray := holds_of_block hb (by simpa using h4)
  refine ⟨g, cap, rfl, hbase, fun o ho c fz e => ?_, (hsort g 0 cap ss w hH (lt_of_heap hb) hlen).mono ?_⟩
  · rw [hb] at ho
    rw [← Option.some.inj ho] at e
    injection e with _ e2 _
    exact absurd e2 (by decide)
  · rintro e w' ⟨rfl, nn, os, rfl⟩
    refine ⟨rfl, ⟨_, _, heap_sorted _ hb, ?_⟩, grownBy_sorted _⟩
    exact take_putCells cur _ (by rw [List.length_mergeSort, h3]; omega)

/-! ### The parts of what is written -/
theorem fin_err {W : Wr} {acc l m L : List UInt8} {w wc : World} (hE : ∀ r, WroteE W acc (l ++ m ++ r) w W.ev wc) (h : ∃ r, L = l ++ m ++ r) : WroteE W acc L w W.ev wc := by
  obtain ⟨r, rfl⟩ := h
  exact hE r
def part1 : List UInt8 := [] ++ begP
def part2 (ty : List UInt8) : List UInt8 := part1 ++ (ty ++ [45, 45, 45, 45, 45, 10])
def part3 (ty : List UInt8) (hs : Hdrs) : List UInt8 := part2 ty ++ headOut hs
def part4 (ty : List UInt8) (hs : Hdrs) (d : List UInt8) : List UInt8 := part3 ty hs ++ lines64 (b64 d)
def part5 (ty : List UInt8) (hs : Hdrs) (d : List UInt8) : List UInt8 := part4 ty hs d ++ endP
theorem pemOut_parts (ty : List UInt8) (hs : Hdrs) (d : List UInt8) : pemOut ty hs d = part5 ty hs d ++ (ty ++ [45, 45, 45, 45, 45, 10]) := by
  unfold pemOut part5 part4 part3 part2 part1 dashP
  simp
theorem pemOut_1 (ty : List UInt8) (hs : Hdrs) (d : List UInt8) : ∃ r, pemOut ty hs d = [] ++ begP ++ r := ⟨_, by unfold pemOut; simp only [List.append_assoc, List.nil_append]; rfl⟩
theorem pemOut_2 (ty : List UInt8) (hs : Hdrs) (d : List UInt8) : ∃ r, pemOut ty hs d = part1 ++ (ty ++ [45, 45, 45, 45, 45, 10]) ++ r := ⟨headOut hs ++ lines64 (b64 d) ++ endP ++ (ty ++ [45, 45, 45, 45, 45, 10]), by rw [pemOut_parts]; unfold part5 part4 part3 part2; simp only [List.append_assoc]⟩
theorem pemOut_3 (ty : List UInt8) (hs : Hdrs) (d : List UInt8) : ∃ r, pemOut ty hs d = part2 ty ++ headOut hs ++ r := ⟨lines64 (b64 d) ++ endP ++ (ty ++ [45, 45, 45, 45, 45, 10]), by rw [pemOut_parts]; unfold part5 part4 part3; simp only [List.append_assoc]⟩
theorem pemOut_4 (ty : List UInt8) (hs : Hdrs) (d : List UInt8) : ∃ r, pemOut ty hs d = part3 ty hs ++ lines64 (b64 d) ++ r := ⟨endP ++ (ty ++ [45, 45, 45, 45, 45, 10]), by rw [pemOut_parts]; unfold part5 part4; simp only [List.append_assoc]⟩
theorem pemOut_5 (ty : List UInt8) (hs : Hdrs) (d : List UInt8) : ∃ r, pemOut ty hs d = part4 ty hs d ++ endP ++ r := ⟨ty ++ [45, 45, 45, 45, 45, 10], by rw [pemOut_parts]; unfold part5; simp only [List.append_assoc]⟩
theorem part_lens (ty : List UInt8) (hs : Hdrs) (d : List UInt8) : (part2 ty).length + (headOut hs).length + (lines64 (b64 d)).length ≤ (pemOut ty hs d).length ∧ (part2 ty).length = 17 + ty.length ∧ (part3 ty hs).length = (part2 ty).length + (headOut hs).length ∧ (part4 ty hs d).length = (part3 ty hs).length + (lines64 (b64 d)).length ∧
    (part5 ty hs d).length = (part4 ty hs d).length + 9 ∧ (pemOut ty hs d).length = (part5 ty hs d).length + ty.length + 6 := by
  have e1 : (part5 ty hs d).length = (part4 ty hs d).length + 9 := by unfold part5; rw [List.length_append]; rfl
  have e2 : (part4 ty hs d).length = (part3 ty hs).length + (lines64 (b64 d)).length := by unfold part4; rw [List.length_append]
  have e3 : (part3 ty hs).length = (part2 ty).length + (headOut hs).length := by unfold part3; rw [List.length_append]
  have e4 : (part2 ty).length = 17 + ty.length := by unfold part2 part1; simp [begP]; omega
  have e5 : (pemOut ty hs d).length = (part5 ty hs d).length + ty.length + 6 := by rw [pemOut_parts, List.length_append, List.length_append]; simp; omega
  omega
theorem SoFar.enc {W : Wr} {acc l m : List UInt8} {w a c : World} {ev : Value} {cs : List Nat} {X : Prop} (h : SoFar W acc l w a) (hF : FrL W.B cs a c) (hcs : ∀ x ∈ cs, x = W.bb ∨ w.heap.size ≤ x)
    (k : (Fits W.lim (acc ++ l ++ m).length ∧ ev = .nilIface ∧ W.Inv (acc ++ l ++ m) c ∧ X) ∨ (¬ Fits W.lim (acc ++ l ++ m).length ∧ ev = W.ev ∧ W.Fin (cut W.lim (acc ++ l ++ m)) c)) :
    (ev = .nilIface ∧ SoFar W acc (l ++ m) w c ∧ X) ∨ (ev = W.ev ∧ ∀ r, WroteE W acc (l ++ m ++ r) w W.ev c) := by
  have hF2 : FrL W.B [W.bb] w c := h.1.comp hF (fun x hx => (hcs x hx).imp (fun e => by simp [e]) id)
  rcases k with ⟨q1, q2, q3, q4⟩ | ⟨q1, q2, q3⟩
  · exact .inl ⟨q2, ⟨hF2, by rw [← List.append_assoc]; exact q3⟩, q4⟩
  · refine .inr ⟨q2, fun r => ⟨hF2, .inr ?_⟩⟩
    obtain ⟨p1, p2⟩ := cut_prefix (lim := W.lim) (a := acc ++ l ++ m) (r := r) (l := acc ++ (l ++ m ++ r)) q1 (by simp only [List.append_assoc])
    exact ⟨p1, rfl, by rw [p2]; exact q3⟩

/-- The bytes of whole groups of three, and what is left. -/
def whole3 (d : List UInt8) : List UInt8 := d.take (3 * (d.length / 3))
def rest3 (d : List UInt8) : List UInt8 := d.drop (3 * (d.length / 3))
def linA (d : List UInt8) : List UInt8 := fullLines (b64 (whole3 d))
def remA (d : List UInt8) : List UInt8 := remPart (b64 (whole3 d))
def linB (d : List UInt8) : List UInt8 := fullLines (remA d ++ b64 (rest3 d))
def remB (d : List UInt8) : List UInt8 := remPart (remA d ++ b64 (rest3 d))
theorem lines_parts (d : List UInt8) : lines64 (b64 d) = linA d ++ (linB d ++ closeOut (remB d)) := by
  have h1 : whole3 d ++ rest3 d = d := List.take_append_drop _ _
  have h2 : (whole3 d).length = 3 * (d.length / 3) := by unfold whole3; rw [List.length_take]; omega
  have h3 := b64_append _ _ (rest3 d) h2
  rw [h1] at h3
  obtain ⟨h4, h5⟩ := lines_step _ (b64 (whole3 d)) (b64 (rest3 d)) (Nat.le_refl _)
  rw [lines64_eq _ _ (Nat.le_refl _), h3, h4, h5]
  unfold linA linB remB remA
  simp only [List.append_assoc]
theorem rest3_len (d : List UInt8) : (rest3 d).length ≤ 2 := by unfold rest3; rw [List.length_drop]; omega
theorem lines_lens (d : List UInt8) : (linA d).length + (linB d).length + (closeOut (remB d)).length = (lines64 (b64 d)).length := by
  rw [lines_parts, List.length_append, List.length_append]; omega
theorem remB_lt (d : List UInt8) : (remB d).length < 64 := remPart_lt _ _ (Nat.le_refl _)

theorem encr_meth (b : Nat) (w : World) : (method methFuel 129 (.pointer (some ⟨b, 0, none⟩)) "Write").run Tryd.prog w = .ok (119, .pointer (some ⟨b, 0, none⟩)) w := by kernel_rfl
theorem encr_ahead (b : Nat) (w : World) : (nilAhead methFuel 129 (.pointer (some ⟨b, 0, none⟩)) "Write").run Tryd.prog w = .ok (some false) w := by kernel_rfl
theorem encr_call (args : Array Value) (w : World) : (callFunc 119 args).run Tryd.prog w = .ok (.enter 119 args) w := by kernel_rfl
theorem encc_meth (b : Nat) (w : World) : (method methFuel 129 (.pointer (some ⟨b, 0, none⟩)) "Close").run Tryd.prog w = .ok (118, .pointer (some ⟨b, 0, none⟩)) w := by kernel_rfl
theorem encc_call (args : Array Value) (w : World) : (callFunc 118 args).run Tryd.prog w = .ok (.enter 118 args) w := by kernel_rfl

theorem close_any (W : Wr) (hw : WrOK W) (b : Nat) (acc pend : List UInt8) (w : World) (hI : W.Inv acc w) (hb : Brk w b W.T W.v pend) (hne : b ≠ W.bb) (hsz : acc.length + (pend.length + 1) ≤ 140737488355328) :
    Calls Tryd.prog 54 #[.pointer (some ⟨b, 0, none⟩)] w fun e w' => ∃ ev, e = .returned ev ∧ Wrote W acc (closeOut pend) w ev w' := by
  by_cases hf : Fits W.lim (acc ++ closeOut pend).length
  · refine (close_ok W hw b acc pend w hI hb hne hsz hf).mono ?_
    rintro e w' ⟨rfl, h1, h2⟩
    exact ⟨_, rfl, h2, .inl ⟨hf, rfl, h1⟩⟩
  · refine (close_no W hw b acc pend w hI hb hne hsz hf).mono ?_
    rintro e w' ⟨rfl, h1, h2⟩
    exact ⟨_, rfl, h2, .inr ⟨hf, rfl, h1⟩⟩

theorem headOut_len {ty : List UInt8} {hs : Hdrs} {d : List UInt8} (h : hs ≠ []) : (procOut hs ++ hlines hs (hsort (hkeys hs))).length + 1 = (headOut hs).length := by
  unfold headOut; rw [if_neg h]; simp; omega
theorem headOut_pre {hs : Hdrs} (h : hs ≠ []) (l : List UInt8) (hl : ∃ r, procOut hs ++ hlines hs (hsort (hkeys hs)) ++ [10] = l ++ r) (ty d : List UInt8) : (∃ r, pemOut ty hs d = part2 ty ++ l ++ r) ∧ l.length ≤ (headOut hs).length := by
  obtain ⟨r, hr⟩ := hl
  have e : headOut hs = l ++ r := by unfold headOut; rw [if_neg h, hr]
  obtain ⟨r2, h2⟩ := pemOut_3 ty hs d
  refine ⟨⟨r ++ r2, ?_⟩, by rw [e, List.length_append]; omega⟩
  rw [h2, e]; simp only [List.append_assoc]
end Go.Proofs.YtpjehmblndjknaaDoor
