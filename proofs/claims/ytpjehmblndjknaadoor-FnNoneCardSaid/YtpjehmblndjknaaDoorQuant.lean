/-
  Walk: (*base64.Encoding).decodeQuantum.
-/
import Derived.Test.YtpjehmblndjknaaDoorAsm
import Derived.BigQuiet
import Derived.Deep.QuietTactic
import Derived.Deep.DeepCutAuto
namespace Go.Proofs.YtpjehmblndjknaaDoor
open Go.RowKit
set_option linter.unusedSimpArgs false
set_option linter.unusedVariables false

theorem EncD.pad {w : World} {eb : Nat} (h : EncD w eb) : w.cell? ⟨eb, 320, none⟩ = some (.int .i32 61) := h.enc.pad
theorem EncD.strict {w : World} {eb : Nat} (h : EncD w eb) : w.cell? ⟨eb, 321, none⟩ = some (.bool false) := by
  obtain ⟨cs, hb, _, _, _, h3, _⟩ := h
  rw [cell_of_heap hb]; exact h3
theorem EncD.dm {w : World} {eb : Nat} (h : EncD w eb) (c : UInt8) : w.cell? ⟨eb, 64 + c.toNat, none⟩ = some (.int .u8 ((dmv c : Nat) : Int)) := by
  obtain ⟨cs, hb, _, _, _, _, h4⟩ := h
  rw [cell_of_heap hb]; exact h4 c.toNat c.toNat_lt
theorem EncD.lt {w : World} {eb : Nat} (h : EncD w eb) : eb < w.heap.size := by
  obtain ⟨cs, hb, _⟩ := h
  exact lt_of_heap hb
theorem EncD.keep {w w' : World} {eb : Nat} (h : EncD w eb) (hk : w'.heap[eb]? = w.heap[eb]?) : EncD w' eb := by
  obtain ⟨cs, hb, h⟩ := h
  exact ⟨cs, hk.trans hb, h⟩
theorem EncD.below {w w' : World} {eb : Nat} (h : EncD w eb) (hb : Below w.heap.size w w') : EncD w' eb := h.keep (hb.block eb h.lt)
/-- The padding and the numbers, in any world that keeps the block. -/
theorem EncD.map0 {w : World} {eb : Nat} (h : EncD w eb) : (∃ x, w.cell? ⟨eb, 64, none⟩ = some x) := by
  obtain ⟨cs, hb, _, _, _, _, h4⟩ := h
  exact ⟨_, by rw [cell_of_heap hb]; exact h4 0 (by decide)⟩

set_option maxRecDepth 100000 in
set_option maxHeartbeats 800000 in
theorem decodedLen_any (eb n : Nat) (hn : n ≤ 4611686018427387904) (w : World) (hE : EncD w eb) :
    Calls Tryd.prog 25 #[.pointer (some ⟨eb, 0, none⟩), .int .i64 (n : Int)] w fun e w' => e = .returned (.int .i64 ((n / 4 * 3 : Nat) : Int)) ∧ w = w' := by
  have hp := hE.pad
  have hn0 : (n : Int) ≤ 4611686018427387904 := by omega
  go_enter Tryd.func25, Tryd.ntmps25
  go_wp2
  go_ret
  exact ⟨ret_int (by omega), rfl⟩

/-- The decoding table's cells. -/
def dmV : List Value := (List.range 256).map fun c => .int .u8 ((dmk 64 c : Nat) : Int)
theorem EncD.range {w : World} {eb : Nat} (h : EncD w eb) : w.rangeAt eb 64 dmV := by
  obtain ⟨cs, hb, _, _, _, _, h4⟩ := h
  intro j v hv
  unfold dmV at hv
  rw [List.getElem?_map] at hv
  obtain ⟨i, hi, rfl⟩ := Option.map_eq_some_iff.1 hv
  obtain ⟨hj, hi2⟩ := List.getElem?_eq_some_iff.1 hi
  rw [List.getElem_range] at hi2
  subst hi2
  rw [cell_of_heap hb]
  exact h4 j (by simpa using hj)
theorem dmV_len : (Tryd.prog.info? 75).map (·.size) = some dmV.length := by
  rw [show dmV.length = 256 by unfold dmV; rw [List.length_map, List.length_range]]; kernel_rfl

/-! ### The characters of a quantum -/
theorem cl_skip {l : List UInt8} {k : Nat} {c : UInt8} (h : l[k]? = some c) (hn : isNl c = true) : cl (l.drop k) = cl (l.drop (k + 1)) := by
  obtain ⟨hk, e⟩ := List.getElem?_eq_some_iff.1 h
  rw [List.drop_eq_getElem_cons hk, e]
  unfold cl
  rw [List.filter_cons, hn]; rfl
theorem cl_take {l : List UInt8} {k : Nat} {c : UInt8} (h : l[k]? = some c) (hn : isNl c = false) : cl (l.drop k) = c :: cl (l.drop (k + 1)) := by
  obtain ⟨hk, e⟩ := List.getElem?_eq_some_iff.1 h
  rw [List.drop_eq_getElem_cons hk, e]
  unfold cl
  rw [List.filter_cons, hn]; rfl
theorem cl_end {l : List UInt8} {k : Nat} (h : l.length ≤ k) : cl (l.drop k) = [] := by rw [List.drop_of_length_le h]; rfl
theorem isA_nl {c : UInt8} (h : isA c = true) : isNl c = false := by
  cases hn : isNl c with
  | false => rfl
  | true =>
    unfold isNl at hn
    rw [Bool.or_eq_true, beq_iff_eq, beq_iff_eq] at hn
    rcases hn with rfl | rfl <;> exact absurd h (by decide +kernel)
theorem notNl {c : UInt8} (hnl : isNl c = false) : ((c.toNat : Int) == 10) = false ∧ ((c.toNat : Int) == 13) = false := by
  constructor
  · rw [beq_eq_false_iff_ne]; intro e
    have : c = 10 := by rw [← UInt8.toNat_inj]; have : (10 : UInt8).toNat = 10 := rfl; omega
    rw [this] at hnl; cases hnl
  · rw [beq_eq_false_iff_ne]; intro e
    have : c = 13 := by rw [← UInt8.toNat_inj]; have : (13 : UInt8).toNat = 13 := rfl; omega
    rw [this] at hnl; cases hnl
theorem d64_short {l : List UInt8} (h1 : 1 ≤ l.length) (h2 : l.length < 4) : d64 l = none := by
  match l, h1, h2 with
  | [_], _, _ => rfl
  | [_, _], _, _ => rfl
  | [_, _, _], _, _ => rfl
  | _ :: _ :: _ :: _ :: _, _, h => simp at h; omega
theorem d64_pad01 {pf r : List UInt8} (h : pf.length < 2) : d64 (pf ++ 61 :: r) = none := by
  match pf, h with
  | [], _ =>
    match r with
    | [] => rfl
    | [_] => rfl
    | [_, _] => rfl
    | b :: c :: d :: r =>
      rw [List.nil_append, d64, isA_61]; rfl
  | [a], _ =>
    match r with
    | [] => rfl
    | [_] => rfl
    | c :: d :: r =>
      rw [List.singleton_append, d64, isA_61, Bool.and_false]; rfl
  | _ :: _ :: _, h => simp at h; omega
theorem d64_q {a b c d : UInt8} {r : List UInt8} (ha : isA a = true) (hb : isA b = true) (hc : isA c = true) (hd : isA d = true) : d64 (a :: b :: c :: d :: r) = (d64 r).map (q3 (qv (dmv a) (dmv b) (dmv c) (dmv d)) ++ ·) := by
  rw [d64, ha, hb, hc, hd]; rfl
theorem d64_p3 {a b c : UInt8} {r : List UInt8} (ha : isA a = true) (hb : isA b = true) (hc : isA c = true) : d64 (a :: b :: c :: 61 :: r) = if r = [] then some ((q3 (qv (dmv a) (dmv b) (dmv c) 0)).take 2) else none := by
  rw [d64, ha, hb, hc, isA_61]
  by_cases h : r = [] <;> simp [h]
theorem d64_p2 {a b y : UInt8} {r : List UInt8} (ha : isA a = true) (hb : isA b = true) : d64 (a :: b :: 61 :: y :: r) = if y = 61 ∧ r = [] then some ((q3 (qv (dmv a) (dmv b) 0 0)).take 1) else none := by
  rw [d64, ha, hb, isA_61]
  by_cases h : y = 61 ∧ r = []
  · rw [if_pos h]; simp [h]
  · rw [if_neg h]; simp [h]

/-- The numbers of the characters read. -/
def bufD (pf : List UInt8) (i : Nat) : Nat := match pf[i]? with | some c => dmv c | none => 0
def bufV (pf : List UInt8) : Array Value := #[.int .u8 ((bufD pf 0 : Nat) : Int), .int .u8 ((bufD pf 1 : Nat) : Int), .int .u8 ((bufD pf 2 : Nat) : Int), .int .u8 ((bufD pf 3 : Nat) : Int)]
theorem bufV_set {pf : List UInt8} (h : pf.length < 4) (c : UInt8) : (bufV pf).setIfInBounds pf.length (.int .u8 ((dmv c : Nat) : Int)) = bufV (pf ++ [c]) := by
  match pf, h with
  | [], _ => rfl
  | [_], _ => rfl
  | [_, _], _ => rfl
  | [_, _, _], _ => rfl
  | _ :: _ :: _ :: _ :: _, h => simp at h; omega
theorem bufV_at {pf : List UInt8} (j : Nat) (h : j < 4) : ∃ x, (bufV pf)[j]? = some x := by
  have : j = 0 ∨ j = 1 ∨ j = 2 ∨ j = 3 := by omega
  rcases this with rfl | rfl | rfl | rfl <;> exact ⟨_, rfl⟩
theorem bufD_lt {pf : List UInt8} (h : ∀ c ∈ pf, isA c = true) (i : Nat) : bufD pf i < 64 := by
  unfold bufD
  split
  · rename_i c hc; exact dmv_lt (h c (List.mem_of_getElem? hc))
  · decide

theorem quad_four {pf : List UInt8} (h : pf.length = 4) (hA : ∀ c ∈ pf, isA c = true) (r : List UInt8) : d64 (pf ++ r) = (d64 r).map (q3 (qv (bufD pf 0) (bufD pf 1) (bufD pf 2) (bufD pf 3)) ++ ·) := by
  match pf, h, hA with
  | [a, b, c, d], _, hA =>
    exact d64_q (hA a (by simp)) (hA b (by simp)) (hA c (by simp)) (hA d (by simp))
theorem quad_three {pf : List UInt8} (h : pf.length = 3) (hA : ∀ c ∈ pf, isA c = true) : d64 (pf ++ 61 :: []) = (d64 []).map ((q3 (qv (bufD pf 0) (bufD pf 1) (bufD pf 2) (bufD pf 3))).take 2 ++ ·) := by
  match pf, h, hA with
  | [a, b, c], _, hA =>
    exact (d64_p3 (hA a (by simp)) (hA b (by simp)) (hA c (by simp))).trans (by rw [if_pos rfl]; rfl)
theorem quad_three_no {pf : List UInt8} (h : pf.length = 3) (hA : ∀ c ∈ pf, isA c = true) (z : UInt8) (r : List UInt8) : d64 (pf ++ 61 :: z :: r) = none := by
  match pf, h, hA with
  | [a, b, c], _, hA =>
    exact (d64_p3 (hA a (by simp)) (hA b (by simp)) (hA c (by simp))).trans (by rw [if_neg (by simp)])
theorem quad_two {pf : List UInt8} (h : pf.length = 2) (hA : ∀ c ∈ pf, isA c = true) : d64 (pf ++ 61 :: 61 :: []) = (d64 []).map ((q3 (qv (bufD pf 0) (bufD pf 1) (bufD pf 2) (bufD pf 3))).take 1 ++ ·) := by
  match pf, h, hA with
  | [a, b], _, hA =>
    exact (d64_p2 (hA a (by simp)) (hA b (by simp))).trans (by rw [if_pos ⟨rfl, rfl⟩]; rfl)
theorem quad_two_no {pf : List UInt8} (h : pf.length = 2) (hA : ∀ c ∈ pf, isA c = true) (z : UInt8) (r : List UInt8) : d64 (pf ++ 61 :: 61 :: z :: r) = none := by
  match pf, h, hA with
  | [a, b], _, hA =>
    exact (d64_p2 (hA a (by simp)) (hA b (by simp))).trans (by rw [if_neg (by simp)])
theorem quad_two_bad {pf : List UInt8} {y : UInt8} (h : pf.length = 2) (hA : ∀ c ∈ pf, isA c = true) (r : List UInt8) (hy : y ≠ 61) : d64 (pf ++ 61 :: y :: r) = none := by
  match pf, h, hA with
  | [a, b], _, hA =>
    exact (d64_p2 (hA a (by simp)) (hA b (by simp))).trans (by rw [if_neg (by simp [hy])])

theorem joinq {a b c d : Nat} (ha : a < 64) (hb : b < 64) (hc : c < 64) (hd : d < 64) :
    bits .or .u64 (bits .or .u64 (bits .or .u64 ((a : Int) * 262144) ((b : Int) * 4096)) ((c : Int) * 64)) (d : Int) = ((qv a b c d : Nat) : Int) := by
  have e1 : ((a : Int) * 262144) = ((a * 262144 : Nat) : Int) := by omega
  have e2 : ((b : Int) * 4096) = ((b * 4096 : Nat) : Int) := by omega
  have e3 : ((c : Int) * 64) = ((c * 64 : Nat) : Int) := by omega
  rw [e1, e2, e3, or_u64 (i := 18) (by decide) (by show _ % 262144 = 0; omega) (by show _ < 262144; omega) (by omega), or_u64 (i := 12) (by decide) (by show _ % 4096 = 0; omega) (by show _ < 4096; omega) (by omega),
    or_u64 (i := 6) (by decide) (by show _ % 64 = 0; omega) (by show _ < 64; omega) (by omega)]
  unfold qv
  omega
theorem qv_lt {a b c d : Nat} (ha : a < 64) (hb : b < 64) (hc : c < 64) (hd : d < 64) : qv a b c d < 16777216 := by unfold qv; omega

/-- What a quantum's reading leaves. -/
def QPost (l : List UInt8) (si db do_ : Nat) (cs : Array Value) (w : World) (e : Ending) (w' : World) : Prop :=
  ∃ (si' n : Nat) (ev : Value) (cs' : Array Value), e = .returned (.tuple #[.int .i64 (si' : Int), .int .i64 (n : Int), ev]) ∧ w.grownBy w' (some db) ∧ w'.heap[db]? = some (.cells cs' 5 (0, 0)) ∧ cs'.size = cs.size ∧ (∀ j, j < do_ → cs'[j]? = cs[j]?) ∧ si' ≤ l.length ∧ n ≤ 3 ∧
   ((ev = .nilIface ∧ (si < l.length → si < si') ∧ si ≤ si' ∧ (n = 0 ∨ si + 4 ≤ si') ∧ (si' = l.length ∨ (n = 3 ∧ si + 4 ≤ si')) ∧ ∃ out : List UInt8, out.length = n ∧ d64 (cl (l.drop si)) = (d64 (cl (l.drop si'))).map (out ++ ·) ∧ ∀ (i : Nat) (x : UInt8), out[i]? = some x → cs'[do_ + i]? = some (bv x)) ∨
    (∃ k : Int, ev = .iface 119 (.int .i64 k)) ∧ d64 (cl (l.drop si)) = none)

/-- The destination's block and the small array's. -/
structure QW (w wr : World) (db : Nat) (cs ds : Array Value) : Prop where
  grown : w.grownBy wr (some db)
  hb : wr.heap[db]? = some (.cells cs 5 (0, 0))
  hd : wr.heap[w.heap.size]? = some (.cells ds 118 (0, 0))
  lt : db < w.heap.size
theorem QW.setD {w wr : World} {db : Nat} {cs ds : Array Value} (h : QW w wr db cs ds) (i : Nat) (v : Value) : QW w (wr.setCell ⟨w.heap.size, i, none⟩ v) db cs (ds.setIfInBounds i v) := by
  have hl := h.lt
  have hg := h.grown
  exact ⟨⟨hg.os, hg.tape, hg.output, by simpa using hg.size, fun k hk hn => (Below.heap_setCell _ _ _ _ (by show k ≠ w.heap.size; omega)).trans (hg.block k hk hn)⟩, (Below.heap_setCell _ _ _ _ (by show db ≠ w.heap.size; omega)).trans h.hb, heap_set_same h.hd v, hl⟩
theorem QW.setB {w wr : World} {db : Nat} {cs ds : Array Value} (h : QW w wr db cs ds) (i : Nat) (v : Value) : QW w (wr.setCell ⟨db, i, none⟩ v) db (cs.setIfInBounds i v) ds := by
  have hl := h.lt
  have hg := h.grown
  exact ⟨⟨hg.os, hg.tape, hg.output, by simpa using hg.size, fun k hk hn => (Below.heap_setCell _ _ _ _ (by show k ≠ db; exact fun e => hn (by rw [e]))).trans (hg.block k hk hn)⟩, heap_set_same h.hb v, (Below.heap_setCell _ _ _ _ (by show w.heap.size ≠ db; omega)).trans h.hd, hl⟩
theorem QW.drew {w wr : World} {db : Nat} {cs ds : Array Value} (h : QW w wr db cs ds) : QW w wr.drew db cs ds :=
  ⟨⟨h.grown.os, h.grown.tape, h.grown.output, h.grown.size, h.grown.block⟩, h.hb, h.hd, h.lt⟩
theorem QW.drewN {w wr : World} {db : Nat} {cs ds : Array Value} (h : QW w wr db cs ds) (n : Nat) : QW w (wr.drewN n) db cs ds :=
  ⟨⟨h.grown.os, h.grown.tape, h.grown.output, h.grown.size, h.grown.block⟩, h.hb, h.hd, h.lt⟩

theorem bv_ofNat {n : Nat} (h : n < 256) : bv (UInt8.ofNat n) = .int .u8 (n : Int) := by
  unfold bv; rw [UInt8.toNat_ofNat', Nat.mod_eq_of_lt h]
def c3 (cs : Array Value) (o V : Nat) : Array Value := ((cs.setIfInBounds (o + 2) (.int .u8 ((V : Int) % 256))).setIfInBounds (o + 1) (.int .u8 ((V : Int) / 256 % 256))).setIfInBounds o (.int .u8 ((V : Int) / 65536))
def c2 (cs : Array Value) (o V : Nat) : Array Value := (cs.setIfInBounds (o + 1) (.int .u8 ((V : Int) / 256 % 256))).setIfInBounds o (.int .u8 ((V : Int) / 65536))
def c1 (cs : Array Value) (o V : Nat) : Array Value := cs.setIfInBounds o (.int .u8 ((V : Int) / 65536))
theorem q3_0 (V : Nat) (hV : V < 16777216) : bv (UInt8.ofNat (V / 65536 % 256)) = .int .u8 ((V : Int) / 65536) := by
  rw [bv_ofNat (Nat.mod_lt _ (by decide))]; congr 1; omega
theorem q3_1 (V : Nat) : bv (UInt8.ofNat (V / 256 % 256)) = .int .u8 ((V : Int) / 256 % 256) := by rw [bv_ofNat (Nat.mod_lt _ (by decide))]; congr 1
theorem q3_2 (V : Nat) : bv (UInt8.ofNat (V % 256)) = .int .u8 ((V : Int) % 256) := by rw [bv_ofNat (Nat.mod_lt _ (by decide))]; congr 1
theorem c1_ok {cs : Array Value} {o V : Nat} (hV : V < 16777216) (h : o + 1 ≤ cs.size) : (c1 cs o V).size = cs.size ∧ (∀ j, j < o → (c1 cs o V)[j]? = cs[j]?) ∧ ∀ (i : Nat) (x : UInt8), ((q3 V).take 1)[i]? = some x → (c1 cs o V)[o + i]? = some (bv x) := by
  unfold c1
  refine ⟨by simp, fun j hj => by rw [Array.getElem?_setIfInBounds_ne (by omega)], fun i x hx => ?_⟩
  match i, hx with
  | 0, hx => cases hx; rw [q3_0 V hV, Nat.add_zero, Array.getElem?_setIfInBounds_self_of_lt (by omega)]
  | i + 1, hx => cases hx
theorem c2_ok {cs : Array Value} {o V : Nat} (hV : V < 16777216) (h : o + 2 ≤ cs.size) : (c2 cs o V).size = cs.size ∧ (∀ j, j < o → (c2 cs o V)[j]? = cs[j]?) ∧ ∀ (i : Nat) (x : UInt8), ((q3 V).take 2)[i]? = some x → (c2 cs o V)[o + i]? = some (bv x) := by
  unfold c2
  refine ⟨by simp, fun j hj => by rw [Array.getElem?_setIfInBounds_ne (by omega), Array.getElem?_setIfInBounds_ne (by omega)], fun i x hx => ?_⟩
  match i, hx with
  | 0, hx => cases hx; rw [q3_0 V hV]; show (Array.setIfInBounds _ o _)[o]? = _; rw [Array.getElem?_setIfInBounds_self_of_lt (by rw [Array.size_setIfInBounds]; omega)]
  | 1, hx => cases hx; rw [q3_1, Array.getElem?_setIfInBounds_ne (by omega), Array.getElem?_setIfInBounds_self_of_lt (by omega)]
  | i + 2, hx => cases hx
theorem c3_ok {cs : Array Value} {o V : Nat} (hV : V < 16777216) (h : o + 3 ≤ cs.size) : (c3 cs o V).size = cs.size ∧ (∀ j, j < o → (c3 cs o V)[j]? = cs[j]?) ∧ ∀ (i : Nat) (x : UInt8), (q3 V)[i]? = some x → (c3 cs o V)[o + i]? = some (bv x) := by
  unfold c3
  refine ⟨by simp, fun j hj => by rw [Array.getElem?_setIfInBounds_ne (by omega), Array.getElem?_setIfInBounds_ne (by omega), Array.getElem?_setIfInBounds_ne (by omega)], fun i x hx => ?_⟩
  match i, hx with
  | 0, hx => cases hx; rw [q3_0 V hV]; show (Array.setIfInBounds _ o _)[o]? = _; rw [Array.getElem?_setIfInBounds_self_of_lt (by rw [Array.size_setIfInBounds, Array.size_setIfInBounds]; omega)]
  | 1, hx => cases hx; rw [q3_1, Array.getElem?_setIfInBounds_ne (by omega), Array.getElem?_setIfInBounds_self_of_lt (by rw [Array.size_setIfInBounds]; omega)]
  | 2, hx => cases hx; rw [q3_2, Array.getElem?_setIfInBounds_ne (by omega), Array.getElem?_setIfInBounds_ne (by omega), Array.getElem?_setIfInBounds_self_of_lt (by omega)]
  | i + 3, hx => cases hx

/-- The state in the loop. -/
theorem quant_err {l : List UInt8} {si db do_ k : Nat} {cs : Array Value} {w wr : World} (hD : w.heap[db]? = some (.cells cs 5 (0, 0))) (hb : Below w.heap.size w wr) (hk : k ≤ l.length) (z : Int) (hn : d64 (cl (l.drop si)) = none) :
    QPost l si db do_ cs w (.returned (.tuple #[.int .i64 (k : Int), .int .i64 0, .iface 119 (.int .i64 z)])) wr := by
  have hlt := lt_of_heap hD
  exact ⟨k, 0, _, cs, rfl, ⟨hb.os, hb.tape, hb.output, hb.size, fun i hi _ => hb.block i hi⟩, (hb.block db hlt).trans hD, rfl, fun _ _ => rfl, hk, by omega, .inr ⟨⟨z, rfl⟩, hn⟩⟩

set_option maxRecDepth 100000 in
set_option maxHeartbeats 4000000 in
theorem quant_any (eb db do_ do' dl dc si : Nat) (l : List UInt8) (sv : Value) (cs : Array Value) (w : World) (hE : EncD w eb) (hS : Sl w sv l) (hD : w.heap[db]? = some (.cells cs 5 (0, 0)))
   (hroom : (l.length - si) / 4 * 3 ≤ dl) (hdo : 0 < dl → do' = do_) (hcs : do_ + dl ≤ cs.size) (hdc : dl ≤ dc) (hsi : si ≤ l.length) (hl : l.length ≤ 4611686018427387904) (hne : eb ≠ db) :
    Calls Tryd.prog 41 #[.pointer (some ⟨eb, 0, none⟩), .slice (some ⟨db, do', none⟩) dl dc, sv, .int .i64 (si : Int)] w (QPost l si db do_ cs w) := by
  have HNE := hide hne
  have HE := hide hE
  have HD := hide hD
  have hpad := hE.pad
  have HS := hide hS
  obtain ⟨p, cap, rfl, hlc, hc⟩ := hS
  have HC := hide hc
  have HR := hide (And.intro hroom (And.intro hdo (And.intro hcs hdc)))
  have hm0 := hE.map0
  obtain ⟨zm, hm0⟩ := hm0
  have hebl := hE.lt
  have hdbl := lt_of_heap hD
  clear hE hD hc hlc hroom hdo hcs hdc hne
  go_enter Tryd.func41, Tryd.ntmps41
  go_wp2_with (refine wpList_load_mid rfl 75 (.tmp 19) rfl eb 64 rfl dmV _ (World.rangeAt_alloc (unhide HE).range _) Tryd.underlying75 rfl dmV_len ?_)
  go_simp
  have H0 : Hid ((w.alloc (.cells #[.int .u8 0, .int .u8 0, .int .u8 0, .int .u8 0] 118)).heap[w.heap.size]? = some (.cells (bufV []) 118 (0, 0)) ∧ Below w.heap.size w (w.alloc (.cells #[.int .u8 0, .int .u8 0, .int .u8 0, .int .u8 0] 118))) := ⟨heap_new w _, balloc (Below.refl _ _) _⟩
  go_loopw [3, 10, 12, 13] (fun v3 v10 v12 v13 wr => ∃ (k : Nat) (pf : List UInt8), v3 = .int .i64 (k : Int) ∧ v10 = .nilIface ∧ v12 = .int .i64 4 ∧ v13 = .int .i64 (pf.length : Int) ∧ pf.length ≤ 4 ∧ si + pf.length ≤ k ∧ k ≤ l.length ∧
     Hid ((∀ c ∈ pf, isA c = true) ∧ cl (l.drop si) = pf ++ cl (l.drop k) ∧ wr.heap[w.heap.size]? = some (.cells (bufV pf) 118 (0, 0)) ∧ Below w.heap.size w wr)) (fun v3 _ _ v13 _ => 2 * l.length + 4 - (intOf v3).toNat - (intOf v13).toNat - (intOf v3).toNat)
  case atStart => exact ⟨si, [], rfl, rfl, rfl, rfl, by simp, by simp, hsi, (fun c hc => (by cases hc)), rfl, (unhide H0).1, (unhide H0).2⟩
  case round =>
    clear H0
    obtain ⟨k, pf, rfl, rfl, rfl, rfl, hj4, hk1, hk2, HX⟩ := hrel
    have HPF := hide (And.intro hj4 (And.intro hk1 hk2))
    obtain ⟨hA, hcl, hdb, hbl⟩ := unhide HX
    have hpad' : wr.cell? ⟨eb, 320, none⟩ = some (.int .i32 61) := (hbl.cell (p := ⟨eb, 320, none⟩) hebl).trans hpad
    have hm' : wr.cell? ⟨eb, 64, none⟩ = some zm := (hbl.cell (p := ⟨eb, 64, none⟩) hebl).trans hm0
    by_cases hj : pf.length = 4
    · as_aux_lemma =>
      -- @four
      obtain ⟨r1, r2, r3, r4⟩ := unhide HR
      have hdl : 3 ≤ dl := by omega
      have hkn : si + 4 ≤ k := by omega
      obtain rfl := r2 (by omega)
      have hdbs : do' + 3 ≤ cs.size := by omega
      obtain ⟨x0, hx0⟩ : ∃ x, x = bufD pf 0 := ⟨_, rfl⟩
      obtain ⟨x1, hx1⟩ : ∃ x, x = bufD pf 1 := ⟨_, rfl⟩
      obtain ⟨x2, hx2⟩ : ∃ x, x = bufD pf 2 := ⟨_, rfl⟩
      obtain ⟨x3, hx3⟩ : ∃ x, x = bufD pf 3 := ⟨_, rfl⟩
      have b0 := bufD_lt hA 0
      have b1 := bufD_lt hA 1
      have b2 := bufD_lt hA 2
      have b3 := bufD_lt hA 3
      rw [← hx0] at b0
      rw [← hx1] at b1
      rw [← hx2] at b2
      rw [← hx3] at b3
      obtain ⟨V, hVd⟩ : ∃ V, V = qv x0 x1 x2 x3 := ⟨_, rfl⟩
      have hV := qv_lt b0 b1 b2 b3
      have hjq := joinq b0 b1 b2 b3
      rw [← hVd] at hV hjq
      have HVD : Hid (V = qv (bufD pf 0) (bufD pf 1) (bufD pf 2) (bufD pf 3)) := by show _ = _; rw [hVd, hx0, hx1, hx2, hx3]
      have hbv : bufV pf = #[.int .u8 (x0 : Int), .int .u8 (x1 : Int), .int .u8 (x2 : Int), .int .u8 (x3 : Int)] := by rw [hx0, hx1, hx2, hx3]; rfl
      have hQ : QW w wr db cs #[.int .u8 (x0 : Int), .int .u8 (x1 : Int), .int .u8 (x2 : Int), .int .u8 (x3 : Int)] := ⟨⟨hbl.os, hbl.tape, hbl.output, hbl.size, fun i hi _ => hbl.block i hi⟩, (hbl.block db hdbl).trans (unhide HD), by rw [← hbv]; exact hdb, hdbl⟩
      have HQ := hide hQ
      have hd0 : wr.cell? ⟨w.heap.size, 0, none⟩ = some (.int .u8 (x0 : Int)) := by rw [cell_of_heap hdb, hx0]; rfl
      have hd1 : wr.cell? ⟨w.heap.size, 1, none⟩ = some (.int .u8 (x1 : Int)) := by rw [cell_of_heap hdb, hx1]; rfl
      have hd2 : wr.cell? ⟨w.heap.size, 2, none⟩ = some (.int .u8 (x2 : Int)) := by rw [cell_of_heap hdb, hx2]; rfl
      have hd3 : wr.cell? ⟨w.heap.size, 3, none⟩ = some (.int .u8 (x3 : Int)) := by rw [cell_of_heap hdb, hx3]; rfl
      have fD : ∀ j, wr.frozen? ⟨w.heap.size, j, none⟩ = false := fun j => frozen_of_heap hdb _
      have hst : wr.cell? ⟨eb, 321, none⟩ = some (.bool false) := (hbl.cell (p := ⟨eb, 321, none⟩) hebl).trans (unhide HE).strict
      rw [show ((pf.length : Nat) : Int) = 4 by omega]
      clear r1 r2 r3 r4 hbv hdb hQ hVd hx0 hx1 hx2 hx3 HPF
      have HN : Hid (d64 (cl (l.drop si)) = (d64 (cl (l.drop k))).map (q3 V ++ ·)) := by
        show _ = _
        rw [hcl, unhide HVD]
        exact quad_four hj hA _
      clear HR hA hcl hbl hj HX HVD
      go_upto_region 42 with (fail)
      -- @tail4
      go_cut [194] (fun v w' => v = .int .i64 4 ∧ QW w w' db cs #[.int .u8 ((V : Int) / 65536), .int .u8 ((V : Int) / 256 % 256), .int .u8 ((V : Int) % 256), .int .u8 (x3 : Int)])
      case first =>
        as_aux_lemma =>
        go_wp2_with fail
        go_meet
        exact ⟨rfl, (((unhide HQ).setD 2 _).setD 1 _).setD 0 _⟩
      case rest =>
        as_aux_lemma =>
        obtain ⟨rfl, hQ2⟩ := hcut
        have hd0' : wc.cell? ⟨w.heap.size, 0, none⟩ = some (.int .u8 ((V : Int) / 65536)) := by rw [cell_of_heap hQ2.hd]; rfl
        have hd1' : wc.cell? ⟨w.heap.size, 1, none⟩ = some (.int .u8 ((V : Int) / 256 % 256)) := by rw [cell_of_heap hQ2.hd]; rfl
        have hd2' : wc.cell? ⟨w.heap.size, 2, none⟩ = some (.int .u8 ((V : Int) % 256)) := by rw [cell_of_heap hQ2.hd]; rfl
        have fD' : ∀ j, wc.frozen? ⟨w.heap.size, j, none⟩ = false := fun j => frozen_of_heap hQ2.hd _
        have fB' : ∀ j, wc.frozen? ⟨db, j, none⟩ = false := fun j => frozen_of_heap hQ2.hb _
        obtain ⟨y0, hz0⟩ : ∃ y, wc.cell? ⟨db, do', none⟩ = some y := ⟨_, by rw [cell_of_heap hQ2.hb]; exact Array.getElem?_eq_getElem (by omega)⟩
        obtain ⟨y1, hz1⟩ : ∃ y, wc.cell? ⟨db, do' + 1, none⟩ = some y := ⟨_, by rw [cell_of_heap hQ2.hb]; exact Array.getElem?_eq_getElem (by omega)⟩
        obtain ⟨y2, hz2⟩ : ∃ y, wc.cell? ⟨db, do' + 2, none⟩ = some y := ⟨_, by rw [cell_of_heap hQ2.hb]; exact Array.getElem?_eq_getElem (by omega)⟩
        have hst' : wc.cell? ⟨eb, 321, none⟩ = some (.bool false) := (World.cell?_of_block (hQ2.grown.block eb hebl (by simpa using unhide HNE))).trans ((unhide HE).strict)
        have hDb : ¬ db = w.heap.size := by omega
        have hDb2 : ¬ w.heap.size = db := by omega
        have hEb : ¬ eb = w.heap.size := by omega
        have hEb2 : ¬ w.heap.size = eb := by omega
        have hEd : ¬ eb = db := unhide HNE
        have hEd2 : ¬ db = eb := fun e => unhide HNE e.symm
        have HQ2 := hide hQ2
        clear hQ2 hd0 hd1 hd2 hd3 fD hst hjq b0 b1 b2 b3 HQ
        go_wp2_with fail
        go_ret3
        have hQ9 := unhide HQ2
        have hok := c3_ok (cs := cs) (o := do') (V := V) hV (by omega)
        have hQ10 := ((((hQ9.setB (do' + 2) (.int .u8 ((V : Int) % 256))).setD 2 (.int .u8 0)).setB (do' + 1) (.int .u8 ((V : Int) / 256 % 256))).setD 1 (.int .u8 0)).setB do' (.int .u8 ((V : Int) / 65536))
        exact ⟨k, 3, _, c3 cs do' V, rfl, hQ10.grown, hQ10.hb, hok.1, hok.2.1, by omega, by omega, .inl ⟨rfl, fun _ => by omega, by omega, by omega, .inr ⟨rfl, by omega⟩, q3 V, rfl, unhide HN, hok.2.2⟩⟩
    · have hj' : (pf.length : Int) < 4 := by omega
      by_cases hke : k = l.length
      · subst hke
        by_cases hj0 : pf.length = 0
        · obtain rfl : pf = [] := List.eq_nil_of_length_eq_zero hj0
          have HN : Hid (d64 (cl (l.drop si)) = (d64 (cl (l.drop l.length))).map (([] : List UInt8) ++ ·)) := by
            show _ = _
            rw [hcl, List.nil_append, cl_end (Nat.le_refl _)]; rfl
          have HB := hide hbl
          clear hA hcl hdb hbl hj0 hj hj'
          go_wp2_with fail
          go_ret3
          have hb := unhide HB
          exact ⟨l.length, 0, _, cs, rfl, ⟨hb.os, hb.tape, hb.output, hb.size, fun i hi _ => hb.block i hi⟩, (hb.block db hdbl).trans (unhide HD), rfl, fun _ _ => rfl, Nat.le_refl _, by omega, .inl ⟨rfl, fun h => h, hsi, by omega, .inl rfl, [], rfl, unhide HN, fun i x hx => by cases hx⟩⟩
        · have hji : ¬ (pf.length : Int) = 0 := by omega
          have HN : Hid (d64 (cl (l.drop si)) = none) := by
            show _ = _
            rw [hcl, cl_end (Nat.le_refl _), List.append_nil]
            exact d64_short (by omega) (by omega)
          have HB := hide hbl
          clear hA hcl hdb hbl hj0 hj
          go_wp2_with fail
          all_goals
            go_ret3
            exact quant_err (unhide HD) (unhide HB) (Nat.le_refl _) _ (unhide HN)
      · have hkl : k < l.length := by omega
        obtain ⟨c, hx⟩ : ∃ c, l[k]? = some c := ⟨_, List.getElem?_eq_getElem hkl⟩
        obtain ⟨sb, so, rfl, hcell⟩ := unhide HC (by rintro rfl; simp at hkl)
        have hs0 := hcell k c hx
        have hsw : wr.cell? ⟨sb, so + k, none⟩ = some (.int .u8 (c.toNat : Int)) := (hbl.cell (p := ⟨sb, so + k, none⟩) (World.block_lt_of_cell? w _ hs0)).trans hs0
        have hbc := bounds_byte c
        have hdm : wr.cell? ⟨eb, 64 + c.toNat, none⟩ = some (.int .u8 ((dmv c : Nat) : Int)) := (hbl.cell (p := ⟨eb, 64 + c.toNat, none⟩) hebl).trans ((unhide HE).dm c)
        have hne0 : ¬ (l.length : Int) = (k : Int) := by omega
        have hmle := dmv_le c
        have HCX := hide hx
        have HCELL := hide hcell
        obtain ⟨m, hm⟩ : ∃ m, m = dmv c := ⟨_, rfl⟩
        rw [← hm] at hdm hmle
        have HM := hide hm
        clear hx hcell hs0 hm hA hcl
        by_cases hm255 : m = 255
        · subst hm255
          by_cases hnl : isNl c = true
          · have hq : c = 10 ∨ c = 13 := by
              unfold isNl at hnl
              rwa [Bool.or_eq_true, beq_iff_eq, beq_iff_eq] at hnl
            have HN : Hid ((∀ c' ∈ pf, isA c' = true) ∧ cl (l.drop si) = pf ++ cl (l.drop (k + 1)) ∧ wr.heap[w.heap.size]? = some (.cells (bufV pf) 118 (0, 0)) ∧ Below w.heap.size w wr) := by
              obtain ⟨hA, hcl, _, _⟩ := unhide HX
              exact ⟨hA, by rw [hcl, cl_skip (unhide HCX) hnl], hdb, hbl⟩
            clear hnl hdb hbl hj hke HCX HM
            rcases hq with e | e
            · have q10 : ((c.toNat : Int) == 10) = true := by rw [e]; rfl
              clear e
              go_wp2_with fail
              refine ⟨⟨k + 1, pf, by go_num, rfl, rfl, by first | rfl | (congr 1; omega), by omega, by omega, by omega, unhide HN⟩, ?_⟩
              simp [intOf]; omega
            · have q10 : ((c.toNat : Int) == 10) = false := by rw [e]; rfl
              have q13 : ((c.toNat : Int) == 13) = true := by rw [e]; rfl
              clear e
              go_wp2_with fail
              refine ⟨⟨k + 1, pf, by go_num, rfl, rfl, by first | rfl | (congr 1; omega), by omega, by omega, by omega, unhide HN⟩, ?_⟩
              simp [intOf]; omega
          · have hnl : isNl c = false := by simpa using hnl
            have hAc : isA c = false := by unfold isA; rw [← unhide HM]; rfl
            have q10 : ((c.toNat : Int) == 10) = false := by
              rw [beq_eq_false_iff_ne]; intro e
              have : c = 10 := by rw [← UInt8.toNat_inj]; have : (10 : UInt8).toNat = 10 := rfl; omega
              rw [this] at hnl; cases hnl
            have q13 : ((c.toNat : Int) == 13) = false := by
              rw [beq_eq_false_iff_ne]; intro e
              have : c = 13 := by rw [← UInt8.toNat_inj]; have : (13 : UInt8).toNat = 13 := rfl; omega
              rw [this] at hnl; cases hnl
            have HNX := hide hnl
            by_cases h61 : c = 61
            · subst h61
              clear hnl hAc hke
              obtain ⟨hA, hcl, _, _⟩ := unhide HX
              have hF0 : cl (l.drop si) = pf ++ 61 :: cl (l.drop (k + 1)) := by rw [hcl, cl_take (unhide HCX) (unhide HNX)]
              have e61 : (((61 : UInt8).toNat : Nat) : Int) = 61 := rfl
              have e61n : (61 : UInt8).toNat = 61 := rfl
              rw [e61] at hsw hbc q10 q13
              rw [e61n] at hdm
              clear e61 e61n hcl hbc
              by_cases hj2 : pf.length < 2
              · have HN : Hid (d64 (cl (l.drop si)) = none) := by show _ = _; rw [hF0]; exact d64_pad01 hj2
                have HB := hide hbl
                have hj01 : pf.length = 0 ∨ pf.length = 1 := by omega
                clear hF0 hA hdb hbl hj hj2
                rcases hj01 with h01 | h01
                · rw [show ((pf.length : Nat) : Int) = 0 by omega]
                  clear h01
                  go_wp2_with fail
                  go_ret3
                  exact quant_err (k := k + 1) (unhide HD) (unhide HB) (by omega) _ (unhide HN)
                · rw [show ((pf.length : Nat) : Int) = 1 by omega]
                  clear h01
                  go_wp2_with fail
                  go_ret3
                  exact quant_err (k := k + 1) (unhide HD) (unhide HB) (by omega) _ (unhide HN)
              · have HAA := hide hA
                by_cases hj3 : pf.length = 3
                · as_aux_lemma =>
                  -- @pad3
                  obtain ⟨r1, r2, r3, r4⟩ := unhide HR
                  have hdl : 3 ≤ dl := by omega
                  have hkn : si + 3 ≤ k := by omega
                  obtain rfl := r2 (by omega)
                  have hdbs : do' + 3 ≤ cs.size := by omega
                  obtain ⟨x0, hx0⟩ : ∃ x, x = bufD pf 0 := ⟨_, rfl⟩
                  obtain ⟨x1, hx1⟩ : ∃ x, x = bufD pf 1 := ⟨_, rfl⟩
                  obtain ⟨x2, hx2⟩ : ∃ x, x = bufD pf 2 := ⟨_, rfl⟩
                  obtain ⟨x3, hx3⟩ : ∃ x, x = bufD pf 3 := ⟨_, rfl⟩
                  have b0 := bufD_lt hA 0
                  have b1 := bufD_lt hA 1
                  have b2 := bufD_lt hA 2
                  have b3 := bufD_lt hA 3
                  rw [← hx0] at b0
                  rw [← hx1] at b1
                  rw [← hx2] at b2
                  rw [← hx3] at b3
                  obtain ⟨V, hVd⟩ : ∃ V, V = qv x0 x1 x2 x3 := ⟨_, rfl⟩
                  have hV := qv_lt b0 b1 b2 b3
                  have hjq := joinq b0 b1 b2 b3
                  rw [← hVd] at hV hjq
                  have HVD : Hid (V = qv (bufD pf 0) (bufD pf 1) (bufD pf 2) (bufD pf 3)) := by show _ = _; rw [hVd, hx0, hx1, hx2, hx3]
                  have hbv : bufV pf = #[.int .u8 (x0 : Int), .int .u8 (x1 : Int), .int .u8 (x2 : Int), .int .u8 (x3 : Int)] := by rw [hx0, hx1, hx2, hx3]; rfl
                  have hQ : QW w wr db cs #[.int .u8 (x0 : Int), .int .u8 (x1 : Int), .int .u8 (x2 : Int), .int .u8 (x3 : Int)] := ⟨⟨hbl.os, hbl.tape, hbl.output, hbl.size, fun i hi _ => hbl.block i hi⟩, (hbl.block db hdbl).trans (unhide HD), by rw [← hbv]; exact hdb, hdbl⟩
                  have HQ := hide hQ
                  have hd0 : wr.cell? ⟨w.heap.size, 0, none⟩ = some (.int .u8 (x0 : Int)) := by rw [cell_of_heap hdb, hx0]; rfl
                  have hd1 : wr.cell? ⟨w.heap.size, 1, none⟩ = some (.int .u8 (x1 : Int)) := by rw [cell_of_heap hdb, hx1]; rfl
                  have hd2 : wr.cell? ⟨w.heap.size, 2, none⟩ = some (.int .u8 (x2 : Int)) := by rw [cell_of_heap hdb, hx2]; rfl
                  have hd3 : wr.cell? ⟨w.heap.size, 3, none⟩ = some (.int .u8 (x3 : Int)) := by rw [cell_of_heap hdb, hx3]; rfl
                  have fD : ∀ j, wr.frozen? ⟨w.heap.size, j, none⟩ = false := fun j => frozen_of_heap hdb _
                  have hst : wr.cell? ⟨eb, 321, none⟩ = some (.bool false) := (hbl.cell (p := ⟨eb, 321, none⟩) hebl).trans (unhide HE).strict
                  rw [show ((pf.length : Nat) : Int) = 3 by omega]
                  clear r1 r2 r3 r4 hbv hdb hQ hVd hx0 hx1 hx2 hx3 HPF
                  have HF : Hid (cl (l.drop si) = pf ++ 61 :: cl (l.drop (k + 1))) := hF0
                  clear hF0 hA hj hj2 hj'
                  go_wp2_with fail
                  go_loop [3] (fun v3 => ∃ k3 : Nat, k + 1 ≤ k3 ∧ k3 ≤ l.length ∧ v3 = .int .i64 (k3 : Int) ∧ Hid (cl (l.drop (k + 1)) = cl (l.drop k3))) (fun v3 => l.length - (intOf v3).toNat)
                  case atStart => exact ⟨k + 1, Nat.le_refl _, by omega, by go_num, rfl⟩
                  case round =>
                    obtain ⟨k3, hk3, hk3l, rfl, HK3⟩ := hrel
                    by_cases hl3 : k3 < l.length
                    · obtain ⟨z, hz⟩ : ∃ z, l[k3]? = some z := ⟨_, List.getElem?_eq_getElem hl3⟩
                      have hsz : wr.cell? ⟨sb, so + k3, none⟩ = some (.int .u8 (z.toNat : Int)) := (hbl.cell (p := ⟨sb, so + k3, none⟩) (World.block_lt_of_cell? w _ (unhide HCELL k3 z hz))).trans (unhide HCELL k3 z hz)
                      have hbz := bounds_byte z
                      have HZX := hide hz
                      have hne3 : ¬ (k3 : Int) = (l.length : Int) := by omega
                      clear hz
                      by_cases hnl3 : isNl z = true
                      · have HK4 : Hid (cl (l.drop (k + 1)) = cl (l.drop (k3 + 1))) := (unhide HK3).trans (cl_skip (unhide HZX) hnl3)
                        have hq : z = 10 ∨ z = 13 := by
                          unfold isNl at hnl3
                          rwa [Bool.or_eq_true, beq_iff_eq, beq_iff_eq] at hnl3
                        clear hnl3 HZX HK3 hbl
                        rcases hq with e | e
                        · have z10 : ((z.toNat : Int) == 10) = true := by rw [e]; rfl
                          clear e
                          go_wp2_with fail
                          refine ⟨⟨k3 + 1, by omega, by omega, by go_num, HK4⟩, ?_⟩
                          simp [intOf]; omega
                        · have z10 : ((z.toNat : Int) == 10) = false := by rw [e]; rfl
                          have z13 : ((z.toNat : Int) == 13) = true := by rw [e]; rfl
                          clear e
                          go_wp2_with fail
                          refine ⟨⟨k3 + 1, by omega, by omega, by go_num, HK4⟩, ?_⟩
                          simp [intOf]; omega
                      · obtain ⟨z10, z13⟩ := notNl (by simpa using hnl3)
                        have HN : Hid (d64 (cl (l.drop si)) = none) := by
                          show _ = _
                          rw [unhide HF, unhide HK3, cl_take (unhide HZX) (by simpa using hnl3)]
                          exact quad_three_no hj3 (unhide HAA) _ _
                        clear hnl3 HZX HK3 HF HVD hbl HAA HX HR
                        go_upto_region 42 with (fail)
                        -- @tail3e
                        go_cut [194] (fun v w' => v = .int .i64 3 ∧ QW w w' db cs #[.int .u8 ((V : Int) / 65536), .int .u8 ((V : Int) / 256 % 256), .int .u8 ((V : Int) % 256), .int .u8 (x3 : Int)])
                        case first =>
                          as_aux_lemma =>
                          go_wp2_with fail
                          go_meet
                          exact ⟨rfl, (((unhide HQ).setD 2 _).setD 1 _).setD 0 _⟩
                        case rest =>
                          as_aux_lemma =>
                          obtain ⟨rfl, hQ2⟩ := hcut
                          have hd0' : wc.cell? ⟨w.heap.size, 0, none⟩ = some (.int .u8 ((V : Int) / 65536)) := by rw [cell_of_heap hQ2.hd]; rfl
                          have hd1' : wc.cell? ⟨w.heap.size, 1, none⟩ = some (.int .u8 ((V : Int) / 256 % 256)) := by rw [cell_of_heap hQ2.hd]; rfl
                          have hd2' : wc.cell? ⟨w.heap.size, 2, none⟩ = some (.int .u8 ((V : Int) % 256)) := by rw [cell_of_heap hQ2.hd]; rfl
                          have fD' : ∀ j, wc.frozen? ⟨w.heap.size, j, none⟩ = false := fun j => frozen_of_heap hQ2.hd _
                          have fB' : ∀ j, wc.frozen? ⟨db, j, none⟩ = false := fun j => frozen_of_heap hQ2.hb _
                          obtain ⟨y0, hz0⟩ : ∃ y, wc.cell? ⟨db, do', none⟩ = some y := ⟨_, by rw [cell_of_heap hQ2.hb]; exact Array.getElem?_eq_getElem (by omega)⟩
                          obtain ⟨y1, hz1⟩ : ∃ y, wc.cell? ⟨db, do' + 1, none⟩ = some y := ⟨_, by rw [cell_of_heap hQ2.hb]; exact Array.getElem?_eq_getElem (by omega)⟩
                          obtain ⟨y2, hz2⟩ : ∃ y, wc.cell? ⟨db, do' + 2, none⟩ = some y := ⟨_, by rw [cell_of_heap hQ2.hb]; exact Array.getElem?_eq_getElem (by omega)⟩
                          have hst' : wc.cell? ⟨eb, 321, none⟩ = some (.bool false) := (World.cell?_of_block (hQ2.grown.block eb hebl (by simpa using unhide HNE))).trans ((unhide HE).strict)
                          have hDb : ¬ db = w.heap.size := by omega
                          have hDb2 : ¬ w.heap.size = db := by omega
                          have hEb : ¬ eb = w.heap.size := by omega
                          have hEb2 : ¬ w.heap.size = eb := by omega
                          have hEd : ¬ eb = db := unhide HNE
                          have hEd2 : ¬ db = eb := fun e => unhide HNE e.symm
                          have HQ2 := hide hQ2
                          clear hQ2 hd0 hd1 hd2 hd3 fD hst hjq b0 b1 b2 b3 HQ
                          go_wp2_with fail
                          go_ret3
                          have hQ9 := unhide HQ2
                          have hok := c2_ok (cs := cs) (o := do') (V := V) hV (by omega)
                          have hQ10 := ((hQ9.setB (do' + 1) (.int .u8 ((V : Int) / 256 % 256))).setD 1 (.int .u8 0)).setB do' (.int .u8 ((V : Int) / 65536))
                          exact ⟨k3, 2, _, c2 cs do' V, rfl, hQ10.grown, hQ10.hb, hok.1, hok.2.1, by omega, by omega, .inr ⟨⟨_, rfl⟩, unhide HN⟩⟩
                    · obtain rfl : k3 = l.length := by omega
                      have HN : Hid (d64 (cl (l.drop si)) = (d64 (cl (l.drop l.length))).map ((q3 V).take 2 ++ ·)) := by
                        show _ = _
                        rw [unhide HF, unhide HK3, cl_end (Nat.le_refl _), unhide HVD]
                        exact quad_three hj3 (unhide HAA)
                      clear HK3 HF HVD hbl HAA HX HR
                      go_upto_region 42 with (fail)
                      -- @tail3
                      go_cut [194] (fun v w' => v = .int .i64 3 ∧ QW w w' db cs #[.int .u8 ((V : Int) / 65536), .int .u8 ((V : Int) / 256 % 256), .int .u8 ((V : Int) % 256), .int .u8 (x3 : Int)])
                      case first =>
                        as_aux_lemma =>
                        go_wp2_with fail
                        go_meet
                        exact ⟨rfl, (((unhide HQ).setD 2 _).setD 1 _).setD 0 _⟩
                      case rest =>
                        as_aux_lemma =>
                        obtain ⟨rfl, hQ2⟩ := hcut
                        have hd0' : wc.cell? ⟨w.heap.size, 0, none⟩ = some (.int .u8 ((V : Int) / 65536)) := by rw [cell_of_heap hQ2.hd]; rfl
                        have hd1' : wc.cell? ⟨w.heap.size, 1, none⟩ = some (.int .u8 ((V : Int) / 256 % 256)) := by rw [cell_of_heap hQ2.hd]; rfl
                        have hd2' : wc.cell? ⟨w.heap.size, 2, none⟩ = some (.int .u8 ((V : Int) % 256)) := by rw [cell_of_heap hQ2.hd]; rfl
                        have fD' : ∀ j, wc.frozen? ⟨w.heap.size, j, none⟩ = false := fun j => frozen_of_heap hQ2.hd _
                        have fB' : ∀ j, wc.frozen? ⟨db, j, none⟩ = false := fun j => frozen_of_heap hQ2.hb _
                        obtain ⟨y0, hz0⟩ : ∃ y, wc.cell? ⟨db, do', none⟩ = some y := ⟨_, by rw [cell_of_heap hQ2.hb]; exact Array.getElem?_eq_getElem (by omega)⟩
                        obtain ⟨y1, hz1⟩ : ∃ y, wc.cell? ⟨db, do' + 1, none⟩ = some y := ⟨_, by rw [cell_of_heap hQ2.hb]; exact Array.getElem?_eq_getElem (by omega)⟩
                        obtain ⟨y2, hz2⟩ : ∃ y, wc.cell? ⟨db, do' + 2, none⟩ = some y := ⟨_, by rw [cell_of_heap hQ2.hb]; exact Array.getElem?_eq_getElem (by omega)⟩
                        have hst' : wc.cell? ⟨eb, 321, none⟩ = some (.bool false) := (World.cell?_of_block (hQ2.grown.block eb hebl (by simpa using unhide HNE))).trans ((unhide HE).strict)
                        have hDb : ¬ db = w.heap.size := by omega
                        have hDb2 : ¬ w.heap.size = db := by omega
                        have hEb : ¬ eb = w.heap.size := by omega
                        have hEb2 : ¬ w.heap.size = eb := by omega
                        have hEd : ¬ eb = db := unhide HNE
                        have hEd2 : ¬ db = eb := fun e => unhide HNE e.symm
                        have HQ2 := hide hQ2
                        clear hQ2 hd0 hd1 hd2 hd3 fD hst hjq b0 b1 b2 b3 HQ
                        go_wp2_with fail
                        go_ret3
                        have hQ9 := unhide HQ2
                        have hok := c2_ok (cs := cs) (o := do') (V := V) hV (by omega)
                        have hQ10 := ((hQ9.setB (do' + 1) (.int .u8 ((V : Int) / 256 % 256))).setD 1 (.int .u8 0)).setB do' (.int .u8 ((V : Int) / 65536))
                        exact ⟨l.length, 2, _, c2 cs do' V, rfl, hQ10.grown, hQ10.hb, hok.1, hok.2.1, by omega, by omega, .inl ⟨rfl, fun _ => by omega, by omega, by omega, .inl rfl, (q3 V).take 2, rfl, unhide HN, hok.2.2⟩⟩
                · as_aux_lemma =>
                  -- @pad2
                  have hj2' : pf.length = 2 := by omega
                  have HF : Hid (cl (l.drop si) = pf ++ 61 :: cl (l.drop (k + 1))) := hF0
                  rw [show ((pf.length : Nat) : Int) = 2 by omega]
                  clear hF0 hA hj hj2 hj3 hj'
                  go_wp2_with fail
                  go_loop [3] (fun v3 => ∃ k2 : Nat, k + 1 ≤ k2 ∧ k2 ≤ l.length ∧ v3 = .int .i64 (k2 : Int) ∧ Hid (cl (l.drop (k + 1)) = cl (l.drop k2))) (fun v3 => l.length - (intOf v3).toNat)
                  case atStart => exact ⟨k + 1, Nat.le_refl _, by omega, by go_num, rfl⟩
                  case round =>
                    obtain ⟨k2, hk2, hk2l, rfl, HK2⟩ := hrel
                    by_cases hl2 : k2 < l.length
                    · obtain ⟨y, hy⟩ : ∃ y, l[k2]? = some y := ⟨_, List.getElem?_eq_getElem hl2⟩
                      have hsy : wr.cell? ⟨sb, so + k2, none⟩ = some (.int .u8 (y.toNat : Int)) := (hbl.cell (p := ⟨sb, so + k2, none⟩) (World.block_lt_of_cell? w _ (unhide HCELL k2 y hy))).trans (unhide HCELL k2 y hy)
                      have hby := bounds_byte y
                      have HYX := hide hy
                      have hne2 : ¬ (k2 : Int) = (l.length : Int) := by omega
                      clear hy
                      by_cases hnl2 : isNl y = true
                      · have HK4 : Hid (cl (l.drop (k + 1)) = cl (l.drop (k2 + 1))) := (unhide HK2).trans (cl_skip (unhide HYX) hnl2)
                        have hq : y = 10 ∨ y = 13 := by
                          unfold isNl at hnl2
                          rwa [Bool.or_eq_true, beq_iff_eq, beq_iff_eq] at hnl2
                        clear hnl2 HYX HK2 hbl hdb
                        rcases hq with e | e
                        · have z10 : ((y.toNat : Int) == 10) = true := by rw [e]; rfl
                          clear e
                          go_wp2_with fail
                          refine ⟨⟨k2 + 1, by omega, by omega, by go_num, HK4⟩, ?_⟩
                          simp [intOf]; omega
                        · have z10 : ((y.toNat : Int) == 10) = false := by rw [e]; rfl
                          have z13 : ((y.toNat : Int) == 13) = true := by rw [e]; rfl
                          clear e
                          go_wp2_with fail
                          refine ⟨⟨k2 + 1, by omega, by omega, by go_num, HK4⟩, ?_⟩
                          simp [intOf]; omega
                      · obtain ⟨y10, y13⟩ := notNl (by simpa using hnl2)
                        have HF2 : Hid (cl (l.drop si) = pf ++ 61 :: y :: cl (l.drop (k2 + 1))) := by
                          show _ = _
                          rw [unhide HF, unhide HK2, cl_take (unhide HYX) (by simpa using hnl2)]
                        clear hnl2 HYX HK2 HF
                        by_cases hy61 : y = 61
                        · subst hy61
                          have e61 : (((61 : UInt8).toNat : Nat) : Int) = 61 := rfl
                          rw [e61] at hsy hby y10 y13
                          clear e61 hby
                          go_wp2_with fail
                          go_quiet (fail)
                          go_wp2_with fail
                          obtain ⟨r1, r2, r3, r4⟩ := unhide HR
                          have hdl : 3 ≤ dl := by omega
                          have hkn : si + 2 ≤ k := by omega
                          obtain rfl := r2 (by omega)
                          have hdbs : do' + 3 ≤ cs.size := by omega
                          obtain ⟨x0, hx0⟩ : ∃ x, x = bufD pf 0 := ⟨_, rfl⟩
                          obtain ⟨x1, hx1⟩ : ∃ x, x = bufD pf 1 := ⟨_, rfl⟩
                          obtain ⟨x2, hx2⟩ : ∃ x, x = bufD pf 2 := ⟨_, rfl⟩
                          obtain ⟨x3, hx3⟩ : ∃ x, x = bufD pf 3 := ⟨_, rfl⟩
                          have hA := unhide HAA
                          have b0 := bufD_lt hA 0
                          have b1 := bufD_lt hA 1
                          have b2 := bufD_lt hA 2
                          have b3 := bufD_lt hA 3
                          rw [← hx0] at b0
                          rw [← hx1] at b1
                          rw [← hx2] at b2
                          rw [← hx3] at b3
                          obtain ⟨V, hVd⟩ : ∃ V, V = qv x0 x1 x2 x3 := ⟨_, rfl⟩
                          have hV := qv_lt b0 b1 b2 b3
                          have hjq := joinq b0 b1 b2 b3
                          rw [← hVd] at hV hjq
                          have HVD : Hid (V = qv (bufD pf 0) (bufD pf 1) (bufD pf 2) (bufD pf 3)) := by show _ = _; rw [hVd, hx0, hx1, hx2, hx3]
                          have hbv : bufV pf = #[.int .u8 (x0 : Int), .int .u8 (x1 : Int), .int .u8 (x2 : Int), .int .u8 (x3 : Int)] := by rw [hx0, hx1, hx2, hx3]; rfl
                          have hQ : QW w wr db cs #[.int .u8 (x0 : Int), .int .u8 (x1 : Int), .int .u8 (x2 : Int), .int .u8 (x3 : Int)] := ⟨⟨hbl.os, hbl.tape, hbl.output, hbl.size, fun i hi _ => hbl.block i hi⟩, (hbl.block db hdbl).trans (unhide HD), by rw [← hbv]; exact hdb, hdbl⟩
                          have HQ := hide hQ
                          have hd0 : wr.cell? ⟨w.heap.size, 0, none⟩ = some (.int .u8 (x0 : Int)) := by rw [cell_of_heap hdb, hx0]; rfl
                          have hd1 : wr.cell? ⟨w.heap.size, 1, none⟩ = some (.int .u8 (x1 : Int)) := by rw [cell_of_heap hdb, hx1]; rfl
                          have hd2 : wr.cell? ⟨w.heap.size, 2, none⟩ = some (.int .u8 (x2 : Int)) := by rw [cell_of_heap hdb, hx2]; rfl
                          have hd3 : wr.cell? ⟨w.heap.size, 3, none⟩ = some (.int .u8 (x3 : Int)) := by rw [cell_of_heap hdb, hx3]; rfl
                          have fD : ∀ j, wr.frozen? ⟨w.heap.size, j, none⟩ = false := fun j => frozen_of_heap hdb _
                          have hst : wr.cell? ⟨eb, 321, none⟩ = some (.bool false) := (hbl.cell (p := ⟨eb, 321, none⟩) hebl).trans (unhide HE).strict
                          clear r1 r2 r3 r4 hbv hdb hQ hVd hx0 hx1 hx2 hx3 HPF
                          have hj3 := hj2'
                          have HF : Hid (cl (l.drop si) = pf ++ 61 :: 61 :: cl (l.drop (k2 + 1))) := unhide HF2
                          clear HF2 hA hj2'
                          go_loop [3] (fun v3 => ∃ k3 : Nat, k2 + 1 ≤ k3 ∧ k3 ≤ l.length ∧ v3 = .int .i64 (k3 : Int) ∧ Hid (cl (l.drop (k2 + 1)) = cl (l.drop k3))) (fun v3 => l.length - (intOf v3).toNat)
                          case atStart => exact ⟨k2 + 1, Nat.le_refl _, by omega, by go_num, rfl⟩
                          case round =>
                            obtain ⟨k3, hk3, hk3l, rfl, HK3⟩ := hrel
                            by_cases hl3 : k3 < l.length
                            · obtain ⟨z, hz⟩ : ∃ z, l[k3]? = some z := ⟨_, List.getElem?_eq_getElem hl3⟩
                              have hsz : wr.cell? ⟨sb, so + k3, none⟩ = some (.int .u8 (z.toNat : Int)) := (hbl.cell (p := ⟨sb, so + k3, none⟩) (World.block_lt_of_cell? w _ (unhide HCELL k3 z hz))).trans (unhide HCELL k3 z hz)
                              have hbz := bounds_byte z
                              have HZX := hide hz
                              have hne3 : ¬ (k3 : Int) = (l.length : Int) := by omega
                              clear hz
                              by_cases hnl3 : isNl z = true
                              · have HK4 : Hid (cl (l.drop (k2 + 1)) = cl (l.drop (k3 + 1))) := (unhide HK3).trans (cl_skip (unhide HZX) hnl3)
                                have hq : z = 10 ∨ z = 13 := by
                                  unfold isNl at hnl3
                                  rwa [Bool.or_eq_true, beq_iff_eq, beq_iff_eq] at hnl3
                                clear hnl3 HZX HK3 hbl
                                rcases hq with e | e
                                · have z10 : ((z.toNat : Int) == 10) = true := by rw [e]; rfl
                                  clear e
                                  go_wp2_with fail
                                  refine ⟨⟨k3 + 1, by omega, by omega, by go_num, HK4⟩, ?_⟩
                                  simp [intOf]; omega
                                · have z10 : ((z.toNat : Int) == 10) = false := by rw [e]; rfl
                                  have z13 : ((z.toNat : Int) == 13) = true := by rw [e]; rfl
                                  clear e
                                  go_wp2_with fail
                                  refine ⟨⟨k3 + 1, by omega, by omega, by go_num, HK4⟩, ?_⟩
                                  simp [intOf]; omega
                              · obtain ⟨z10, z13⟩ := notNl (by simpa using hnl3)
                                have HN : Hid (d64 (cl (l.drop si)) = none) := by
                                  show _ = _
                                  rw [unhide HF, unhide HK3, cl_take (unhide HZX) (by simpa using hnl3)]
                                  exact quad_two_no hj3 (unhide HAA) _ _
                                clear hnl3 HZX HK3 HF HVD hbl HAA HX HR
                                go_upto_region 42 with (fail)
                                -- @tail2e
                                go_cut [194] (fun v w' => v = .int .i64 2 ∧ QW w w' db cs #[.int .u8 ((V : Int) / 65536), .int .u8 ((V : Int) / 256 % 256), .int .u8 ((V : Int) % 256), .int .u8 (x3 : Int)])
                                case first =>
                                  as_aux_lemma =>
                                  go_wp2_with fail
                                  go_meet
                                  exact ⟨rfl, ((((unhide HQ).drewN nq).setD 2 _).setD 1 _).setD 0 _⟩
                                case rest =>
                                  as_aux_lemma =>
                                  obtain ⟨rfl, hQ2⟩ := hcut
                                  have hd0' : wc.cell? ⟨w.heap.size, 0, none⟩ = some (.int .u8 ((V : Int) / 65536)) := by rw [cell_of_heap hQ2.hd]; rfl
                                  have hd1' : wc.cell? ⟨w.heap.size, 1, none⟩ = some (.int .u8 ((V : Int) / 256 % 256)) := by rw [cell_of_heap hQ2.hd]; rfl
                                  have hd2' : wc.cell? ⟨w.heap.size, 2, none⟩ = some (.int .u8 ((V : Int) % 256)) := by rw [cell_of_heap hQ2.hd]; rfl
                                  have fD' : ∀ j, wc.frozen? ⟨w.heap.size, j, none⟩ = false := fun j => frozen_of_heap hQ2.hd _
                                  have fB' : ∀ j, wc.frozen? ⟨db, j, none⟩ = false := fun j => frozen_of_heap hQ2.hb _
                                  obtain ⟨y0, hz0⟩ : ∃ y, wc.cell? ⟨db, do', none⟩ = some y := ⟨_, by rw [cell_of_heap hQ2.hb]; exact Array.getElem?_eq_getElem (by omega)⟩
                                  obtain ⟨y1, hz1⟩ : ∃ y, wc.cell? ⟨db, do' + 1, none⟩ = some y := ⟨_, by rw [cell_of_heap hQ2.hb]; exact Array.getElem?_eq_getElem (by omega)⟩
                                  obtain ⟨y2, hz2⟩ : ∃ y, wc.cell? ⟨db, do' + 2, none⟩ = some y := ⟨_, by rw [cell_of_heap hQ2.hb]; exact Array.getElem?_eq_getElem (by omega)⟩
                                  have hst' : wc.cell? ⟨eb, 321, none⟩ = some (.bool false) := (World.cell?_of_block (hQ2.grown.block eb hebl (by simpa using unhide HNE))).trans ((unhide HE).strict)
                                  have hDb : ¬ db = w.heap.size := by omega
                                  have hDb2 : ¬ w.heap.size = db := by omega
                                  have hEb : ¬ eb = w.heap.size := by omega
                                  have hEb2 : ¬ w.heap.size = eb := by omega
                                  have hEd : ¬ eb = db := unhide HNE
                                  have hEd2 : ¬ db = eb := fun e => unhide HNE e.symm
                                  have HQ2 := hide hQ2
                                  clear hQ2 hd0 hd1 hd2 hd3 fD hst hjq b0 b1 b2 b3 HQ
                                  go_wp2_with fail
                                  go_ret3
                                  have hQ9 := unhide HQ2
                                  have hok := c1_ok (cs := cs) (o := do') (V := V) hV (by omega)
                                  have hQ10 := hQ9.setB do' (.int .u8 ((V : Int) / 65536))
                                  exact ⟨k3, 1, _, c1 cs do' V, rfl, hQ10.grown, hQ10.hb, hok.1, hok.2.1, by omega, by omega, .inr ⟨⟨_, rfl⟩, unhide HN⟩⟩
                            · obtain rfl : k3 = l.length := by omega
                              have HN : Hid (d64 (cl (l.drop si)) = (d64 (cl (l.drop l.length))).map ((q3 V).take 1 ++ ·)) := by
                                show _ = _
                                rw [unhide HF, unhide HK3, cl_end (Nat.le_refl _), unhide HVD]
                                exact quad_two hj3 (unhide HAA)
                              clear HK3 HF HVD hbl HAA HX HR
                              go_upto_region 42 with (fail)
                              -- @tail2
                              go_cut [194] (fun v w' => v = .int .i64 2 ∧ QW w w' db cs #[.int .u8 ((V : Int) / 65536), .int .u8 ((V : Int) / 256 % 256), .int .u8 ((V : Int) % 256), .int .u8 (x3 : Int)])
                              case first =>
                                as_aux_lemma =>
                                go_wp2_with fail
                                go_meet
                                exact ⟨rfl, ((((unhide HQ).drewN nq).setD 2 _).setD 1 _).setD 0 _⟩
                              case rest =>
                                as_aux_lemma =>
                                obtain ⟨rfl, hQ2⟩ := hcut
                                have hd0' : wc.cell? ⟨w.heap.size, 0, none⟩ = some (.int .u8 ((V : Int) / 65536)) := by rw [cell_of_heap hQ2.hd]; rfl
                                have hd1' : wc.cell? ⟨w.heap.size, 1, none⟩ = some (.int .u8 ((V : Int) / 256 % 256)) := by rw [cell_of_heap hQ2.hd]; rfl
                                have hd2' : wc.cell? ⟨w.heap.size, 2, none⟩ = some (.int .u8 ((V : Int) % 256)) := by rw [cell_of_heap hQ2.hd]; rfl
                                have fD' : ∀ j, wc.frozen? ⟨w.heap.size, j, none⟩ = false := fun j => frozen_of_heap hQ2.hd _
                                have fB' : ∀ j, wc.frozen? ⟨db, j, none⟩ = false := fun j => frozen_of_heap hQ2.hb _
                                obtain ⟨y0, hz0⟩ : ∃ y, wc.cell? ⟨db, do', none⟩ = some y := ⟨_, by rw [cell_of_heap hQ2.hb]; exact Array.getElem?_eq_getElem (by omega)⟩
                                obtain ⟨y1, hz1⟩ : ∃ y, wc.cell? ⟨db, do' + 1, none⟩ = some y := ⟨_, by rw [cell_of_heap hQ2.hb]; exact Array.getElem?_eq_getElem (by omega)⟩
                                obtain ⟨y2, hz2⟩ : ∃ y, wc.cell? ⟨db, do' + 2, none⟩ = some y := ⟨_, by rw [cell_of_heap hQ2.hb]; exact Array.getElem?_eq_getElem (by omega)⟩
                                have hst' : wc.cell? ⟨eb, 321, none⟩ = some (.bool false) := (World.cell?_of_block (hQ2.grown.block eb hebl (by simpa using unhide HNE))).trans ((unhide HE).strict)
                                have hDb : ¬ db = w.heap.size := by omega
                                have hDb2 : ¬ w.heap.size = db := by omega
                                have hEb : ¬ eb = w.heap.size := by omega
                                have hEb2 : ¬ w.heap.size = eb := by omega
                                have hEd : ¬ eb = db := unhide HNE
                                have hEd2 : ¬ db = eb := fun e => unhide HNE e.symm
                                have HQ2 := hide hQ2
                                clear hQ2 hd0 hd1 hd2 hd3 fD hst hjq b0 b1 b2 b3 HQ
                                go_wp2_with fail
                                go_ret3
                                have hQ9 := unhide HQ2
                                have hok := c1_ok (cs := cs) (o := do') (V := V) hV (by omega)
                                have hQ10 := hQ9.setB do' (.int .u8 ((V : Int) / 65536))
                                exact ⟨l.length, 1, _, c1 cs do' V, rfl, hQ10.grown, hQ10.hb, hok.1, hok.2.1, by omega, by omega, .inl ⟨rfl, fun _ => by omega, by omega, by omega, .inl rfl, (q3 V).take 1, rfl, unhide HN, hok.2.2⟩⟩
                        · have y61 : ((y.toNat : Int) == 61) = false := by
                            rw [beq_eq_false_iff_ne]; intro e
                            apply hy61; rw [← UInt8.toNat_inj]; have : (61 : UInt8).toNat = 61 := rfl; omega
                          have y61b : ((y.toNat : Int) != 61) = true := by simpa using y61
                          have HN : Hid (d64 (cl (l.drop si)) = none) := by
                            show _ = _
                            rw [unhide HF2]
                            exact quad_two_bad hj2' (unhide HAA) _ hy61
                          have HB := hide hbl
                          clear hy61 HF2 HAA hbl hdb
                          go_wp2_with fail
                          go_quiet (fail)
                          go_wp2_with fail
                          go_ret3
                          exact quant_err (k := k2) (unhide HD) (below_drewN (unhide HB) _) (by omega) _ (unhide HN)
                    · obtain rfl : k2 = l.length := by omega
                      have HN : Hid (d64 (cl (l.drop si)) = none) := by
                        show _ = _
                        rw [unhide HF, unhide HK2, cl_end (Nat.le_refl _)]
                        exact d64_short (by simp) (by simp; omega)
                      have HB := hide hbl
                      clear HF HK2 HAA hbl hdb
                      go_wp2_with fail
                      go_ret3
                      exact quant_err (k := l.length) (unhide HD) (unhide HB) (Nat.le_refl _) _ (unhide HN)
            · have q61 : ((c.toNat : Int) == 61) = false := by
                rw [beq_eq_false_iff_ne]; intro e
                apply h61; rw [← UInt8.toNat_inj]; have : (61 : UInt8).toNat = 61 := rfl; omega
              have q61b : ((c.toNat : Int) != 61) = true := by simpa using q61
              have HN : Hid (d64 (cl (l.drop si)) = none) := by
                obtain ⟨hA, hcl, _, _⟩ := unhide HX
                refine d64_none (c := c) ?_ hAc h61
                rw [hcl, cl_take (unhide HCX) hnl]; simp
              have HB := hide hbl
              clear hnl hAc h61 hdb hbl hj hke
              go_wp2_with fail
              go_ret3
              exact quant_err (k := k + 1) (unhide HD) (unhide HB) (by omega) _ (unhide HN)
        · have hmb : ((m : Int) == 255) = false := by rw [beq_eq_false_iff_ne]; omega
          have hmb2 : ((m : Int) != 255) = true := by simpa using hmb
          obtain ⟨y, hy⟩ := bufV_at (pf := pf) pf.length (by omega)
          have hcb : wr.cell? ⟨w.heap.size, pf.length, none⟩ = some y := by rw [cell_of_heap hdb]; exact hy
          have hfb : wr.frozen? ⟨w.heap.size, pf.length, none⟩ = false := frozen_of_heap hdb _
          have hset := heap_set_same (w := wr) hdb (i := pf.length) (.int .u8 (m : Int))
          have HN : Hid ((∀ c' ∈ pf ++ [c], isA c' = true) ∧ cl (l.drop si) = (pf ++ [c]) ++ cl (l.drop (k + 1)) ∧ (wr.setCell ⟨w.heap.size, pf.length, none⟩ (.int .u8 (m : Int))).heap[w.heap.size]? = some (.cells (bufV (pf ++ [c])) 118 (0, 0)) ∧ Below w.heap.size w (wr.setCell ⟨w.heap.size, pf.length, none⟩ (.int .u8 (m : Int)))) := by
            obtain ⟨hA, hcl, _, _⟩ := unhide HX
            have hAc : isA c = true := by unfold isA; rw [← unhide HM]; simpa using hm255
            refine ⟨fun c' hc' => ?_, ?_, ?_, hbl.setCell (Nat.le_refl _) _⟩
            · rw [List.mem_append, List.mem_singleton] at hc'
              rcases hc' with h | rfl
              · exact hA c' h
              · exact hAc
            · rw [hcl, cl_take (unhide HCX) (isA_nl hAc), List.append_assoc]; rfl
            · rw [hset, unhide HM, bufV_set (by omega)]
          have HLN : Hid ((pf ++ [c]).length = pf.length + 1) := by show _ = _; simp
          clear hdb hbl hset hm255 hy hj hke
          go_wp2
          refine ⟨⟨k + 1, pf ++ [c], by go_num, rfl, rfl, ?_, ?_, ?_, by omega, unhide HN⟩, ?_⟩
          · rw [unhide HLN]; go_num
          · rw [unhide HLN]; omega
          · rw [unhide HLN]; omega
          · simp [intOf]; omega
end Go.Proofs.YtpjehmblndjknaaDoor
