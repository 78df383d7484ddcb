/-
  Walk: (*base64.Encoding).Decode.
-/
import Derived.Test.YtpjehmblndjknaaDoorQuant
import Derived.Lib.SlBytesRow
import Derived.Lib.Strings
import Derived.Deep.DeepCutAuto
namespace Go.Proofs.YtpjehmblndjknaaDoor
open Go.RowKit
set_option linter.unusedSimpArgs false
set_option linter.unusedVariables false

/-- What has been read and written so far. -/
structure DSt (l : List UInt8) (db D si n : Nat) (out : List UInt8) (cs : Array Value) (w wr : World) : Prop where
  grown : w.grownBy wr (some db)
  hb : wr.heap[db]? = some (.cells cs 5 (0, 0))
  size : cs.size = D
  len : out.length = n
  le : n ≤ D
  si_le : si ≤ l.length
  room : si < l.length → ∃ m, n = 3 * m ∧ 4 * m ≤ si
  dec : d64 (cl l) = (d64 (cl (l.drop si))).map (out ++ ·)
  cells : ∀ (i : Nat) (x : UInt8), out[i]? = some x → cs[i]? = some (bv x)
theorem DSt.drewN {l : List UInt8} {db D si n : Nat} {out : List UInt8} {cs : Array Value} {w wr : World} (h : DSt l db D si n out cs w wr) (q : Nat) : DSt l db D si n out cs w (wr.drewN q) :=
  ⟨⟨h.grown.os, h.grown.tape, h.grown.output, h.grown.size, h.grown.block⟩, h.hb, h.size, h.len, h.le, h.si_le, h.room, h.dec, h.cells⟩
theorem DSt.start {l : List UInt8} {db D : Nat} {cs : Array Value} {w : World} (hb : w.heap[db]? = some (.cells cs 5 (0, 0))) (hD : cs.size = D) : DSt l db D 0 0 [] cs w w :=
  ⟨⟨rfl, rfl, rfl, Nat.le_refl _, fun _ _ _ => rfl⟩, hb, hD, rfl, Nat.zero_le _, Nat.zero_le _, fun _ => ⟨0, rfl, Nat.le_refl _⟩, by rw [List.drop_zero]; cases d64 (cl l) <;> simp, fun i x h => by cases h⟩
theorem grown_set {w wr : World} {db : Nat} (hg : w.grownBy wr (some db)) (i : Nat) (v : Value) : w.grownBy (wr.setCell ⟨db, i, none⟩ v) (some db) :=
  ⟨hg.os, hg.tape, hg.output, by simpa using hg.size, fun k hk hn => (Below.heap_setCell _ _ _ _ (by show k ≠ db; exact fun e => hn (by rw [e]))).trans (hg.block k hk hn)⟩
theorem grown_trans {a b c : World} {db : Nat} (h : a.grownBy b (some db)) (k : b.grownBy c (some db)) : a.grownBy c (some db) :=
  ⟨k.os.trans h.os, k.tape.trans h.tape, k.output.trans h.output, Nat.le_trans h.size k.size, fun i hi hn => (k.block i (Nat.lt_of_lt_of_le hi h.size) hn).trans (h.block i hi hn)⟩
/-- A step. -/
theorem DSt.step {l : List UInt8} {db D si n si' n' : Nat} {out out' : List UInt8} {cs cs' : Array Value} {w wr w' : World} (h : DSt l db D si n out cs w wr)
    (hg : wr.grownBy w' (some db)) (hb : w'.heap[db]? = some (.cells cs' 5 (0, 0))) (hz : cs'.size = cs.size) (hk : ∀ j, j < n → cs'[j]? = cs[j]?) (hsi : si' ≤ l.length) (hle : n + n' ≤ D)
    (hroom : si' < l.length → ∃ m, n + n' = 3 * m ∧ 4 * m ≤ si') (ho : out'.length = n') (hd : d64 (cl (l.drop si)) = (d64 (cl (l.drop si'))).map (out' ++ ·)) (hc : ∀ (i : Nat) (x : UInt8), out'[i]? = some x → cs'[n + i]? = some (bv x)) :
    DSt l db D si' (n + n') (out ++ out') cs' w w' := by
  refine ⟨grown_trans h.grown hg, hb, hz.trans h.size, by rw [List.length_append, h.len, ho], hle, hsi, hroom, ?_, fun i x hx => ?_⟩
  · rw [h.dec, hd, Option.map_map]
    congr 1
    funext x
    simp
  · by_cases hi : i < n
    · rw [List.getElem?_append_left (by rw [h.len]; exact hi)] at hx
      rw [hk i hi]; exact h.cells i x hx
    · rw [List.getElem?_append_right (by rw [h.len]; omega), h.len] at hx
      have := hc (i - n) x hx
      rwa [show n + (i - n) = i by omega] at this
/-- After a quantum. -/
theorem DSt.quantum {l : List UInt8} {db D si n si' n' : Nat} {out out' : List UInt8} {cs cs' : Array Value} {w wr w' : World} (h : DSt l db D si n out cs w wr) (hD : D = l.length / 4 * 3) (hlt : si < l.length)
    (hg : wr.grownBy w' (some db)) (hb : w'.heap[db]? = some (.cells cs' 5 (0, 0))) (hz : cs'.size = cs.size) (hk : ∀ j, j < n → cs'[j]? = cs[j]?) (hsi : si' ≤ l.length) (hss : si ≤ si') (h4 : n' = 0 ∨ si + 4 ≤ si') (h3 : n' ≤ 3)
    (hor : si' = l.length ∨ (n' = 3 ∧ si + 4 ≤ si')) (ho : out'.length = n') (hd : d64 (cl (l.drop si)) = (d64 (cl (l.drop si'))).map (out' ++ ·)) (hc : ∀ (i : Nat) (x : UInt8), out'[i]? = some x → cs'[n + i]? = some (bv x)) :
    DSt l db D si' (n + n') (out ++ out') cs' w w' := by
  obtain ⟨m, hm1, hm2⟩ := h.room hlt
  refine h.step hg hb hz hk hsi ?_ (fun hl => ?_) ho hd hc
  · have h1 := h.le
    omega
  · rcases hor with e | ⟨e1, e2⟩
    · omega
    · exact ⟨m + 1, by omega, by omega⟩
theorem isA_of {x : UInt8} {m : Nat} (h : m = dmv x) (hm : ¬ m = 255) : isA x = true := by unfold isA; rw [← h]; simpa using hm
theorem cl_four {l : List UInt8} {si : Nat} {a b c d : UInt8} (ha : l[si]? = some a) (hb : l[si + 1]? = some b) (hc : l[si + 2]? = some c) (hd : l[si + 3]? = some d) (ka : isA a = true) (kb : isA b = true) (kc : isA c = true) (kd : isA d = true) :
    d64 (cl (l.drop si)) = (d64 (cl (l.drop (si + 4)))).map (q3 (qv (dmv a) (dmv b) (dmv c) (dmv d)) ++ ·) := by
  rw [cl_take ha (isA_nl ka), cl_take hb (isA_nl kb), cl_take hc (isA_nl kc), cl_take hd (isA_nl kd), d64_q ka kb kc kd]
/-- After four characters at once. -/
def p4 (cs : Array Value) (n A : Nat) : Array Value := (((cs.setIfInBounds n (.int .u8 (((A * 256 : Nat) : Int) / 16777216))).setIfInBounds (n + 1) (.int .u8 (((A * 256 : Nat) : Int) / 65536 % 256))).setIfInBounds (n + 2) (.int .u8 (((A * 256 : Nat) : Int) / 256 % 256))).setIfInBounds (n + 3) (.int .u8 (((A * 256 : Nat) : Int) % 256))
theorem p4_ok {cs : Array Value} {n A : Nat} (hA : A < 16777216) (h : n + 4 ≤ cs.size) : (p4 cs n A).size = cs.size ∧ (∀ j, j < n → (p4 cs n A)[j]? = cs[j]?) ∧ ∀ (i : Nat) (x : UInt8), (q3 A)[i]? = some x → (p4 cs n A)[n + i]? = some (bv x) := by
  unfold p4
  refine ⟨by simp, fun j hj => by rw [Array.getElem?_setIfInBounds_ne (by omega), Array.getElem?_setIfInBounds_ne (by omega), Array.getElem?_setIfInBounds_ne (by omega), Array.getElem?_setIfInBounds_ne (by omega)], fun i x hx => ?_⟩
  match i, hx with
  | 0, hx =>
    cases hx; rw [q3_0 A hA]
    show (Array.setIfInBounds _ _ _)[n]? = _
    rw [Array.getElem?_setIfInBounds_ne (by omega), Array.getElem?_setIfInBounds_ne (by omega), Array.getElem?_setIfInBounds_ne (by omega), Array.getElem?_setIfInBounds_self_of_lt (by omega)]
    congr 2; omega
  | 1, hx =>
    cases hx; rw [q3_1, Array.getElem?_setIfInBounds_ne (by omega), Array.getElem?_setIfInBounds_ne (by omega), Array.getElem?_setIfInBounds_self_of_lt (by simp only [Array.size_setIfInBounds]; omega)]
    congr 2; omega
  | 2, hx =>
    cases hx; rw [q3_2, Array.getElem?_setIfInBounds_ne (by omega), Array.getElem?_setIfInBounds_self_of_lt (by simp only [Array.size_setIfInBounds]; omega)]
    congr 2; omega
  | i + 3, hx => cases hx
/-- After eight characters at once. -/
def p8 (cs : Array Value) (n V : Nat) : Array Value :=
  (((((((cs.setIfInBounds n (.int .u8 ((V : Int) / 72057594037927936))).setIfInBounds (n + 1) (.int .u8 ((V : Int) / 281474976710656 % 256))).setIfInBounds (n + 2) (.int .u8 ((V : Int) / 1099511627776 % 256))).setIfInBounds (n + 3) (.int .u8 ((V : Int) / 4294967296 % 256))).setIfInBounds (n + 4) (.int .u8 ((V : Int) / 16777216 % 256))).setIfInBounds (n + 5) (.int .u8 ((V : Int) / 65536 % 256))).setIfInBounds (n + 6) (.int .u8 ((V : Int) / 256 % 256))).setIfInBounds (n + 7) (.int .u8 ((V : Int) % 256))
theorem p8_ok {cs : Array Value} {n V A B : Nat} (hA : A < 16777216) (hB : B < 16777216) (hV : V = (A * 16777216 + B) * 65536) (h : n + 8 ≤ cs.size) : (p8 cs n V).size = cs.size ∧ (∀ j, j < n → (p8 cs n V)[j]? = cs[j]?) ∧ ∀ (i : Nat) (x : UInt8), (q3 A ++ q3 B)[i]? = some x → (p8 cs n V)[n + i]? = some (bv x) := by
  have e0 : (V : Int) / 72057594037927936 = (A : Int) / 65536 := by omega
  have e1 : (V : Int) / 281474976710656 % 256 = (A : Int) / 256 % 256 := by omega
  have e2 : (V : Int) / 1099511627776 % 256 = (A : Int) % 256 := by omega
  have e3 : (V : Int) / 4294967296 % 256 = (B : Int) / 65536 := by omega
  have e4 : (V : Int) / 16777216 % 256 = (B : Int) / 256 % 256 := by omega
  have e5 : (V : Int) / 65536 % 256 = (B : Int) % 256 := by omega
  unfold p8
  rw [e0, e1, e2, e3, e4, e5]
  clear e0 e1 e2 e3 e4 e5 hV
  refine ⟨by simp, fun j hj => by rw [Array.getElem?_setIfInBounds_ne (by omega), Array.getElem?_setIfInBounds_ne (by omega), Array.getElem?_setIfInBounds_ne (by omega), Array.getElem?_setIfInBounds_ne (by omega), Array.getElem?_setIfInBounds_ne (by omega), Array.getElem?_setIfInBounds_ne (by omega), Array.getElem?_setIfInBounds_ne (by omega), Array.getElem?_setIfInBounds_ne (by omega)], fun i x hx => ?_⟩
  match i, hx with
  | 0, hx =>
    cases hx; rw [q3_0 A hA]
    show (Array.setIfInBounds _ _ _)[n]? = _
    rw [Array.getElem?_setIfInBounds_ne (by omega), Array.getElem?_setIfInBounds_ne (by omega), Array.getElem?_setIfInBounds_ne (by omega), Array.getElem?_setIfInBounds_ne (by omega), Array.getElem?_setIfInBounds_ne (by omega), Array.getElem?_setIfInBounds_ne (by omega), Array.getElem?_setIfInBounds_ne (by omega), Array.getElem?_setIfInBounds_self_of_lt (by omega)]
  | 1, hx =>
    cases hx; rw [q3_1, Array.getElem?_setIfInBounds_ne (by omega), Array.getElem?_setIfInBounds_ne (by omega), Array.getElem?_setIfInBounds_ne (by omega), Array.getElem?_setIfInBounds_ne (by omega), Array.getElem?_setIfInBounds_ne (by omega), Array.getElem?_setIfInBounds_ne (by omega), Array.getElem?_setIfInBounds_self_of_lt (by simp only [Array.size_setIfInBounds]; omega)]
  | 2, hx =>
    cases hx; rw [q3_2, Array.getElem?_setIfInBounds_ne (by omega), Array.getElem?_setIfInBounds_ne (by omega), Array.getElem?_setIfInBounds_ne (by omega), Array.getElem?_setIfInBounds_ne (by omega), Array.getElem?_setIfInBounds_ne (by omega), Array.getElem?_setIfInBounds_self_of_lt (by simp only [Array.size_setIfInBounds]; omega)]
  | 3, hx =>
    cases hx; rw [q3_0 B hB, Array.getElem?_setIfInBounds_ne (by omega), Array.getElem?_setIfInBounds_ne (by omega), Array.getElem?_setIfInBounds_ne (by omega), Array.getElem?_setIfInBounds_ne (by omega), Array.getElem?_setIfInBounds_self_of_lt (by simp only [Array.size_setIfInBounds]; omega)]
  | 4, hx =>
    cases hx; rw [q3_1, Array.getElem?_setIfInBounds_ne (by omega), Array.getElem?_setIfInBounds_ne (by omega), Array.getElem?_setIfInBounds_ne (by omega), Array.getElem?_setIfInBounds_self_of_lt (by simp only [Array.size_setIfInBounds]; omega)]
  | 5, hx =>
    cases hx; rw [q3_2, Array.getElem?_setIfInBounds_ne (by omega), Array.getElem?_setIfInBounds_ne (by omega), Array.getElem?_setIfInBounds_self_of_lt (by simp only [Array.size_setIfInBounds]; omega)]
  | i + 6, hx => cases hx

theorem DSt.fail {l : List UInt8} {db D si n : Nat} {out : List UInt8} {cs : Array Value} {w wr : World} (h : DSt l db D si n out cs w wr) (hn : d64 (cl (l.drop si)) = none) : d64 (cl l) = none := by rw [h.dec, hn]; rfl
/-- What Decode leaves. -/
def DPost (l : List UInt8) (db : Nat) (cs : Array Value) (w : World) (e : Ending) (w' : World) : Prop :=
  ∃ (n : Nat) (ev : Value) (cs' : Array Value), e = .returned (.tuple #[.int .i64 (n : Int), ev]) ∧ w.grownBy w' (some db) ∧ w'.heap[db]? = some (.cells cs' 5 (0, 0)) ∧ cs'.size = cs.size ∧
   ((ev = .nilIface ∧ ∃ out : List UInt8, out.length = n ∧ n ≤ cs.size ∧ d64 (cl l) = some out ∧ ∀ (i : Nat) (x : UInt8), out[i]? = some x → cs'[i]? = some (bv x)) ∨ ((∃ k : Int, ev = .iface 119 (.int .i64 k)) ∧ d64 (cl l) = none))

theorem put8_call {db D si n A B V : Nat} {l out : List UInt8} {cs : Array Value} {w wr : World} (st : DSt l db D si n out cs w wr) (hA : A < 16777216) (hB : B < 16777216) (hV : V = (A * 16777216 + B) * 65536) (h8 : n + 8 ≤ D) (hlt : si + 8 ≤ l.length)
    (hd : d64 (cl (l.drop si)) = (d64 (cl (l.drop (si + 8)))).map ((q3 A ++ q3 B) ++ ·)) :
    ∀ q, Calls Tryd.prog 40 #[.slice (some ⟨db, n, none⟩) (D - n) (D - n), .int .u64 (V : Int)] (wr.drewN q) fun e w1 => e = .returned (.tuple #[]) ∧ DSt l db D (si + 8) (n + 6) (out ++ (q3 A ++ q3 B)) (p8 cs n V) w w1 := by
  intro q
  obtain ⟨m, hm1, hm2⟩ := st.room (by omega)
  have hz := st.size
  have hc : ∀ i, i < 8 → ∃ y, (wr.drewN q).cell? ⟨db, n + i, none⟩ = some y := fun i hi => ⟨_, (cell_of_heap st.hb (n + i)).trans (Array.getElem?_eq_getElem (by omega))⟩
  obtain ⟨y0, c0⟩ := hc 0 (by omega)
  obtain ⟨y1, c1⟩ := hc 1 (by omega)
  obtain ⟨y2, c2⟩ := hc 2 (by omega)
  obtain ⟨y3, c3⟩ := hc 3 (by omega)
  obtain ⟨y4, c4⟩ := hc 4 (by omega)
  obtain ⟨y5, c5⟩ := hc 5 (by omega)
  obtain ⟨y6, c6⟩ := hc 6 (by omega)
  obtain ⟨y7, c7⟩ := hc 7 (by omega)
  refine (put64_any db n (D - n) (D - n) V (by omega) (by omega) y0 y1 y2 y3 y4 y5 y6 y7 (wr.drewN q) c0 c1 c2 c3 c4 c5 c6 c7 (fun j => frozen_of_heap st.hb j)).mono ?_
  rintro e w1 ⟨rfl, rfl⟩
  refine ⟨rfl, ?_⟩
  obtain ⟨k1, k2, k3⟩ := p8_ok (cs := cs) (n := n) hA hB hV (by omega)
  have hb0 : (wr.drewN q).heap[db]? = some (.cells cs 5 (0, 0)) := st.hb
  exact (st.drewN q).step (grown_set (grown_set (grown_set (grown_set (grown_set (grown_set (grown_set (grown_set ⟨rfl, rfl, rfl, Nat.le_refl _, fun _ _ _ => rfl⟩ _ _) _ _) _ _) _ _) _ _) _ _) _ _) _ _)
    (heap_set_same (heap_set_same (heap_set_same (heap_set_same (heap_set_same (heap_set_same (heap_set_same (heap_set_same hb0 _) _) _) _) _) _) _) _) k1 k2 hlt (by omega) (fun _ => ⟨m + 2, by omega, by omega⟩) rfl hd k3
theorem put4_call {db D si n A : Nat} {l out : List UInt8} {cs : Array Value} {w wr : World} (st : DSt l db D si n out cs w wr) (hA : A < 16777216) (h4 : n + 4 ≤ D) (hlt : si + 4 ≤ l.length)
    (hd : d64 (cl (l.drop si)) = (d64 (cl (l.drop (si + 4)))).map (q3 A ++ ·)) :
    ∀ q, Calls Tryd.prog 43 #[.slice (some ⟨db, n, none⟩) (D - n) (D - n), .int .u32 ((A * 256 : Nat) : Int)] (wr.drewN q) fun e w1 => e = .returned (.tuple #[]) ∧ DSt l db D (si + 4) (n + 3) (out ++ q3 A) (p4 cs n A) w w1 := by
  intro q
  obtain ⟨m, hm1, hm2⟩ := st.room (by omega)
  have hz := st.size
  have hc : ∀ i, i < 4 → ∃ y, (wr.drewN q).cell? ⟨db, n + i, none⟩ = some y := fun i hi => ⟨_, (cell_of_heap st.hb (n + i)).trans (Array.getElem?_eq_getElem (by omega))⟩
  obtain ⟨y0, c0⟩ := hc 0 (by omega)
  obtain ⟨y1, c1⟩ := hc 1 (by omega)
  obtain ⟨y2, c2⟩ := hc 2 (by omega)
  obtain ⟨y3, c3⟩ := hc 3 (by omega)
  refine (put32_any db n (D - n) (D - n) (A * 256) (by omega) (by omega) y0 y1 y2 y3 (wr.drewN q) c0 c1 c2 c3 (fun j => frozen_of_heap st.hb j)).mono ?_
  rintro e w1 ⟨rfl, rfl⟩
  refine ⟨rfl, ?_⟩
  obtain ⟨k1, k2, k3⟩ := p4_ok (cs := cs) (n := n) hA (by omega)
  have hb0 : (wr.drewN q).heap[db]? = some (.cells cs 5 (0, 0)) := st.hb
  exact (st.drewN q).step (grown_set (grown_set (grown_set (grown_set ⟨rfl, rfl, rfl, Nat.le_refl _, fun _ _ _ => rfl⟩ _ _) _ _) _ _) _ _)
    (heap_set_same (heap_set_same (heap_set_same (heap_set_same hb0 _) _) _) _) k1 k2 hlt (by omega) (fun _ => ⟨m + 1, by omega, by omega⟩) rfl hd k3

/-- What a call of decodeQuantum leaves, in Decode's words. -/
def QC (l : List UInt8) (db D si n : Nat) (out : List UInt8) (w : World) (e : Ending) (w1 : World) : Prop :=
  (∃ (si' n' : Nat) (out' : List UInt8) (cs1 : Array Value), e = .returned (.tuple #[.int .i64 (si' : Int), .int .i64 (n' : Int), .nilIface]) ∧ si < si' ∧ DSt l db D si' (n + n') (out ++ out') cs1 w w1) ∨
  (∃ (si' n' : Nat) (cs1 : Array Value) (z : Int), e = .returned (.tuple #[.int .i64 (si' : Int), .int .i64 (n' : Int), .iface 119 (.int .i64 z)]) ∧ n' ≤ 3 ∧ w.grownBy w1 (some db) ∧ w1.heap[db]? = some (.cells cs1 5 (0, 0)) ∧ cs1.size = D ∧ d64 (cl l) = none)
theorem quant_call {eb db D si n so cap sb : Nat} {l out : List UInt8} {cs : Array Value} {w wr : World} (HDL : D = l.length / 4 * 3) (st : DSt l db D si n out cs w wr) (hE : EncD wr eb) (hS : Sl wr (.slice (some ⟨sb, so, none⟩) l.length cap) l) (hne : eb ≠ db) (hl : l.length ≤ 4611686018427387904) (hlt : si < l.length) :
    ∀ (q o' : Nat), (n < D → o' = n) → Calls Tryd.prog 41 #[.pointer (some ⟨eb, 0, none⟩), .slice (some ⟨db, o', none⟩) (D - n) (D - n), .slice (some ⟨sb, so, none⟩) l.length cap, .int .i64 (si : Int)] (wr.drewN q) (QC l db D si n out w) := by
  intro q o' ho
  obtain ⟨m, hm1, hm2⟩ := st.room hlt
  have hq := quant_any eb db n o' (D - n) (D - n) si l (.slice (some ⟨sb, so, none⟩) l.length cap) cs (wr.drewN q) hE hS st.hb (by omega) (fun h => ho (by omega)) (by rw [st.size]; have := st.le; omega) (Nat.le_refl _) st.si_le hl hne
  refine hq.mono ?_
  rintro e w1 ⟨si', n', ev, cs1, rfl, hg, hb1, hz, hk, hsi', hn3, hcase⟩
  rcases hcase with ⟨rfl, h1, h2, h4, hor, out', ho', hd, hc⟩ | ⟨⟨z, rfl⟩, hnone⟩
  · exact .inl ⟨si', n', out', cs1, rfl, h1 hlt, (st.drewN q).quantum HDL hlt hg hb1 hz hk hsi' h2 h4 hn3 hor ho' hd hc⟩
  · exact .inr ⟨si', n', cs1, z, rfl, hn3, grown_trans (st.drewN q).grown hg, hb1, hz.trans st.size, st.fail hnone⟩

set_option maxRecDepth 100000 in
set_option maxHeartbeats 4000000 in
theorem decode64_any (eb db D : Nat) (l : List UInt8) (sv : Value) (cs : Array Value) (w : World) (hE : EncD w eb) (hS : Sl w sv l) (hD : w.heap[db]? = some (.cells cs 5 (0, 0)))
   (hDl : D = l.length / 4 * 3) (hcs : cs.size = D) (hne : eb ≠ db) (hsv : l ≠ [] → ∀ b o n c, sv = .slice (some ⟨b, o, none⟩) n c → b ≠ db) (hl : l.length ≤ 4611686018427387904) :
    Calls Tryd.prog 26 #[.pointer (some ⟨eb, 0, none⟩), .slice (some ⟨db, 0, none⟩) D D, sv] w (DPost l db cs w) := by
  by_cases h0 : l = []
  · subst h0
    obtain ⟨p, cap, rfl, hlc, hc⟩ := hS
    have HD := hide hD
    have HC := hide hcs
    clear hc hlc hsv hE hD hcs hDl
    go_enter Tryd.func26, Tryd.ntmps26
    go_wp2_with fail
    go_ret2
    exact ⟨0, _, cs, rfl, ⟨rfl, rfl, rfl, Nat.le_refl _, fun _ _ _ => rfl⟩, unhide HD, rfl, .inl ⟨rfl, [], rfl, Nat.zero_le _, rfl, fun i x hx => by cases hx⟩⟩
  · obtain ⟨p, cap, rfl, hlc, hc⟩ := hS
    obtain ⟨sb, so, rfl, hcell⟩ := hc h0
    have hsbd := hsv h0 sb so _ _ rfl
    have hl0 : 0 < l.length := List.length_pos_iff.2 h0
    have hlI : ¬ (l.length : Int) = 0 := by omega
    obtain ⟨c00, hc00⟩ : ∃ x, l[0]? = some x := ⟨_, List.getElem?_eq_getElem hl0⟩
    have hsbl : sb < w.heap.size := World.block_lt_of_cell? w _ (hcell 0 c00 hc00)
    clear hc00
    have HE := hide hE
    have HCELL := hide hcell
    have HDL := hide hDl
    have HNE := hide (And.intro hne hsbd)
    have H0 := hide (DSt.start (l := l) hD hcs)
    have HCS := hide hcs
    have hDm : D ≤ 4611686018427387904 := by omega
    clear hE hcell hD hDl hcs hne hsbd hc h0 hsv
    go_enter Tryd.func26, Tryd.ntmps26
    go_wp2_with (refine wpList_load_mid rfl 75 (.tmp 23) rfl eb 64 rfl dmV _ (unhide HE).range Tryd.underlying75 rfl dmV_len ?_)
    go_simp
    go_loopw [6, 7, 8] (fun v6 v7 v8 wr => ∃ (si n : Nat) (out : List UInt8) (cs' : Array Value), v6 = .int .i64 (n : Int) ∧ v7 = .nilIface ∧ v8 = .int .i64 (si : Int) ∧ si ≤ l.length ∧ n ≤ D ∧ Hid (DSt l db D si n out cs' w wr)) (fun _ _ v8 _ => l.length - (intOf v8).toNat)
    case atStart => exact ⟨0, 0, [], cs, rfl, rfl, rfl, Nat.zero_le _, Nat.zero_le _, unhide H0⟩
    case round =>
      clear H0
      obtain ⟨si, n, out, cs', rfl, rfl, rfl, hsi, hn, HS⟩ := hrel
      by_cases h8 : 8 ≤ (l.length : Int) - (si : Int) ∧ 8 ≤ (D : Int) - (n : Int)
      · obtain ⟨h8a, h8b⟩ := h8
        obtain ⟨x0, hx0⟩ : ∃ x, l[si]? = some x := ⟨_, List.getElem?_eq_getElem (by omega)⟩
        obtain ⟨x1, hx1⟩ : ∃ x, l[si + 1]? = some x := ⟨_, List.getElem?_eq_getElem (by omega)⟩
        obtain ⟨x2, hx2⟩ : ∃ x, l[si + 2]? = some x := ⟨_, List.getElem?_eq_getElem (by omega)⟩
        obtain ⟨x3, hx3⟩ : ∃ x, l[si + 3]? = some x := ⟨_, List.getElem?_eq_getElem (by omega)⟩
        obtain ⟨x4, hx4⟩ : ∃ x, l[si + 4]? = some x := ⟨_, List.getElem?_eq_getElem (by omega)⟩
        obtain ⟨x5, hx5⟩ : ∃ x, l[si + 5]? = some x := ⟨_, List.getElem?_eq_getElem (by omega)⟩
        obtain ⟨x6, hx6⟩ : ∃ x, l[si + 6]? = some x := ⟨_, List.getElem?_eq_getElem (by omega)⟩
        obtain ⟨x7, hx7⟩ : ∃ x, l[si + 7]? = some x := ⟨_, List.getElem?_eq_getElem (by omega)⟩
        have st := unhide HS
        have kS : ∀ o, wr.cell? ⟨sb, o, none⟩ = w.cell? ⟨sb, o, none⟩ := fun o => World.cell?_of_block (st.grown.block sb hsbl (by simpa using (unhide HNE).2))
        have hEw : EncD wr eb := (unhide HE).keep (st.grown.block eb (unhide HE).lt (by simpa using (unhide HNE).1))
        have hs0 : wr.cell? ⟨sb, so + si, none⟩ = some (.int .u8 (x0.toNat : Int)) := by rw [kS]; exact unhide HCELL _ _ hx0
        have hd0 := hEw.dm x0
        have bb0 := bounds_byte x0
        have v0 := v6_dmv x0
        have bm0 := dmv_le x0
        obtain ⟨m0, hm0⟩ : ∃ m, m = dmv x0 := ⟨_, rfl⟩
        rw [← hm0] at hd0 v0 bm0
        have hs1 : wr.cell? ⟨sb, so + si + 1, none⟩ = some (.int .u8 (x1.toNat : Int)) := by rw [kS, Nat.add_assoc]; exact unhide HCELL _ _ hx1
        have hd1 := hEw.dm x1
        have bb1 := bounds_byte x1
        have v1 := v6_dmv x1
        have bm1 := dmv_le x1
        obtain ⟨m1, hm1⟩ : ∃ m, m = dmv x1 := ⟨_, rfl⟩
        rw [← hm1] at hd1 v1 bm1
        have hs2 : wr.cell? ⟨sb, so + si + 2, none⟩ = some (.int .u8 (x2.toNat : Int)) := by rw [kS, Nat.add_assoc]; exact unhide HCELL _ _ hx2
        have hd2 := hEw.dm x2
        have bb2 := bounds_byte x2
        have v2 := v6_dmv x2
        have bm2 := dmv_le x2
        obtain ⟨m2, hm2⟩ : ∃ m, m = dmv x2 := ⟨_, rfl⟩
        rw [← hm2] at hd2 v2 bm2
        have hs3 : wr.cell? ⟨sb, so + si + 3, none⟩ = some (.int .u8 (x3.toNat : Int)) := by rw [kS, Nat.add_assoc]; exact unhide HCELL _ _ hx3
        have hd3 := hEw.dm x3
        have bb3 := bounds_byte x3
        have v3 := v6_dmv x3
        have bm3 := dmv_le x3
        obtain ⟨m3, hm3⟩ : ∃ m, m = dmv x3 := ⟨_, rfl⟩
        rw [← hm3] at hd3 v3 bm3
        have hs4 : wr.cell? ⟨sb, so + si + 4, none⟩ = some (.int .u8 (x4.toNat : Int)) := by rw [kS, Nat.add_assoc]; exact unhide HCELL _ _ hx4
        have hd4 := hEw.dm x4
        have bb4 := bounds_byte x4
        have v4 := v6_dmv x4
        have bm4 := dmv_le x4
        obtain ⟨m4, hm4⟩ : ∃ m, m = dmv x4 := ⟨_, rfl⟩
        rw [← hm4] at hd4 v4 bm4
        have hs5 : wr.cell? ⟨sb, so + si + 5, none⟩ = some (.int .u8 (x5.toNat : Int)) := by rw [kS, Nat.add_assoc]; exact unhide HCELL _ _ hx5
        have hd5 := hEw.dm x5
        have bb5 := bounds_byte x5
        have v5 := v6_dmv x5
        have bm5 := dmv_le x5
        obtain ⟨m5, hm5⟩ : ∃ m, m = dmv x5 := ⟨_, rfl⟩
        rw [← hm5] at hd5 v5 bm5
        have hs6 : wr.cell? ⟨sb, so + si + 6, none⟩ = some (.int .u8 (x6.toNat : Int)) := by rw [kS, Nat.add_assoc]; exact unhide HCELL _ _ hx6
        have hd6 := hEw.dm x6
        have bb6 := bounds_byte x6
        have v6 := v6_dmv x6
        have bm6 := dmv_le x6
        obtain ⟨m6, hm6⟩ : ∃ m, m = dmv x6 := ⟨_, rfl⟩
        rw [← hm6] at hd6 v6 bm6
        have hs7 : wr.cell? ⟨sb, so + si + 7, none⟩ = some (.int .u8 (x7.toNat : Int)) := by rw [kS, Nat.add_assoc]; exact unhide HCELL _ _ hx7
        have hd7 := hEw.dm x7
        have bb7 := bounds_byte x7
        have v7 := v6_dmv x7
        have bm7 := dmv_le x7
        obtain ⟨m7, hm7⟩ : ∃ m, m = dmv x7 := ⟨_, rfl⟩
        rw [← hm7] at hd7 v7 bm7
        have hsl : ∀ W, (Instr.slice 22 (.slice (some ⟨sb, so, none⟩) l.length cap) (some (.int .i64 (si : Int))) (some (.int .i64 ((si : Int) + 8))) none).run Tryd.prog W = .ok (.slice (some ⟨sb, so + si, none⟩) 8 (cap - si)) W := fun W => by
          rw [show ((si : Int) + 8) = ((si + 8 : Nat) : Int) by omega, Lib.run_slice_window W 22 5 Tryd.underlying22 (fun _ => by kernel_rfl) sb so l.length cap _ _ (by omega) (by omega), show si + 8 - si = 8 by omega]
        obtain ⟨z0, hz0⟩ := hEw.map0
        have HX := hide (And.intro hx0 (And.intro hx1 (And.intro hx2 (And.intro hx3 (And.intro hx4 (And.intro hx5 (And.intro hx6 hx7)))))))
        have HM := hide (And.intro hm0 (And.intro hm1 (And.intro hm2 (And.intro hm3 (And.intro hm4 (And.intro hm5 (And.intro hm6 hm7)))))))
        have hSw : Sl wr (.slice (some ⟨sb, so, none⟩) l.length cap) l := ⟨_, _, rfl, hlc, fun _ => ⟨sb, so, rfl, fun i x hx => by rw [kS]; exact unhide HCELL i x hx⟩⟩
        clear hx0 hx1 hx2 hx3 hx4 hx5 hx6 hx7 hm0 hm1 hm2 hm3 hm4 hm5 hm6 hm7
        by_cases hbad : BadV m0 m1 m2 m3 m4 m5 m6 m7
        · as_aux_lemma =>
          -- @eightno
          have hasm : ∀ n, Calls Tryd.prog 39 #[.int .u8 (m0 : Int), .int .u8 (m1 : Int), .int .u8 (m2 : Int), .int .u8 (m3 : Int), .int .u8 (m4 : Int), .int .u8 (m5 : Int), .int .u8 (m6 : Int), .int .u8 (m7 : Int)] (wr.drewN n) (fun e w' => e = .returned (.tuple #[.int .u64 0, .bool false]) ∧ w' = wr.drewN n) := fun n => (asm64_no m0 m1 m2 m3 m4 m5 m6 m7 v0 v1 v2 v3 v4 v5 v6 v7 (wr.drewN n) hbad).mono (fun _ _ h => ⟨h.1, h.2.symm⟩)
          have HASM := hide hasm
          clear hasm v0 v1 v2 v3 v4 v5 v6 v7 hbad
          have HQ := hide (quant_call (HDL := unhide HDL) st hEw hSw (unhide HNE).1 hl (by omega))
          obtain ⟨o', hdn, ho'⟩ := slice_lo db 0 D D n hn (Nat.le_refl _)
          have HO := hide ho'
          clear st kS hEw hSw ho'
          go_wp2_with fail
          go_quiet ((go_at_call 39; exact Calls.quiet_of_same (unhide HASM _)))
          clear HASM
          go_wp2_with fail
          refine (unhide HQ _ o' (fun h => by have := unhide HO h; omega)).mono ?_
          rintro e w1 hqp
          rcases hqp with ⟨si', n', out', cs1, rfl, hlt, hDS⟩ | ⟨si', n', cs1, z, rfl, hn3, hgr, hb1, hz1, hnone⟩
          · have HDS := hide hDS
            have b1 := hDS.le
            have b2 := hDS.si_le
            clear hDS
            go_wp2_with fail
            refine ⟨⟨si', n + n', _, cs1, by go_num, rfl, rfl, b2, b1, unhide HDS⟩, ?_⟩
            simp [intOf]; omega
          · have HR := hide (And.intro hgr (And.intro hb1 (And.intro hz1 hnone)))
            clear hgr hb1 hz1 hnone
            go_wp2_with fail
            go_ret2
            obtain ⟨g1, g2, g3, g4⟩ := unhide HR
            exact ⟨n + n', _, cs1, by first | rfl | (congr 1), g1, g2, g3.trans (unhide HCS).symm, .inr ⟨⟨z, rfl⟩, g4⟩⟩
        · as_aux_lemma =>
          -- @eightyes
          have hasm : ∀ n, Calls Tryd.prog 39 #[.int .u8 (m0 : Int), .int .u8 (m1 : Int), .int .u8 (m2 : Int), .int .u8 (m3 : Int), .int .u8 (m4 : Int), .int .u8 (m5 : Int), .int .u8 (m6 : Int), .int .u8 (m7 : Int)] (wr.drewN n) (fun e w' => e = .returned (.tuple #[.int .u64 (((qv m0 m1 m2 m3 * 16777216 + qv m4 m5 m6 m7) * 65536 : Nat) : Int), .bool true]) ∧ w' = wr.drewN n) := fun n => (asm64_yes m0 m1 m2 m3 m4 m5 m6 m7 v0 v1 v2 v3 v4 v5 v6 v7 (wr.drewN n) hbad).mono (fun _ _ h => ⟨h.1, h.2.symm⟩)
          unfold BadV at hbad
          have a0 := isA_of (unhide HM).1 (by intro h; apply hbad; simp [h])
          have a1 := isA_of (unhide HM).2.1 (by intro h; apply hbad; simp [h])
          have a2 := isA_of (unhide HM).2.2.1 (by intro h; apply hbad; simp [h])
          have a3 := isA_of (unhide HM).2.2.2.1 (by intro h; apply hbad; simp [h])
          have a4 := isA_of (unhide HM).2.2.2.2.1 (by intro h; apply hbad; simp [h])
          have a5 := isA_of (unhide HM).2.2.2.2.2.1 (by intro h; apply hbad; simp [h])
          have a6 := isA_of (unhide HM).2.2.2.2.2.2.1 (by intro h; apply hbad; simp [h])
          have a7 := isA_of (unhide HM).2.2.2.2.2.2.2 (by intro h; apply hbad; simp [h])
          have hdd : d64 (cl (l.drop si)) = (d64 (cl (l.drop (si + 8)))).map ((q3 (qv m0 m1 m2 m3) ++ q3 (qv m4 m5 m6 m7)) ++ ·) := by
            obtain ⟨e0, e1, e2, e3, e4, e5, e6, e7⟩ := unhide HM
            obtain ⟨f0, f1, f2, f3, f4, f5, f6, f7⟩ := unhide HX
            rw [cl_four f0 f1 f2 f3 a0 a1 a2 a3, cl_four (si := si + 4) f4 f5 f6 f7 a4 a5 a6 a7, Option.map_map, e0, e1, e2, e3, e4, e5, e6, e7]
            rfl
          have l0 : m0 < 64 := by rw [(unhide HM).1]; exact dmv_lt a0
          have l1 : m1 < 64 := by rw [(unhide HM).2.1]; exact dmv_lt a1
          have l2 : m2 < 64 := by rw [(unhide HM).2.2.1]; exact dmv_lt a2
          have l3 : m3 < 64 := by rw [(unhide HM).2.2.2.1]; exact dmv_lt a3
          have l4 : m4 < 64 := by rw [(unhide HM).2.2.2.2.1]; exact dmv_lt a4
          have l5 : m5 < 64 := by rw [(unhide HM).2.2.2.2.2.1]; exact dmv_lt a5
          have l6 : m6 < 64 := by rw [(unhide HM).2.2.2.2.2.2.1]; exact dmv_lt a6
          have l7 : m7 < 64 := by rw [(unhide HM).2.2.2.2.2.2.2]; exact dmv_lt a7
          have HQ := hide (put8_call st (qv_lt l0 l1 l2 l3) (qv_lt l4 l5 l6 l7) rfl (by omega) (by omega) hdd)
          obtain ⟨o', hdn, ho'⟩ := slice_lo db 0 D D n hn (Nat.le_refl _)
          have e9 : n = o' := by have := ho' (by omega); omega
          subst e9
          generalize qv m0 m1 m2 m3 = A at hasm HQ
          generalize qv m4 m5 m6 m7 = B at hasm HQ
          generalize (A * 16777216 + B) * 65536 = V at hasm HQ
          have HASM := hide hasm
          clear st kS hEw hSw ho' hasm v0 v1 v2 v3 v4 v5 v6 v7 hbad a0 a1 a2 a3 a4 a5 a6 a7 hdd l0 l1 l2 l3 l4 l5 l6 l7
          go_wp2_with fail
          go_quiet ((go_at_call 39; exact Calls.quiet_of_same (unhide HASM _)))
          clear HASM
          go_wp2_with fail
          refine (unhide HQ _).mono ?_
          rintro e w1 ⟨rfl, hDS⟩
          have HDS := hide hDS
          clear hDS
          go_wp2_with fail
          refine ⟨⟨si + 8, n + 6, _, _, by go_num, rfl, by go_num, by omega, by omega, unhide HDS⟩, ?_⟩
          simp [intOf]; omega
      · have h8' : 8 ≤ (l.length : Int) - (si : Int) → ¬ 8 ≤ (D : Int) - (n : Int) := fun a b => h8 ⟨a, b⟩
        clear h8
        go_upto_region 5 with (fail)
        go_cut [38] from 25 to 38 (fun v wx => v = .bool false ∧ wx = wr)
        case first =>
          by_cases h1 : 8 ≤ (l.length : Int) - (si : Int)
          · have h2 := h8' h1
            clear h8'
            go_wp2_with fail
            go_meet
            exact ⟨rfl, rfl⟩
          · clear h8'
            go_wp2_with fail
            go_meet
            exact ⟨rfl, rfl⟩
        case rest =>
          -- @two
          obtain ⟨rfl, rfl⟩ := hcut
          clear h8'
          go_wp2_with fail
          obtain ⟨wo, hwo⟩ : ∃ wo : World, wo = wc := ⟨_, rfl⟩
          subst hwo
          go_loopw [6, 7, 8] (fun v6 v7 v8 wr => ∃ (si n : Nat) (out : List UInt8) (cs' : Array Value), v6 = .int .i64 (n : Int) ∧ v7 = .nilIface ∧ v8 = .int .i64 (si : Int) ∧ si ≤ l.length ∧ n ≤ D ∧ Hid (DSt l db D si n out cs' w wr)) (fun _ _ v8 _ => l.length - (intOf v8).toNat)
          case atStart => exact ⟨si, n, out, cs', rfl, rfl, rfl, hsi, hn, unhide HS⟩
          case round =>
            clear HS hsi hn
            obtain ⟨s2, n2, o2, c2', rfl, rfl, rfl, hsi2, hn2, HS2⟩ := hrel
            by_cases h4 : 4 ≤ (l.length : Int) - (s2 : Int) ∧ 4 ≤ (D : Int) - (n2 : Int)
            · -- @four
              obtain ⟨h4a, h4b⟩ := h4
              obtain ⟨x0, hx0⟩ : ∃ x, l[s2]? = some x := ⟨_, List.getElem?_eq_getElem (by omega)⟩
              obtain ⟨x1, hx1⟩ : ∃ x, l[s2 + 1]? = some x := ⟨_, List.getElem?_eq_getElem (by omega)⟩
              obtain ⟨x2, hx2⟩ : ∃ x, l[s2 + 2]? = some x := ⟨_, List.getElem?_eq_getElem (by omega)⟩
              obtain ⟨x3, hx3⟩ : ∃ x, l[s2 + 3]? = some x := ⟨_, List.getElem?_eq_getElem (by omega)⟩
              have st := unhide HS2
              have kS : ∀ o, wr.cell? ⟨sb, o, none⟩ = w.cell? ⟨sb, o, none⟩ := fun o => World.cell?_of_block (st.grown.block sb hsbl (by simpa using (unhide HNE).2))
              have hEw : EncD wr eb := (unhide HE).keep (st.grown.block eb (unhide HE).lt (by simpa using (unhide HNE).1))
              have hSw : Sl wr (.slice (some ⟨sb, so, none⟩) l.length cap) l := ⟨_, _, rfl, hlc, fun _ => ⟨sb, so, rfl, fun i x hx => by rw [kS]; exact unhide HCELL i x hx⟩⟩
              have hs0 : wr.cell? ⟨sb, so + s2, none⟩ = some (.int .u8 (x0.toNat : Int)) := by rw [kS]; exact unhide HCELL _ _ hx0
              have hd0 := hEw.dm x0
              have bb0 := bounds_byte x0
              have v0 := v6_dmv x0
              have bm0 := dmv_le x0
              obtain ⟨m0, hm0⟩ : ∃ m, m = dmv x0 := ⟨_, rfl⟩
              rw [← hm0] at hd0 v0 bm0
              have hs1 : wr.cell? ⟨sb, so + s2 + 1, none⟩ = some (.int .u8 (x1.toNat : Int)) := by rw [kS, Nat.add_assoc]; exact unhide HCELL _ _ hx1
              have hd1 := hEw.dm x1
              have bb1 := bounds_byte x1
              have v1 := v6_dmv x1
              have bm1 := dmv_le x1
              obtain ⟨m1, hm1⟩ : ∃ m, m = dmv x1 := ⟨_, rfl⟩
              rw [← hm1] at hd1 v1 bm1
              have hs2 : wr.cell? ⟨sb, so + s2 + 2, none⟩ = some (.int .u8 (x2.toNat : Int)) := by rw [kS, Nat.add_assoc]; exact unhide HCELL _ _ hx2
              have hd2 := hEw.dm x2
              have bb2 := bounds_byte x2
              have v2 := v6_dmv x2
              have bm2 := dmv_le x2
              obtain ⟨m2, hm2⟩ : ∃ m, m = dmv x2 := ⟨_, rfl⟩
              rw [← hm2] at hd2 v2 bm2
              have hs3 : wr.cell? ⟨sb, so + s2 + 3, none⟩ = some (.int .u8 (x3.toNat : Int)) := by rw [kS, Nat.add_assoc]; exact unhide HCELL _ _ hx3
              have hd3 := hEw.dm x3
              have bb3 := bounds_byte x3
              have v3 := v6_dmv x3
              have bm3 := dmv_le x3
              obtain ⟨m3, hm3⟩ : ∃ m, m = dmv x3 := ⟨_, rfl⟩
              rw [← hm3] at hd3 v3 bm3
              have hsl : ∀ W, (Instr.slice 22 (.slice (some ⟨sb, so, none⟩) l.length cap) (some (.int .i64 (s2 : Int))) (some (.int .i64 ((s2 : Int) + 4))) none).run Tryd.prog W = .ok (.slice (some ⟨sb, so + s2, none⟩) 4 (cap - s2)) W := fun W => by
                rw [show ((s2 : Int) + 4) = ((s2 + 4 : Nat) : Int) by omega, Lib.run_slice_window W 22 5 Tryd.underlying22 (fun _ => by kernel_rfl) sb so l.length cap _ _ (by omega) (by omega), show s2 + 4 - s2 = 4 by omega]
              obtain ⟨z0, hz0⟩ := hEw.map0
              have HX := hide (And.intro hx0 (And.intro hx1 (And.intro hx2 hx3)))
              have HM := hide (And.intro hm0 (And.intro hm1 (And.intro hm2 hm3)))
              clear hx0 hx1 hx2 hx3 hm0 hm1 hm2 hm3
              by_cases hbad : m0 = 255 ∨ m1 = 255 ∨ m2 = 255 ∨ m3 = 255
              · as_aux_lemma =>
                have hasm : ∀ n, Calls Tryd.prog 42 #[.int .u8 (m0 : Int), .int .u8 (m1 : Int), .int .u8 (m2 : Int), .int .u8 (m3 : Int)] (wr.drewN n) (fun e w' => e = .returned (.tuple #[.int .u32 0, .bool false]) ∧ w' = wr.drewN n) := fun n => (asm32_any m0 m1 m2 m3 v0 v1 v2 v3 (wr.drewN n)).mono (fun _ _ h => ⟨h.1.trans (by rw [if_pos hbad]), h.2.symm⟩)
                have HASM := hide hasm
                clear hasm v0 v1 v2 v3 hbad
                have HQ := hide (quant_call (HDL := unhide HDL) st hEw hSw (unhide HNE).1 hl (by omega))
                obtain ⟨o', hdn, ho'⟩ := slice_lo db 0 D D n2 hn2 (Nat.le_refl _)
                have HO := hide ho'
                clear st kS hEw hSw ho'
                go_wp2_with fail
                go_quiet ((go_at_call 42; exact Calls.quiet_of_same (unhide HASM _)))
                clear HASM
                go_wp2_with fail
                refine (unhide HQ _ o' (fun h => by have := unhide HO h; omega)).mono ?_
                rintro e w1 hqp
                rcases hqp with ⟨si', n', out', cs1, rfl, hlt, hDS⟩ | ⟨si', n', cs1, z, rfl, hn3, hgr, hb1, hz1, hnone⟩
                · have HDS := hide hDS
                  have b1 := hDS.le
                  have b2 := hDS.si_le
                  clear hDS
                  go_wp2_with fail
                  refine ⟨⟨si', n2 + n', _, cs1, by go_num, rfl, rfl, b2, b1, unhide HDS⟩, ?_⟩
                  simp [intOf]; omega
                · have HR := hide (And.intro hgr (And.intro hb1 (And.intro hz1 hnone)))
                  clear hgr hb1 hz1 hnone
                  go_wp2_with fail
                  go_ret2
                  obtain ⟨g1, g2, g3, g4⟩ := unhide HR
                  exact ⟨n2 + n', _, cs1, by first | rfl | (congr 1), g1, g2, g3.trans (unhide HCS).symm, .inr ⟨⟨z, rfl⟩, g4⟩⟩
              · as_aux_lemma =>
                have hasm : ∀ n, Calls Tryd.prog 42 #[.int .u8 (m0 : Int), .int .u8 (m1 : Int), .int .u8 (m2 : Int), .int .u8 (m3 : Int)] (wr.drewN n) (fun e w' => e = .returned (.tuple #[.int .u32 ((qv m0 m1 m2 m3 * 256 : Nat) : Int), .bool true]) ∧ w' = wr.drewN n) := fun n => (asm32_any m0 m1 m2 m3 v0 v1 v2 v3 (wr.drewN n)).mono (fun _ _ h => ⟨h.1.trans (by rw [if_neg hbad]), h.2.symm⟩)
                have a0 := isA_of (unhide HM).1 (by intro h; apply hbad; simp [h])
                have a1 := isA_of (unhide HM).2.1 (by intro h; apply hbad; simp [h])
                have a2 := isA_of (unhide HM).2.2.1 (by intro h; apply hbad; simp [h])
                have a3 := isA_of (unhide HM).2.2.2 (by intro h; apply hbad; simp [h])
                have hdd : d64 (cl (l.drop s2)) = (d64 (cl (l.drop (s2 + 4)))).map (q3 (qv m0 m1 m2 m3) ++ ·) := by
                  obtain ⟨e0, e1, e2, e3⟩ := unhide HM
                  obtain ⟨f0, f1, f2, f3⟩ := unhide HX
                  rw [cl_four f0 f1 f2 f3 a0 a1 a2 a3, e0, e1, e2, e3]
                have l0 : m0 < 64 := by rw [(unhide HM).1]; exact dmv_lt a0
                have l1 : m1 < 64 := by rw [(unhide HM).2.1]; exact dmv_lt a1
                have l2 : m2 < 64 := by rw [(unhide HM).2.2.1]; exact dmv_lt a2
                have l3 : m3 < 64 := by rw [(unhide HM).2.2.2]; exact dmv_lt a3
                have HQ := hide (put4_call st (qv_lt l0 l1 l2 l3) (by omega) (by omega) hdd)
                obtain ⟨o', hdn, ho'⟩ := slice_lo db 0 D D n2 hn2 (Nat.le_refl _)
                have e9 : n2 = o' := by have := ho' (by omega); omega
                subst e9
                generalize qv m0 m1 m2 m3 = A at hasm HQ
                generalize hA2 : A * 256 = A2 at hasm HQ
                have HASM := hide hasm
                clear hA2 st kS hEw hSw ho' hasm v0 v1 v2 v3 hbad a0 a1 a2 a3 hdd l0 l1 l2 l3
                go_wp2_with fail
                go_quiet ((go_at_call 42; exact Calls.quiet_of_same (unhide HASM _)))
                clear HASM
                go_wp2_with fail
                refine (unhide HQ _).mono ?_
                rintro e w1 ⟨rfl, hDS⟩
                have HDS := hide hDS
                clear hDS
                go_wp2_with fail
                refine ⟨⟨s2 + 4, n2 + 3, _, _, by go_num, rfl, by go_num, by omega, by omega, unhide HDS⟩, ?_⟩
                simp [intOf]; omega
            · have h4' : 4 ≤ (l.length : Int) - (s2 : Int) → ¬ 4 ≤ (D : Int) - (n2 : Int) := fun a b => h4 ⟨a, b⟩
              clear h4
              go_upto_region 17 with (fail)
              go_cut [151] from 140 to 151 (fun v wx => v = .bool false ∧ wx = wr)
              case first =>
                as_aux_lemma =>
                by_cases h1 : 4 ≤ (l.length : Int) - (s2 : Int)
                · have h2 := h4' h1
                  clear h4'
                  go_wp2_with fail
                  go_meet
                  exact ⟨rfl, rfl⟩
                · clear h4'
                  go_wp2_with fail
                  go_meet
                  exact ⟨rfl, rfl⟩
              case rest =>
                -- @three
                obtain ⟨rfl, rfl⟩ := hcut
                clear h4'
                go_wp2_with fail
                obtain ⟨wo2, hwo2⟩ : ∃ wo : World, wo = wc := ⟨_, rfl⟩
                subst hwo2
                go_loopw [6, 7, 8] (fun v6 v7 v8 wr => ∃ (si n : Nat) (out : List UInt8) (cs' : Array Value), v6 = .int .i64 (n : Int) ∧ v7 = .nilIface ∧ v8 = .int .i64 (si : Int) ∧ si ≤ l.length ∧ n ≤ D ∧ Hid (DSt l db D si n out cs' w wr)) (fun _ _ v8 _ => l.length - (intOf v8).toNat)
                case atStart => exact ⟨s2, n2, o2, c2', rfl, rfl, rfl, hsi2, hn2, unhide HS2⟩
                case round =>
                  clear HS2 hsi2 hn2
                  obtain ⟨s2, n2, o2, c2', rfl, rfl, rfl, hsi2, hn2, HS2⟩ := hrel
                  by_cases hlt : s2 < l.length
                  · as_aux_lemma =>
                    have st := unhide HS2
                    have kS : ∀ o, wr.cell? ⟨sb, o, none⟩ = w.cell? ⟨sb, o, none⟩ := fun o => World.cell?_of_block (st.grown.block sb hsbl (by simpa using (unhide HNE).2))
                    have hEw : EncD wr eb := (unhide HE).keep (st.grown.block eb (unhide HE).lt (by simpa using (unhide HNE).1))
                    have hSw : Sl wr (.slice (some ⟨sb, so, none⟩) l.length cap) l := ⟨_, _, rfl, hlc, fun _ => ⟨sb, so, rfl, fun i x hx => by rw [kS]; exact unhide HCELL i x hx⟩⟩
                    have HQ := hide (quant_call (HDL := unhide HDL) st hEw hSw (unhide HNE).1 hl (by omega))
                    obtain ⟨o', hdn, ho'⟩ := slice_lo db 0 D D n2 hn2 (Nat.le_refl _)
                    have HO := hide ho'
                    clear st kS hEw hSw ho'
                    go_wp2_with fail
                    refine (unhide HQ 0 o' (fun h => by have := unhide HO h; omega)).mono ?_
                    rintro e w1 hqp
                    rcases hqp with ⟨si', n', out', cs1, rfl, hlt, hDS⟩ | ⟨si', n', cs1, z, rfl, hn3, hgr, hb1, hz1, hnone⟩
                    · have HDS := hide hDS
                      have b1 := hDS.le
                      have b2 := hDS.si_le
                      clear hDS
                      go_wp2_with fail
                      refine ⟨⟨si', n2 + n', _, cs1, by go_num, rfl, rfl, b2, b1, unhide HDS⟩, ?_⟩
                      simp [intOf]; omega
                    · have HR := hide (And.intro hgr (And.intro hb1 (And.intro hz1 hnone)))
                      clear hgr hb1 hz1 hnone
                      go_wp2_with fail
                      go_ret2
                      obtain ⟨g1, g2, g3, g4⟩ := unhide HR
                      exact ⟨n2 + n', _, cs1, by first | rfl | (congr 1), g1, g2, g3.trans (unhide HCS).symm, .inr ⟨⟨z, rfl⟩, g4⟩⟩
                  · obtain rfl : s2 = l.length := by omega
                    have HR : Hid (DPost l db cs w (.returned (.tuple #[.int .i64 (n2 : Int), .nilIface])) wr) := by
                      have st := unhide HS2
                      have hd := st.dec
                      rw [cl_end (Nat.le_refl _)] at hd
                      refine ⟨n2, _, c2', rfl, st.grown, st.hb, st.size.trans (unhide HCS).symm, .inl ⟨rfl, o2, st.len, by rw [unhide HCS]; exact st.le, ?_, st.cells⟩⟩
                      rw [hd]; simp [d64]
                    clear HS2
                    go_wp2_with fail
                    go_ret2
                    exact unhide HR
end Go.Proofs.YtpjehmblndjknaaDoor
