/-
  Small facts used by all texts of this seat: bytes as lists, blanks, the decoding of a string's runes. No program is named here.
-/
import Derived.WalkKit
import Derived.WalkSpells
import Derived.WalkLawsBesides
import Derived.Below
import Derived.Lib.OthersKept
import Derived.Lib.Hide
import Derived.Lib.ConvBytes
import Derived.Lib.Builder
import Derived.Laws.BytesArg
import Derived.Laws.OwnMore
namespace Go.Proofs.YtpjehmblndjknaaDoor
set_option linter.unusedSimpArgs false
set_option linter.unusedVariables false
open Go.RowKit

theorem hide {p : Prop} (h : p) : Hid p := h
theorem unhide {p : Prop} (h : Hid p) : p := h

/-- A byte string out of a list. -/
def bs (l : List UInt8) : ByteArray := ⟨l.toArray⟩
theorem bs_size (l : List UInt8) : (bs l).size = l.length := by show l.toArray.size = _; simp
theorem bs_toList (l : List UInt8) : (bs l).data.toList = l := rfl
theorem bs_of (s : ByteArray) : bs s.data.toList = s := rfl
theorem len_of (s : ByteArray) : s.data.toList.length = s.size := by rw [Array.length_toList]; rfl

/-- A blank or a tab. -/
def isBl (b : UInt8) : Bool := b == 32 || b == 9
theorem isBl_low {b : UInt8} (h : isBl b = true) : b.toNat < 128 := by
  simp only [isBl, Bool.or_eq_true, beq_iff_eq] at h
  rcases h with rfl | rfl <;> decide
theorem isBl_nat (b : UInt8) : isBl b = (decide (b.toNat = 32) || decide (b.toNat = 9)) := by
  unfold isBl
  congr 1 <;> rw [Bool.eq_iff_iff, beq_iff_eq, decide_eq_true_iff, ← UInt8.toNat_inj] <;> rfl

theorem decode_span (s : ByteArray) (pos : Nat) (h : pos < s.size) (ha : 128 ≤ (s[pos]'h).toNat) :
    pos + (Utf8.decode s pos).2 ≤ s.size ∧ ∀ j (hj : j < s.size), pos ≤ j → j < pos + (Utf8.decode s pos).2 → 128 ≤ (s[j]'hj).toNat := by
  have hn : ¬ (s[pos]'h).toNat < 128 := by omega
  have key : ∀ k, pos + k < s.size → ((s.get! (pos + k)).toNat / 64 == 2) = true → ∀ hk : pos + k < s.size, 128 ≤ (s[pos + k]'hk).toNat := by
    intro k hk h2 hk'
    have := get_at s (pos + k) hk
    rw [Nat.add_zero] at this
    rw [this, beq_iff_eq] at h2
    omega
  have one : ∀ j (hj : j < s.size), pos ≤ j → j < pos + 1 → 128 ≤ (s[j]'hj).toNat := by
    intro j hj h1 h2
    obtain rfl : j = pos := by omega
    exact ha
  simp only [Utf8.decode, get_at s pos h, hn, if_false]
  split
  · rename_i hc
    simp only [Bool.and_eq_true, decide_eq_true_eq] at hc
    obtain ⟨_, k1, q1⟩ := hc
    split
    · refine ⟨by dsimp only; omega, fun j hj h1 h2 => ?_⟩
      dsimp only at h2
      rcases Nat.lt_or_ge j (pos + 1) with hl | hl
      · exact one j hj h1 hl
      · obtain rfl : j = pos + 1 := by omega
        exact key 1 k1 q1 hj
    · exact ⟨by dsimp only; omega, one⟩
  · split
    · rename_i hc
      simp only [Bool.and_eq_true, decide_eq_true_eq] at hc
      obtain ⟨⟨_, k1, q1⟩, k2, q2⟩ := hc
      split
      · refine ⟨by dsimp only; omega, fun j hj h1 h2 => ?_⟩
        dsimp only at h2
        rcases Nat.lt_or_ge j (pos + 1) with hl | hl
        · exact one j hj h1 hl
        · rcases Nat.lt_or_ge j (pos + 2) with hl | hl
          · obtain rfl : j = pos + 1 := by omega
            exact key 1 k1 q1 hj
          · obtain rfl : j = pos + 2 := by omega
            exact key 2 k2 q2 hj
      · exact ⟨by dsimp only; omega, one⟩
    · split
      · rename_i hc
        simp only [Bool.and_eq_true, decide_eq_true_eq] at hc
        obtain ⟨⟨⟨_, k1, q1⟩, k2, q2⟩, k3, q3⟩ := hc
        split
        · refine ⟨by dsimp only; omega, fun j hj h1 h2 => ?_⟩
          dsimp only at h2
          rcases Nat.lt_or_ge j (pos + 1) with hl | hl
          · exact one j hj h1 hl
          · rcases Nat.lt_or_ge j (pos + 2) with hl | hl
            · obtain rfl : j = pos + 1 := by omega
              exact key 1 k1 q1 hj
            · rcases Nat.lt_or_ge j (pos + 3) with hl | hl
              · obtain rfl : j = pos + 2 := by omega
                exact key 2 k2 q2 hj
              · obtain rfl : j = pos + 3 := by omega
                exact key 3 k3 q3 hj
        · exact ⟨by dsimp only; omega, one⟩
      · exact ⟨by dsimp only; omega, one⟩

theorem iterPos_of {w : World} {k : Nat} {s : ByteArray} {p : Nat} (h : w.heap[k]? = some (.stringIter s p)) : w.iterPos k = p := by simp [World.iterPos, h]

theorem lt_of_heap {w : World} {g : Nat} {o : Obj} (hg : w.heap[g]? = some o) : g < w.heap.size := by
  rcases Nat.lt_or_ge g w.heap.size with h' | h'
  · exact h'
  · simp [Array.getElem?_eq_none h'] at hg

theorem below_drewN {B : Nat} {a w : World} (h : Below B a w) (n : Nat) : Below B a (w.drewN n) := ⟨h.os, h.tape, h.output, h.size, h.block⟩
theorem drewN_below {B : Nat} (w : World) (n : Nat) : Below B w (w.drewN n) := ⟨rfl, rfl, rfl, Nat.le_refl _, fun _ _ => rfl⟩
theorem bcell {w w1 : World} {B : Nat} (hb : Below B w w1) : (∀ b o, b < B → w1.cell? ⟨b, o, none⟩ = w.cell? ⟨b, o, none⟩) ∧ (∀ b o, b < B → w1.frozen? ⟨b, o, none⟩ = w.frozen? ⟨b, o, none⟩) :=
  ⟨fun b o h => hb.cell (p := ⟨b, o, none⟩) h, fun b o h => hb.frozen (p := ⟨b, o, none⟩) h⟩
theorem bounds_byte (x : UInt8) : 0 ≤ (x.toNat : Int) ∧ (x.toNat : Int) ≤ 255 := by have := x.toNat_lt; omega
theorem ret_int {k : IntKind} {a b : Int} (h : a = b) : Ending.returned (.int k a) = .returned (.int k b) := by rw [h]
theorem ret_bool {a b : Bool} (h : a = b) : Ending.returned (.bool a) = .returned (.bool b) := by rw [h]


/-! ### A slice of bytes -/
/-- The cell of a byte. -/
def bv (b : UInt8) : Value := .int .u8 (b.toNat : Int)

/-- In w the value v is a slice that holds the bytes l. -/
def Sl (w : World) (v : Value) (l : List UInt8) : Prop :=
  ∃ (p : Option Addr) (cap : Nat), v = .slice p l.length cap ∧ l.length ≤ cap ∧ (l ≠ [] → ∃ b o, p = some ⟨b, o, none⟩ ∧ ∀ (i : Nat) (x : UInt8), l[i]? = some x → w.cell? ⟨b, o + i, none⟩ = some (.int .u8 (x.toNat : Int)))

theorem Sl.nil (w : World) : Sl w (.slice none 0 0) [] := ⟨none, 0, rfl, Nat.le_refl _, fun h => absurd rfl h⟩
theorem Sl.empty (w : World) (p : Option Addr) (c : Nat) : Sl w (.slice p 0 c) [] := ⟨p, c, rfl, Nat.zero_le _, fun h => absurd rfl h⟩
theorem Sl.mk' {w : World} {b o cap n : Nat} {l : List UInt8} (hn : n = l.length) (hl : l.length ≤ cap) (hc : ∀ (i : Nat) (x : UInt8), l[i]? = some x → w.cell? ⟨b, o + i, none⟩ = some (.int .u8 (x.toNat : Int))) :
    Sl w (.slice (some ⟨b, o, none⟩) n cap) l := by subst hn; exact ⟨_, cap, rfl, hl, fun _ => ⟨b, o, rfl, hc⟩⟩

theorem Sl.keep {w w' : World} {v : Value} {l : List UInt8} (h : Sl w v l) (hk : ∀ b o, (∃ x, w.cell? ⟨b, o, none⟩ = some x) → w'.cell? ⟨b, o, none⟩ = w.cell? ⟨b, o, none⟩) : Sl w' v l := by
  obtain ⟨p, cap, hv, hl, hc⟩ := h
  refine ⟨p, cap, hv, hl, fun hne => ?_⟩
  obtain ⟨b, o, hp, hc⟩ := hc hne
  exact ⟨b, o, hp, fun i x hx => by rw [hk b (o + i) ⟨_, hc i x hx⟩]; exact hc i x hx⟩
theorem Sl.below {w w' : World} {v : Value} {l : List UInt8} (h : Sl w v l) (hb : Below w.heap.size w w') : Sl w' v l :=
  h.keep fun b o ⟨_, hx⟩ => hb.cell (p := ⟨b, o, none⟩) (World.block_lt_of_cell? w _ hx)
theorem Sl.drewN {w : World} {v : Value} {l : List UInt8} (h : Sl w v l) (n : Nat) : Sl (w.drewN n) v l := h

theorem addr_add (b o j : Nat) : (⟨b, o, none⟩ : Addr).add j = ⟨b, o + j, none⟩ := by
  unfold Addr.add
  split
  · rename_i h; subst h; rfl
  · rfl

/-- string(v) -/
theorem run_conv_sl {P : Program} {w : World} {v : Value} {l : List UInt8} (h : Sl w v l) (src e dst : TypeId) (hs : P.underlying src = some (.slice e)) (he : P.underlying e = some (.int .u8)) (hd : P.underlying dst = some .string) :
    (convert src dst v).run P w = .ok (.string (bs l)) w := by
  obtain ⟨p, cap, rfl, hl, hc⟩ := h
  have fold : ∀ (l : List UInt8) (s : ByteArray), (l.map (fun x : UInt8 => (x.toNat : Int))).foldl (fun r n => r.push (UInt8.ofNat n.toNat)) s = ⟨s.data ++ l.toArray⟩ := by
    intro l
    induction l with
    | nil => intro s; simp
    | cons x l ih =>
      intro s
      simp only [List.map_cons, List.foldl_cons, ih]
      simp [ByteArray.push]
  have key : ∀ a : Addr, (∀ j v, ((l.map fun x : UInt8 => Value.int .u8 (x.toNat : Int)))[j]? = some v → w.cell? (a.add j) = some v) → (convert src dst (.slice (some a) l.length cap)).run P w = .ok (.string (bs l)) w := by
    intro a ha
    have hl2 : (loadCells a l.length).run P w = .ok ((l.map fun x : UInt8 => (x.toNat : Int)).map (Value.int .u8)).toArray w := by
      have := run_loadCells_list (P := P) w a (l.map fun x : UInt8 => Value.int .u8 (x.toNat : Int)) ha
      rw [List.map_map]
      simpa [Function.comp_def] using this
    rw [run_convert_bytes_string w src dst e _ l.length cap hs he hd, run_bytesToString w a l.length cap _ hl2, fold]
    simp [bs, ByteArray.empty, ByteArray.emptyWithCapacity]
    rfl
  rcases hl0 : l with _ | ⟨_, _⟩
  · subst hl0
    rcases p with _ | a
    · exact run_convert_bytes_nil w src e hs he _ _ dst hd
    · exact key a (fun j v hv => by simp at hv)
  · obtain ⟨b, o, rfl, hcell⟩ := hc (by rw [hl0]; simp)
    rw [← hl0]
    refine key _ (fun j v hv => ?_)
    rw [addr_add]
    rw [List.getElem?_map] at hv
    cases hx : l[j]? with
    | none => simp [hx] at hv
    | some x =>
      simp [hx] at hv
      subst hv
      exact hcell j x hx

/-- []byte(s) -/
theorem sl_bytesWorld (w : World) (e : TypeId) (s : ByteArray) : Sl (Lib.bytesWorld w e s) (.slice (some ⟨w.heap.size, 0, none⟩) s.size (grownCap w s.size 0 e)) s.data.toList := by
  refine Sl.mk' (len_of s).symm (by rw [len_of]; exact grownCap_ge _ _ _ _) (fun i x hx => ?_)
  have hi : i < s.size := by rw [← len_of]; exact (List.getElem?_eq_some_iff.1 hx).1
  rw [Nat.zero_add, Lib.bytesWorld_cell w e s i hi]
  simp [List.getD, hx]
theorem bytesWorld_below (w : World) (e : TypeId) (s : ByteArray) : Below w.heap.size w (Lib.bytesWorld w e s) :=
  ⟨rfl, rfl, rfl, by rw [Lib.bytesWorld_size]; omega, fun k hk => Lib.bytesWorld_at_old w e s k hk⟩

theorem cell_of_heap {w : World} {b : Nat} {cs : Array Value} {T : TypeId} {fr : Nat × Nat} (hb : w.heap[b]? = some (.cells cs T fr)) (j : Nat) : w.cell? ⟨b, j, none⟩ = cs[j]? := by
  simp [World.cell?, hb]
theorem frozen_of_heap {w : World} {b : Nat} {cs : Array Value} {T : TypeId} (hb : w.heap[b]? = some (.cells cs T (0, 0))) (j : Nat) : w.frozen? ⟨b, j, none⟩ = false := by
  simp [World.frozen?, hb]
theorem heap_set_same {w : World} {b i : Nat} {cs : Array Value} {T : TypeId} {fr : Nat × Nat} (hb : w.heap[b]? = some (.cells cs T fr)) (v : Value) :
    (w.setCell ⟨b, i, none⟩ v).heap[b]? = some (.cells (cs.setIfInBounds i v) T fr) := by
  simp [World.setCell, Array.getElem?_modify, hb]
theorem heap_new (w : World) (o : Obj) : (w.alloc o).heap[w.heap.size]? = some o := heap_alloc_new w o

/-- A slice over the head of a block. -/
theorem Sl.of_heap {w : World} {g cap n : Nat} {cs : Array Value} {T : TypeId} {fr : Nat × Nat} {l : List UInt8} (hg : w.heap[g]? = some (.cells cs T fr)) (hn : n = l.length) (hl : l.length ≤ cap) (hc : cs.toList.take l.length = l.map bv) :
    Sl w (.slice (some ⟨g, 0, none⟩) n cap) l := by
  refine Sl.mk' hn hl (fun i x hx => ?_)
  rw [cell_of_heap hg, Nat.zero_add, ← Array.getElem?_toList]
  have hi : i < l.length := (List.getElem?_eq_some_iff.1 hx).1
  have h2 : (cs.toList.take l.length)[i]? = some (bv x) := by rw [hc, List.getElem?_map, hx]; rfl
  rw [List.getElem?_take, if_pos hi] at h2
  exact h2


theorem Sl.of_owns {w : World} {base : Nat} {e : TypeId} {v : Value} {n : Nat} {l : List UInt8} (h : w.ownsRow base e 1 v n (l.map bv)) : Sl w v l := by
  obtain ⟨h1, h2⟩ := h
  have hn : n = l.length := by simpa using h1.symm
  rcases h2 with ⟨rfl, h0⟩ | ⟨g, cap, cur, rfl, _, hg, hc, _, _, ht⟩
  · obtain rfl : l = [] := List.eq_nil_of_length_eq_zero (by omega)
    exact Sl.nil w
  · exact Sl.of_heap hg hn (by omega) (by rw [← hn, ← ht, Nat.mul_one])


/-- A row that the text lays: its cells written out. -/
theorem Sl.of_alloc {w : World} {n cap : Nat} {cs : Array Value} {T : TypeId} {fr : Nat × Nat} {l : List UInt8} (hn : n = l.length) (hl : l.length ≤ cap) (hc : cs.toList = l.map bv) :
    Sl (w.alloc (.cells cs T fr)) (.slice (some ⟨w.heap.size, 0, none⟩) n cap) l :=
  Sl.of_heap (heap_new w _) hn hl (by rw [hc, ← List.length_map (f := bv), List.take_length])

/-- What a slice holds can be turned into a string in every later world. -/
theorem conv_later {P : Program} {w : World} {v : Value} {l : List UInt8} (h : Sl w v l) {src e dst : TypeId} (hs : P.underlying src = some (.slice e)) (he : P.underlying e = some (.int .u8)) (hd : P.underlying dst = some .string) :
    ∀ W, Below w.heap.size w W → (convert src dst v).run P W = .ok (.string (bs l)) W := fun _ hb => run_conv_sl (h.below hb) src e dst hs he hd


/-- One step more: what a callee leaves as it was. -/
theorem bnext {B : Nat} {w a b : World} (h : Below B w a) (hB : B ≤ a.heap.size) (k : Below a.heap.size a b) : Below B w b := h.trans (k.mono hB)
theorem bstep {w a b : World} (h : Below w.heap.size w a) (k : Below a.heap.size a b) : Below w.heap.size w b := h.trans (k.mono h.size)
theorem balloc {w a : World} (h : Below w.heap.size w a) (o : Obj) : Below w.heap.size w (a.alloc o) := h.alloc h.size o


/-! ### Strings as lists -/
theorem bs_append (a b : List UInt8) : bs a ++ bs b = bs (a ++ b) := by
  apply ByteArray.ext
  show (bs a ++ bs b).data = (a ++ b).toArray
  rw [ByteArray.data_append]
  simp [bs]
theorem bs_extract (l : List UInt8) (a e : Nat) : (bs l).extract a e = bs ((l.take e).drop a) := by
  apply ByteArray.ext
  rw [ByteArray.data_extract]
  apply Array.ext'
  simp [bs, Array.toList_extract, List.extract, List.drop_take]
theorem bs_inj {a b : List UInt8} (h : bs a = bs b) : a = b := by
  have := congrArg (fun s => s.data.toList) h
  simpa [bs] using this
theorem str_inj {a b : List UInt8} : (Value.string (bs a) = .string (bs b)) = (a = b) := by
  simp only [Value.string.injEq, eq_iff_iff]
  exact ⟨bs_inj, fun h => by rw [h]⟩


/-- Results of which the first lies in memory. -/
theorem results_cell_of {P : Program} {fn : Func} {p : Tmp} {ty : TypeId} (h : fn.results = #[.cell p ty]) (tmps : Array Value) (w : World) {a : Addr} {v : Value}
    (hp : tmps.getD p undef = .pointer (some a)) (hl : (loadVar ty a).run P w = .ok v w) : (results fn tmps).run P w = .ok v w := by
  have hp' : tmps[p]?.getD undef = .pointer (some a) := by simpa using hp
  simp [results, h, hp', asAddr, hl]
theorem results_cell_tmp {P : Program} {fn : Func} {p t : Tmp} {ty : TypeId} (h : fn.results = #[.cell p ty, .tmp t]) (tmps : Array Value) (w : World) {a : Addr} {v : Value}
    (hp : tmps.getD p undef = .pointer (some a)) (hl : (loadVar ty a).run P w = .ok v w) : (results fn tmps).run P w = .ok (.tuple #[v, tmps.getD t undef]) w := by
  have hp' : tmps[p]?.getD undef = .pointer (some a) := by simpa using hp
  simp [results, h, hp', asAddr, hl]

end Go.Proofs.YtpjehmblndjknaaDoor
