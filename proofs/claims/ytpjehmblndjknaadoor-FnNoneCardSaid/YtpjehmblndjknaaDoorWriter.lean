/-
  What a writer of this program is told by: bytes.Buffer and the thin package's own writer alike; and the walks of lineBreaker over whatever such writer.
-/
import Derived.Test.YtpjehmblndjknaaDoorArr
import Derived.Lib.OthersKept
import Derived.Lib.SlBytesConst
import Derived.Deep.RegionHeld3
import Derived.StillTailTactics
namespace Go.Proofs.YtpjehmblndjknaaDoor
open Go.RowKit
set_option linter.unusedSimpArgs false
set_option linter.unusedVariables false

/-- The bytes l lie in block b from place o on. -/
def Src (w : World) (b o : Nat) (l : List UInt8) : Prop := ∀ (i : Nat) (x : UInt8), l[i]? = some x → w.cell? ⟨b, o + i, none⟩ = some (.int .u8 (x.toNat : Int))

theorem Src.alloc {w : World} {cs : Array Value} {T : TypeId} {fr : Nat × Nat} {l : List UInt8} (hc : cs.toList = l.map bv) : Src (w.alloc (.cells cs T fr)) w.heap.size 0 l := by
  intro i x hx
  rw [cell_of_heap (heap_new w _), Nat.zero_add, ← Array.getElem?_toList, hc, List.getElem?_map, hx]
  rfl
theorem Src.below {w w' : World} {b o : Nat} {l : List UInt8} (h : Src w b o l) {B : Nat} (hb : Below B w w') (hB : b < B) : Src w' b o l := fun i x hx => by
  rw [hb.cell (p := ⟨b, o + i, none⟩) hB]; exact h i x hx
theorem Src.drop {w : World} {b o : Nat} {l : List UInt8} (h : Src w b o l) (n : Nat) : Src w b (o + n) (l.drop n) := fun i x hx => by
  rw [List.getElem?_drop] at hx
  rw [Nat.add_assoc]; exact h _ _ hx
theorem Src.take {w : World} {b o : Nat} {l : List UInt8} (h : Src w b o l) (n : Nat) : Src w b o (l.take n) := fun i x hx => by
  rw [List.getElem?_take] at hx
  split at hx
  · exact h _ _ hx
  · cases hx
theorem Src.nil (w : World) (b o : Nat) : Src w b o [] := fun i x hx => by simp at hx

/-- What a Write leaves as it was: all below block B; all blocks but the writer's own and rows of bytes. -/
def Fr (B bb : Nat) (w w' : World) : Prop := Below B w w' ∧ Lib.OthersKept 5 (some bb) w w'
theorem Fr.refl (B bb : Nat) (w : World) : Fr B bb w w := ⟨Below.refl _ _, Lib.OthersKept.refl _ _ _⟩
theorem Fr.trans {B bb : Nat} {a b c : World} (h : Fr B bb a b) (k : Fr B bb b c) : Fr B bb a c := ⟨h.1.trans k.1, h.2.trans k.2⟩
theorem Fr.block {B bb : Nat} {w w' : World} (h : Fr B bb w w') {k : Nat} {o : Obj} (hk : w.heap[k]? = some o) (hb : k ≠ bb) (ho : ∀ c fz, o ≠ .cells c 5 fz) : w'.heap[k]? = some o :=
  h.2 k o hk (fun e => hb (Option.some.inj e)) ho
theorem Fr.alloc {B bb : Nat} {w a : World} (h : Fr B bb w a) (hB : B ≤ a.heap.size) (o : Obj) : Fr B bb w (a.alloc o) := ⟨h.1.alloc hB o, h.2.alloc o⟩
theorem Fr.drewN {B bb : Nat} {w a : World} (h : Fr B bb w a) (n : Nat) : Fr B bb w (a.drewN n) := ⟨below_drewN h.1 n, h.2⟩
/-- A store into a block of another type that lies from B on: not kept: said apart. -/
theorem Fr.size {B bb : Nat} {w a : World} (h : Fr B bb w a) : w.heap.size ≤ a.heap.size := h.1.size

/-- The same beside some more blocks that may turn. -/
def FrL (B : Nat) (bs : List Nat) (w w' : World) : Prop := Below B w w' ∧ ∀ (k : Nat) (o : Obj), w.heap[k]? = some o → k ∉ bs → (∀ c fz, o ≠ .cells c 5 fz) → w'.heap[k]? = some o
theorem Fr.toL {B bb : Nat} {bs : List Nat} {w w' : World} (h : Fr B bb w w') (hb : bb ∈ bs) : FrL B bs w w' := ⟨h.1, fun k o hk hkb ho => h.block hk (fun e => hkb (e ▸ hb)) ho⟩
theorem FrL.refl (B : Nat) (bs : List Nat) (w : World) : FrL B bs w w := ⟨Below.refl _ _, fun _ _ h _ _ => h⟩
theorem FrL.trans {B : Nat} {bs : List Nat} {a b c : World} (h : FrL B bs a b) (k : FrL B bs b c) : FrL B bs a c := ⟨h.1.trans k.1, fun i o hi hb ho => k.2 i o (h.2 i o hi hb ho) hb ho⟩
theorem FrL.mono {B : Nat} {bs cs : List Nat} {a b : World} (h : FrL B bs a b) (hs : ∀ k, k ∈ bs → k ∈ cs) : FrL B cs a b := ⟨h.1, fun i o hi hb ho => h.2 i o hi (fun e => hb (hs i e)) ho⟩
theorem FrL.drewN {B : Nat} {bs : List Nat} {w a : World} (h : FrL B bs w a) (n : Nat) : FrL B bs w (a.drewN n) := ⟨below_drewN h.1 n, h.2⟩
theorem FrL.drew {B : Nat} {bs : List Nat} {w a : World} (h : FrL B bs w a) : FrL B bs w a.drew := ⟨h.1.drew, h.2⟩
theorem FrL.alloc {B : Nat} {bs : List Nat} {w a : World} (h : FrL B bs w a) (hB : B ≤ a.heap.size) (o : Obj) : FrL B bs w (a.alloc o) :=
  ⟨h.1.alloc hB o, fun k x hk hb hx => by have h1 := h.2 k x hk hb hx; exact (Below.heap_alloc a o k (lt_of_heap h1)).trans h1⟩
theorem FrL.setCell {B b : Nat} {bs : List Nat} {w a : World} (h : FrL B bs w a) (hB : B ≤ b) (hb : b ∈ bs) (i : Nat) (v : Value) : FrL B bs w (a.setCell ⟨b, i, none⟩ v) :=
  ⟨h.1.setCell hB v, fun k x hk hkb hx => by have h1 := h.2 k x hk hkb hx; have hne : k ≠ b := (fun e => hkb (by rw [e]; exact hb)); rw [Below.heap_setCell _ _ _ _ hne]; exact h1⟩
theorem FrL.setRow {B b : Nat} {bs : List Nat} {w a : World} (h : FrL B bs w a) (hB : B ≤ b) (hb : b ∈ bs) (cs : Array Value) : FrL B bs w (a.setRow b cs) :=
  ⟨h.1.trans ⟨rfl, rfl, rfl, by simp, fun k hk => setRow_other _ _ _ _ (by omega)⟩, fun k x hk hkb hx => by have h1 := h.2 k x hk hkb hx; have hne : k ≠ b := (fun e => hkb (by rw [e]; exact hb)); rw [setRow_other _ _ _ _ hne]; exact h1⟩
theorem FrL.below {B : Nat} {bs : List Nat} {w a c : World} (h : FrL B bs w a) (hB : B ≤ a.heap.size) (hb : Below a.heap.size a c) : FrL B bs w c :=
  ⟨h.1.trans (hb.mono hB), fun k x hk hkb hx => by have h1 := h.2 k x hk hkb hx; exact (hb.block k (lt_of_heap h1)).trans h1⟩
theorem FrL.size {B : Nat} {bs : List Nat} {w a : World} (h : FrL B bs w a) : w.heap.size ≤ a.heap.size := h.1.size

/-- Block sb stands as it stands, whatever a Write does. -/
def Stay (B : Nat) (bs : List Nat) (w : World) (sb : Nat) : Prop := sb < B ∨ (sb ∉ bs ∧ ∃ o, w.heap[sb]? = some o ∧ ∀ c fz, o ≠ .cells c 5 fz)
theorem Stay.fr {B : Nat} {bs : List Nat} {w w' : World} {sb : Nat} (h : Stay B bs w sb) (hf : FrL B bs w w') : Stay B bs w' sb := by
  rcases h with h | ⟨h1, o, ho, h2⟩
  · exact .inl h
  · exact .inr ⟨h1, o, hf.2 sb o ho h1 h2, h2⟩
theorem Src.stay {B : Nat} {bs : List Nat} {w w' : World} {sb so : Nat} {l : List UInt8} (h : Src w sb so l) (hs : Stay B bs w sb) (hf : FrL B bs w w') : Src w' sb so l := by
  rcases hs with hs | ⟨h1, o, ho, h2⟩
  · exact h.below hf.1 hs
  · intro i x hx
    rw [World.cell?_of_block (w := w) ((hf.2 sb o ho h1 h2).trans ho.symm)]
    exact h i x hx

/-- The writer's own block and all rows of bytes stand as they stood. -/
def KeepW (bb : Nat) (w w' : World) : Prop := ∀ (k : Nat) (o : Obj), w.heap[k]? = some o → (k = bb ∨ ∃ c fz, o = .cells c 5 fz) → w'.heap[k]? = some o
theorem KeepW.refl (bb : Nat) (w : World) : KeepW bb w w := fun _ _ h _ => h
theorem KeepW.trans {bb : Nat} {a b c : World} (h : KeepW bb a b) (k : KeepW bb b c) : KeepW bb a c := fun i o hi ho => k i o (h i o hi ho) ho
theorem KeepW.alloc {bb : Nat} {w a : World} (h : KeepW bb w a) (o : Obj) : KeepW bb w (a.alloc o) := fun k x hk hx => by
  have h1 := h k x hk hx
  exact (Below.heap_alloc a o k (lt_of_heap h1)).trans h1
theorem KeepW.below {bb : Nat} {w a : World} (h : Below w.heap.size w a) : KeepW bb w a := fun k x hk _ => (h.block k (lt_of_heap hk)).trans hk
theorem KeepW.drewN {bb : Nat} {w a : World} (h : KeepW bb w a) (n : Nat) : KeepW bb w (a.drewN n) := h
theorem KeepW.setCell {bb b : Nat} {w a : World} (h : KeepW bb w a) {cs : Array Value} {T : TypeId} {fz : Nat × Nat} (hb : a.heap[b]? = some (.cells cs T fz)) (hT : T ≠ 5) (hne : b ≠ bb) (i : Nat) (v : Value) : KeepW bb w (a.setCell ⟨b, i, none⟩ v) := fun k x hk hx => by
  have h1 := h k x hk hx
  have hkb : k ≠ b := by
    rintro rfl
    rw [hb] at h1
    rcases hx with e | ⟨c, fz', e⟩
    · exact hne e
    · rw [← Option.some.inj h1] at e
      injection e with _ e2 _
      exact hT e2
  rw [Below.heap_setCell _ _ _ _ hkb]
  exact h1
theorem KeepW.setRow {bb b : Nat} {w a : World} (h : KeepW bb w a) {cs : Array Value} {T : TypeId} {fz : Nat × Nat} (hb : a.heap[b]? = some (.cells cs T fz)) (hT : T ≠ 5) (hne : b ≠ bb) (c2 : Array Value) : KeepW bb w (a.setRow b c2) := fun k x hk hx => by
  have h1 := h k x hk hx
  have hkb : k ≠ b := by
    rintro rfl
    rw [hb] at h1
    rcases hx with e | ⟨c, fz', e⟩
    · exact hne e
    · rw [← Option.some.inj h1] at e
      injection e with _ e2 _
      exact hT e2
  rw [setRow_other _ _ _ _ hkb]
  exact h1

/-- How many bytes a writer takes: no bound, or so many. -/
def Fits (lim : Option Nat) (n : Nat) : Prop := ∀ m, lim = some m → n ≤ m
theorem Fits.mono {lim : Option Nat} {n k : Nat} (h : Fits lim n) (hk : k ≤ n) : Fits lim k := fun m hm => Nat.le_trans hk (h m hm)
def cut (lim : Option Nat) (l : List UInt8) : List UInt8 := match lim with | none => l | some m => l.take m
theorem cut_fits {lim : Option Nat} {l : List UInt8} (h : Fits lim l.length) : cut lim l = l := by
  cases lim with
  | none => rfl
  | some m => exact List.take_of_length_le (h m rfl)
theorem cut_append {lim : Option Nat} {l : List UInt8} (h : ¬ Fits lim l.length) (r : List UInt8) : cut lim (l ++ r) = cut lim l := by
  cases lim with
  | none => exact absurd (fun m hm => by cases hm) h
  | some m =>
    have hm : m ≤ l.length := by
      rcases Nat.lt_or_ge l.length m with hl | hl
      · exact absurd (fun k hk => by cases hk; omega) h
      · exact hl
    exact List.take_append_of_le_length hm

structure Wr where
  T : TypeId
  v : Value
  F : FuncId
  bb : Nat
  B : Nat
  lim : Option Nat
  ev : Value
  Inv : List UInt8 → World → Prop
  Fin : List UInt8 → World → Prop

abbrev methFuel : Nat := 289

structure WrOK (W : Wr) : Prop where
  meth : ∀ w, (method methFuel W.T W.v "Write").run Tryd.prog w = .ok (W.F, W.v) w
  call : ∀ args w, (callFunc W.F args).run Tryd.prog w = .ok (.enter W.F args) w
  keep : ∀ acc w w', W.Inv acc w → KeepW W.bb w w' → W.Inv acc w'
  keepF : ∀ acc w w', W.Fin acc w → KeepW W.bb w w' → W.Fin acc w'
  size : ∀ acc w, W.Inv acc w → W.B ≤ w.heap.size
  base : W.B ≤ W.bb
  lt : ∀ acc w, W.Inv acc w → W.bb < w.heap.size
  fits : ∀ acc w, W.Inv acc w → Fits W.lim acc.length
  ev_ne : ∃ Te ve, W.ev = .iface Te ve
  ok : ∀ acc l sb so c w, W.Inv acc w → Src w sb so l → sb ≠ W.bb → l.length ≤ c → acc.length + l.length ≤ 140737488355328 → Fits W.lim (acc.length + l.length) →
    Calls Tryd.prog W.F #[W.v, .slice (some ⟨sb, so, none⟩) l.length c] w fun e w' => e = .returned (.tuple #[.int .i64 l.length, .nilIface]) ∧ W.Inv (acc ++ l) w' ∧ Fr W.B W.bb w w'
  no : ∀ acc l sb so c w, W.Inv acc w → Src w sb so l → sb ≠ W.bb → l.length ≤ c → acc.length + l.length ≤ 140737488355328 → ¬ Fits W.lim (acc.length + l.length) →
    Calls Tryd.prog W.F #[W.v, .slice (some ⟨sb, so, none⟩) l.length c] w fun e w' => ∃ n : Int, e = .returned (.tuple #[.int .i64 n, W.ev]) ∧ W.Fin (cut W.lim (acc ++ l)) w' ∧ Fr W.B W.bb w w'

/-- A lineBreaker in block b over the writer (T, v), with the bytes 'pend' of a line begun. -/
def Brk (w : World) (b : Nat) (T : TypeId) (v : Value) (pend : List UInt8) : Prop :=
  ∃ cs : Array Value, w.heap[b]? = some (.cells cs 106 (0, 0)) ∧ cs.size = 66 ∧ pend.length < 64 ∧ cs.toList.take pend.length = pend.map bv ∧ cs[64]? = some (.int .i64 (pend.length : Int)) ∧ cs[65]? = some (.iface T v)

section
variable {w w' : World} {b : Nat} {T : TypeId} {v : Value} {pend : List UInt8}
theorem Brk.c64 (h : Brk w b T v pend) : w.cell? ⟨b, 64, none⟩ = some (.int .i64 (pend.length : Int)) := by
  obtain ⟨cs, hb, _, _, _, h64, _⟩ := h
  rw [cell_of_heap hb]; exact h64
theorem Brk.c65 (h : Brk w b T v pend) : w.cell? ⟨b, 65, none⟩ = some (.iface T v) := by
  obtain ⟨cs, hb, _, _, _, _, h65⟩ := h
  rw [cell_of_heap hb]; exact h65
theorem Brk.f (h : Brk w b T v pend) (j : Nat) : w.frozen? ⟨b, j, none⟩ = false := by
  obtain ⟨cs, hb, _⟩ := h
  exact frozen_of_heap hb j
theorem Brk.lt (h : Brk w b T v pend) : pend.length < 64 := by
  obtain ⟨cs, _, _, hl, _⟩ := h
  exact hl
theorem Brk.src (h : Brk w b T v pend) : Src w b 0 pend := by
  obtain ⟨cs, hb, _, _, ht, _⟩ := h
  intro i x hx
  rw [cell_of_heap hb, Nat.zero_add, ← Array.getElem?_toList]
  have hi : i < pend.length := (List.getElem?_eq_some_iff.1 hx).1
  have h2 : (cs.toList.take pend.length)[i]? = some (bv x) := by rw [ht, List.getElem?_map, hx]; rfl
  rw [List.getElem?_take, if_pos hi] at h2
  exact h2
theorem Brk.fr {B bb : Nat} (h : Brk w b T v pend) (hne : b ≠ bb) (hf : Fr B bb w w') : Brk w' b T v pend := by
  obtain ⟨cs, hb, r⟩ := h
  refine ⟨cs, hf.block hb hne ?_, r⟩
  intro c fz e
  injection e with _ e2 _
  exact absurd e2 (by decide)
theorem Brk.alloc (h : Brk w b T v pend) (o : Obj) : Brk (w.alloc o) b T v pend := by
  obtain ⟨cs, hb, r⟩ := h
  exact ⟨cs, (Below.heap_alloc w o b (lt_of_heap hb)).trans hb, r⟩
theorem Brk.drew (h : Brk w b T v pend) : Brk w.drew b T v pend := h
/-- The count of the bytes begun is set to 0. -/
theorem Brk.reset (h : Brk w b T v pend) : Brk (w.setCell ⟨b, 64, none⟩ (.int .i64 0)) b T v [] := by
  obtain ⟨cs, hb, hs, hl, ht, h64, h65⟩ := h
  refine ⟨_, heap_set_same hb _, by simpa using hs, by simp, by simp, ?_, ?_⟩
  · rw [Array.getElem?_setIfInBounds_self_of_lt (by omega)]; rfl
  · rw [Array.getElem?_setIfInBounds_ne (by decide)]; exact h65
end
end Go.Proofs.YtpjehmblndjknaaDoor
