/-
  What the walk of pem.Decode needs: the callees in the words of slices that hold lists; the loop's invariant.
-/
import Derived.Test.YtpjehmblndjknaaDoorTrimF
import Derived.Test.YtpjehmblndjknaaDoorCut
import Derived.Test.YtpjehmblndjknaaDoorGetLine
import Derived.Test.YtpjehmblndjknaaDoorDec64
import Derived.Test.YtpjehmblndjknaaDoorMap
namespace Go.Proofs.YtpjehmblndjknaaDoor
open Go.RowKit Go.Maps
set_option linter.unusedSimpArgs false
set_option linter.unusedVariables false

theorem bytesIn_sl {w : World} {p : Option Addr} {cap : Nat} {l : List UInt8} (h : Sl w (.slice p l.length cap) l) : Lib.BytesIn w p l.length (l.map fun x : UInt8 => (x.toNat : Int)) := by
  obtain ⟨p', cap', e, hl, hc⟩ := h
  injection e with e1 _ _
  subst e1
  intro hn
  obtain ⟨b, o, rfl, hcell⟩ := hc (by rintro rfl; simp at hn)
  refine ⟨b, o, rfl, fun i hi => ?_⟩
  rw [hcell i (l[i]'hi) (List.getElem?_eq_getElem hi)]
  simp [List.getD, hi]
theorem bytesOf_map (l : List UInt8) : Lib.bytesOf (l.map fun x : UInt8 => (x.toNat : Int)) = l := by
  unfold Lib.bytesOf
  rw [List.map_map]
  refine (List.map_congr_left (fun x _ => ?_)).trans (List.map_id l)
  simp
theorem suffix_any (v v2 : Value) (l sub : List UInt8) (w : World) (h1 : Sl w v l) (h2 : Sl w v2 sub) (hm : l.length ≤ 9223372036854775807) :
    Calls Tryd.prog 19 #[v, v2] w fun e w' => e = .returned (.bool (Lib.hasSuffix l sub)) ∧ w' = w := by
  have k1 := h1
  have k2 := h2
  obtain ⟨p1, c1, rfl, hl1, -⟩ := h1
  obtain ⟨p2, c2, rfl, hl2, -⟩ := h2
  have := Tryd.bytes_HasSuffix_all p1 p2 l.length c1 sub.length c2 _ _ w (List.length_map _) (List.length_map _) hl1 hm (bytesIn_sl k1) (bytesIn_sl k2)
  rwa [bytesOf_map, bytesOf_map] at this
theorem prefix_any (v v2 : Value) (l sub : List UInt8) (w : World) (h1 : Sl w v l) (h2 : Sl w v2 sub) :
    Calls Tryd.prog 22 #[v, v2] w fun e w' => e = .returned (.bool (Lib.hasPrefix l sub)) ∧ w' = w := by
  have k1 := h1
  have k2 := h2
  obtain ⟨p1, c1, rfl, hl1, -⟩ := h1
  obtain ⟨p2, c2, rfl, hl2, -⟩ := h2
  have := Tryd.bytes_HasPrefix_all p1 p2 l.length c1 sub.length c2 _ _ w (List.length_map _) (List.length_map _) hl1 (bytesIn_sl k1) (bytesIn_sl k2)
  rwa [bytesOf_map, bytesOf_map] at this

/-- The tables. -/
def Tabs (w : World) : Prop := Asc w ∧ Lib.WhiteTab 2 w ∧ Lib.Utf8Tabs 3 4 w
theorem Tabs.below {w w' : World} (h : Tabs w) (hb : Below w.heap.size w w') : Tabs w' := by
  obtain ⟨h1, h2, h3, h4⟩ := h
  have k : ∀ b o v, w.cell? ⟨b, o, none⟩ = some v → w'.cell? ⟨b, o, none⟩ = some v := fun b o v hv => (hb.cell (p := ⟨b, o, none⟩) (World.block_lt_of_cell? w _ hv)).trans hv
  exact ⟨fun c => k _ _ _ (h1 c), WhiteTab_below h2 hb, fun c hc => k _ _ _ (h3 c hc), fun i hi => ⟨k _ _ _ (h4 i hi).1, k _ _ _ (h4 i hi).2⟩⟩
theorem Tabs.drewN {w : World} (h : Tabs w) (n : Nat) : Tabs (w.drewN n) := h

/-! ### The loop -/
/-- What the loop's head knows: r is left, t where the search goes on. -/
def HInv (data r : List UInt8) (t : Int) : Prop := t ≤ (r.length : Int) ∧ (t < 0 → Dec data none) ∧ ∀ n : Nat, t = (n : Int) → ∀ o, Dec (r.drop n) o → Dec data o
theorem HInv.start (data : List UInt8) : HInv data data 0 := ⟨by omega, fun h => absurd h (by omega), fun n hn o h => by
    obtain rfl : n = 0 := (by omega)
    exact h⟩
theorem HInv.next {data s : List UInt8} {e i : Nat} (hS : ∀ o, Dec s o → Dec data o) (hi : Lib.index s endN = (e : Int)) (hst : StepR s e .next) (hie : i ≤ e + 10) (his : i ≤ s.length) : HInv data (s.drop i) ((e : Int) + 10 - (i : Int)) := by
  have := index_lt hi
  refine ⟨by rw [List.length_drop]; omega, fun h => absurd h (by omega), fun n hn o h => hS o (.next hi hst ?_)⟩
  rw [List.drop_drop, show i + n = e + 10 by omega] at h
  exact h
theorem HInv.gone {data s : List UInt8} {e i : Nat} (hS : ∀ o, Dec s o → Dec data o) (hi : Lib.index s endN = (e : Int)) (hst : StepR s e .gone) (hie : e + 10 < i) (his : i ≤ s.length) : HInv data (s.drop i) ((e : Int) + 10 - (i : Int)) := by
  have := index_lt hi
  exact ⟨by rw [List.length_drop]; omega, fun _ => hS _ (.gone hi hst), fun n hn => by omega⟩
/-- The length of a slice. -/
def slen : Value → Nat | .slice _ n _ => n | _ => 0
theorem Sl.len {w : World} {v : Value} {l : List UInt8} (h : Sl w v l) : slen v = l.length := by
  obtain ⟨p, c, rfl, _⟩ := h; rfl

theorem index_10 : ∀ {s : List UInt8} {e : Nat}, Lib.index s endN = (e : Int) → s[e]? = some 10 := by
  intro s
  induction s with
  | nil => intro e h; have h' : (-1 : Int) = (e : Int) := h; omega
  | cons c l ih =>
    intro e h
    unfold Lib.index at h
    split at h
    · rename_i hp
      obtain rfl : e = 0 := by omega
      obtain ⟨t, ht⟩ := List.isPrefixOf_iff_prefix.1 hp
      rw [← ht]; rfl
    · split at h
      · have h' : (-1 : Int) = (e : Int) := h; omega
      · rename_i hn
        have hge := Lib.index_ge l endN
        have hne : Lib.index l endN ≠ -1 := by simpa using hn
        obtain ⟨e', rfl⟩ : ∃ e', e = e' + 1 := ⟨e - 1, by omega⟩
        rw [List.getElem?_cons_succ]
        exact ih (by omega)
theorem last_room {l : List UInt8} {b : Nat} (h : Lib.lastIndex l begP = (b : Int)) : b + 11 ≤ l.length := by
  unfold Lib.lastIndex at h
  split at h
  · rcases Lib.lastOcc_spec l begP (l.length - begP.length + 1) with ⟨h1, _⟩ | ⟨i, _, h1, h2, _⟩
    · rw [h1] at h; omega
    · rw [h1] at h
      obtain rfl : i = b := by omega
      rcases Lib.occAt_room h2 with h3 | h3
      · exact h3
      · cases h3
  · omega
theorem last_ge (l : List UInt8) : -1 ≤ Lib.lastIndex l begP := by
  unfold Lib.lastIndex
  split
  · rcases Lib.lastOcc_spec l begP (l.length - begP.length + 1) with ⟨h1, _⟩ | ⟨i, _, h1, _, _⟩ <;> omega
  · decide
/-- A line that begins ahead of the END line ends there at the latest. -/
theorem cons_nl {s : List UInt8} {e i : Nat} (h : Lib.index s endN = (e : Int)) (hi : i ≤ e) : i + consP (s.drop i) ≤ e + 1 := by
  have h10 : s[e]? = some 10 := index_10 h
  have hd : (s.drop i)[e - i]? = some 10 := by rw [List.getElem?_drop, show i + (e - i) = e by omega]; exact h10
  have hn : hasNL (s.drop i) = true := by
    unfold hasNL; rw [List.any_eq_true]
    exact ⟨10, List.mem_of_getElem? hd, by decide⟩
  unfold consP
  rw [if_pos hn]
  rcases Nat.lt_or_ge (e - i) (preNL (s.drop i)).length with h1 | h1
  · exact absurd hd (preNL_before h1)
  · omega
theorem suf_len {l : List UInt8} (h : Lib.hasSuffix l dashP = true) : 5 ≤ l.length := by
  unfold Lib.hasSuffix at h
  exact (List.isSuffixOf_iff_suffix.1 h).length_le
/-- A new block with a new map. -/
theorem new_block (wD : World) (ty : List UInt8) : (((wD.alloc (.map #[] 0)).alloc (.cells #[.string (bs ty), .map (some wD.heap.size), .slice none 0 0] 47)).ownsMap Tryd.prog 9 (plainElem (H := Unit) Tryd.prog 9) wD.heap.size 0 (.map [])) ∧
    PB ((wD.alloc (.map #[] 0)).alloc (.cells #[.string (bs ty), .map (some wD.heap.size), .slice none 0 0] 47)) (wD.heap.size + 1) ty wD.heap.size (.slice none 0 0) ∧
    Below wD.heap.size wD ((wD.alloc (.map #[] 0)).alloc (.cells #[.string (bs ty), .map (some wD.heap.size), .slice none 0 0] 47)) := by
  refine ⟨?_, ?_, balloc (balloc (Below.refl _ _) _) _⟩
  · have h := World.ownsMap_made wD Tryd.prog 9 (plainElem (H := Unit) Tryd.prog 9)
    exact h.alloc _
  · have h := heap_new (wD.alloc (.map #[] 0)) (.cells #[.string (bs ty), .map (some wD.heap.size), .slice none 0 0] 47)
    rw [World.size_alloc] at h
    exact h
/-- The headers that were read so far, ahead of what is still to come. -/
def Acc (rn r : List UInt8) (hs : Hdrs) : Prop := ∀ (hs' : Hdrs) (o : Option (List UInt8)), HdrL r hs' o → HdrL rn (hs ++ hs') o
theorem Acc.start (r : List UInt8) : Acc r r [] := fun _ _ h => h
theorem Acc.step {rn r : List UInt8} {hs : Hdrs} {k v : List UInt8} (h : Acc rn r hs) (hne : r ≠ []) (hc : (58 : UInt8) ∈ lineP r) (hk : Trims ((lineP r).take (colAt (lineP r))) k) (hv : Trims ((lineP r).drop (colAt (lineP r) + 1)) v) : Acc rn (restP r) (hs ++ [(k, v)]) := by
  intro hs' o h'
  rw [List.append_assoc]
  exact h _ _ (.more hne hc hk hv h')
theorem Sl.setMap {w w' : World} {v : Value} {l : List UInt8} {mb n : Nat} {D : DataW Unit} (h : Sl w v l) (ho : w.ownsMap Tryd.prog 9 (plainElem Tryd.prog 9) mb n D) (hg : w.grownBy w' (some mb)) : Sl w' v l := by
  obtain ⟨es, c, hb, _⟩ := ho
  refine h.keep fun b o ⟨x, hx⟩ => World.cell?_of_block (hg.block b (World.block_lt_of_cell? w _ hx) ?_)
  intro e
  have e := Option.some.inj e
  subst e
  simp [World.cell?, hb] at hx
theorem PB.setMapD {w w' : World} {pb mb : Nat} {ty : List UInt8} {v : Value} (h : PB w pb ty mb v) (hg : w.grownBy w' (some mb)) (hne : pb ≠ mb) : PB w' pb ty mb v :=
  (hg.block pb (lt_of_heap h) (by simpa using hne)).trans h
/-- The block's bytes are stored. -/
theorem PB.setB {w : World} {pb mb : Nat} {ty : List UInt8} {v : Value} (h : PB w pb ty mb v) (u : Value) : PB (w.setCell ⟨pb, 2, none⟩ u) pb ty mb u := by
  have h2 := heap_set_same h (i := 2) u
  exact h2
theorem PB.frz {w : World} {pb mb : Nat} {ty : List UInt8} {v : Value} (h : PB w pb ty mb v) (j : Nat) : w.frozen? ⟨pb, j, none⟩ = false := frozen_of_heap h j
/-- A store of a slice into a cell that holds a slice does not touch bytes. -/
theorem Sl.store {w : World} {v : Value} {l : List UInt8} {a : Addr} {p : Option Addr} {n c : Nat} (h : Sl w v l) (ha : w.cell? a = some (.slice p n c)) (x : Value) : Sl (w.setCell a x) v l := by
  obtain ⟨p1, cap, hv, hl, hc⟩ := h
  refine ⟨p1, cap, hv, hl, fun hne => ?_⟩
  obtain ⟨b, o, hp, hc⟩ := hc hne
  exact ⟨b, o, hp, fun i y hy => by rw [World.cell?_setCell_other _ _ _ _ (fun e => by rw [e] at ha; rw [hc i y hy] at ha; cases ha)]; exact hc i y hy⟩
theorem HM.setB {w : World} {pb mb : Nat} {hs : Hdrs} (h : HM w mb hs) (hne : mb ≠ pb) (j : Nat) (u : Value) : HM (w.setCell ⟨pb, j, none⟩ u) mb hs := by
  obtain ⟨n, D, hn2, ho, hD⟩ := h
  exact ⟨n, D, hn2, ownsMap_heap ho (fun es c hb2 => (Below.heap_setCell _ _ _ _ (fun e => hne e)).trans hb2), hD⟩
/-- Where the block's bytes have been found. -/
def TailOK (pb mb : Nat) (ty : List UInt8) (hs : Hdrs) (w : World) (rv : Value) (r bd : List UInt8) (w' : World) : Prop :=
  ∃ (bv : Value) (by_ : List UInt8), PB w' pb ty mb bv ∧ Below w.heap.size w w' ∧ Sl w' rv r ∧ HM w' mb hs ∧ Sl w' bv by_ ∧ d64 (cl (solid bd)) = some by_ ∧ ∀ p n c, bv = .slice p n c → c ≤ 9223372036854775807
/-- What base64's Decode leaves of it all. -/
def DecCut (pb mb db D : Nat) (ty : List UInt8) (hs : Hdrs) (w : World) (rv : Value) (r sd : List UInt8) (nv ev : Value) (w' : World) : Prop :=
  ∃ n : Nat, nv = .int .i64 (n : Int) ∧ PB w' pb ty mb (.slice (some ⟨db, 0, none⟩) D D) ∧ Below w.heap.size w w' ∧ Sl w' rv r ∧ HM w' mb hs ∧
   ((ev = .nilIface ∧ ∃ out : List UInt8, out.length = n ∧ n ≤ D ∧ d64 (cl sd) = some out ∧ Sl w' (.slice (some ⟨db, 0, none⟩) n D) out) ∨ ((∃ k : Int, ev = .iface 119 (.int .i64 k)) ∧ d64 (cl sd) = none))
/-- All but one block is as it was: bytes that lie before it, and the rest. -/
theorem Sl.far {w w' : World} {db : Nat} {v : Value} {l : List UInt8} (h : Sl w v l) (hg : w.grownBy w' (some db)) (hn : l ≠ [] → ∀ b o n c, v = .slice (some ⟨b, o, none⟩) n c → b ≠ db) : Sl w' v l := by
  obtain ⟨p, cap, hv, hl, hc⟩ := h
  refine ⟨p, cap, hv, hl, fun hne => ?_⟩
  obtain ⟨b, o, hp, hc⟩ := hc hne
  refine ⟨b, o, hp, fun i x hx => ?_⟩
  have h1 := hc i x hx
  rw [World.cell?_of_block (hg.block b (World.block_lt_of_cell? w _ h1) (by have := hn hne b o _ _ (by rw [hv, hp]); simpa using this))]
  exact h1
theorem DecCut.of {pb mb db D : Nat} {ty : List UInt8} {hs : Hdrs} {w wI w' : World} {rv : Value} {r sd : List UInt8} {cs : Array Value} {e : Ending} (hp : DPost sd db cs wI e w') (hcs : cs.size = D) (h1 : PB wI pb ty mb (.slice (some ⟨db, 0, none⟩) D D)) (h2 : Below w.heap.size w wI) (h3 : Sl wI rv r) (h4 : HM wI mb hs)
   (hr : r ≠ [] → ∀ b o n c, rv = .slice (some ⟨b, o, none⟩) n c → b ≠ db) (hpb : pb ≠ db) (hmb : mb ≠ db) (hwd : w.heap.size ≤ db) : ∃ nv ev, e = .returned (.tuple #[nv, ev]) ∧ DecCut pb mb db D ty hs w rv r sd nv ev w' := by
  obtain ⟨n, ev, cs', rfl, hg, hb, hs', hx⟩ := hp
  refine ⟨_, _, rfl, n, rfl, (hg.block pb (lt_of_heap h1) (by simpa using hpb)).trans h1, h2.grown hg h2.size (fun j hj => by cases hj; exact hwd), h3.far hg hr, ?_, ?_⟩
  · obtain ⟨n2, D2, hn2, ho, hD2⟩ := h4
    exact ⟨n2, D2, hn2, ownsMap_heap ho (fun es c hb2 => (hg.block mb (lt_of_heap hb2) (by simpa using hmb)).trans hb2), hD2⟩
  · rcases hx with ⟨rfl, out, ho, hn, hd, hc⟩ | ⟨⟨k, rfl⟩, hd⟩
    · refine .inl ⟨rfl, out, ho, by rw [← hcs]; exact hn, hd, Sl.mk' ho.symm (by rw [ho, ← hcs]; exact hn) (fun i x hx => ?_)⟩
      rw [cell_of_heap hb, Nat.zero_add]
      exact hc i x hx
    · exact .inr ⟨⟨k, rfl⟩, hd⟩
/-- The loop goes on. -/
theorem pem_cont {data s : List UInt8} {e i R m c3 : Nat} {p3 : Option Addr} {w wx : World} {rv : Value} {tv : Int} (hsl : s.length = R - m) (hmR : m ≤ R) (hR : R ≤ data.length) (h1 : Sl wx rv (s.drop i)) (hi : i ≤ s.length) (ht : tv = (e : Int) + 10 - (i : Int)) (hel : e + 10 ≤ s.length) (hbig : s.length ≤ 140737488351232)
    (hinv : HInv data (s.drop i) ((e : Int) + 10 - (i : Int))) (hb : Below w.heap.size w wx) :
    (∃ (r : List UInt8) (t : Int), Sl wx rv r ∧ Value.int .i64 tv = .int .i64 t ∧ r.length ≤ data.length ∧ -9223372036854775808 ≤ t ∧ Hid (HInv data r t) ∧ Hid (Below w.heap.size w wx)) ∧ ((slen rv : Int) - intOf (.int .i64 tv)).toNat < ((slen (.slice p3 R c3) : Int) - intOf (.int .i64 (m : Int))).toNat := by
  subst ht
  refine ⟨⟨s.drop i, _, h1, rfl, by rw [List.length_drop]; omega, by omega, hinv, hb⟩, ?_⟩
  rw [h1.len, List.length_drop]
  show (((s.length - i : Nat) : Int) - ((e : Int) + 10 - (i : Int))).toNat < ((R : Int) - (m : Int)).toNat
  omega

/-- What Decode leaves. -/
def DecPost (data : List UInt8) (v : Value) (w : World) (e : Ending) (w' : World) : Prop :=
  Below w.heap.size w w' ∧ ((Dec data none ∧ e = .returned (.tuple #[.pointer none, v])) ∨
   ∃ (r : Res) (pb mb : Nat) (bv rv : Value), Dec data (some r) ∧ e = .returned (.tuple #[.pointer (some ⟨pb, 0, none⟩), rv]) ∧ PB w' pb r.ty mb bv ∧ HM w' mb r.hs ∧ Sl w' bv r.by_ ∧ Sl w' rv r.rest ∧ ∀ p n c, bv = .slice p n c → c ≤ 9223372036854775807)

theorem beg_ext' : (⟨#[10, 45, 45, 45, 45, 45, 66, 69, 71, 73, 78, 32]⟩ : ByteArray).extract 1 12 = bs begP := by decide +kernel
/-- The beginning's bytes, converted. -/
theorem beg_conv (wk : World) (z : Nat) (hz : z = wk.heap.size) : ∃ cap wb, (convert 9 22 (.string ((⟨#[10, 45, 45, 45, 45, 45, 66, 69, 71, 73, 78, 32]⟩ : ByteArray).extract 1 12))).run Tryd.prog wk = .ok (.slice (some ⟨z, 0, none⟩) 11 cap) wb ∧ Below wk.heap.size wk wb ∧
    ∀ (i : Nat) (x : UInt8), begP[i]? = some x → wb.cell? ⟨z, 0 + i, none⟩ = some (.int .u8 (x.toNat : Int)) := by
  subst hz
  rw [beg_ext']
  refine ⟨_, _, Lib.run_convert_string_bytes (P := Tryd.prog) wk 9 22 5 (bs begP) Tryd.underlying9 Tryd.underlying22 Tryd.underlying5, bytesWorld_below _ _ _, fun i x hx => ?_⟩
  have hi : i < begP.length := (List.getElem?_eq_some_iff.1 hx).1
  rw [Nat.zero_add, Lib.bytesWorld_cell _ _ _ _ (by rw [bs_size]; exact hi)]
  rw [bs_toList, List.getD_eq_getElem?_getD, hx]; rfl
/-- A literal slice of bytes in a new block. -/
theorem sl_lit (w : World) (l : List UInt8) (cs : Array Value) (n : Nat) (fr : Nat × Nat) (hcs : cs.toList = l.map bv) (hn : n = l.length) : Sl (w.alloc (.cells cs 5 fr)) (.slice (some ⟨w.heap.size, 0, none⟩) n n) l := by
  refine ⟨some ⟨w.heap.size, 0, none⟩, n, by rw [hn], by omega, fun _ => ⟨w.heap.size, 0, rfl, fun i x hx => ?_⟩⟩
  rw [cell_of_heap (heap_new w _), Nat.zero_add, ← Array.getElem?_toList, hcs, List.getElem?_map, hx]; rfl
/-- Its cells. -/
theorem lit_cells {w : World} {cs : Array Value} {l : List UInt8} {fr : Nat × Nat} (hcs : cs.toList = l.map bv) (i : Nat) (x : UInt8) (hx : l[i]? = some x) : (w.alloc (.cells cs 5 fr)).cell? ⟨w.heap.size, 0 + i, none⟩ = some (.int .u8 (x.toNat : Int)) := by
  rw [cell_of_heap (heap_new w _), Nat.zero_add, ← Array.getElem?_toList, hcs, List.getElem?_map, hx]; rfl
end Go.Proofs.YtpjehmblndjknaaDoor
