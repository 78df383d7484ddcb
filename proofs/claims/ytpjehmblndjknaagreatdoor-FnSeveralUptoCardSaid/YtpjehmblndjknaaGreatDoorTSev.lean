/-
  The law FnSeveral, where what is handed in is of the given bulk at most: for every list of blocks the call returns true and what was handed in reads as it did.
  Its one condition is the second form's own: the bulk of what is handed in. The card.
-/
import Derived.Test.YtpjehmblndjknaaGreatDoorTCom
import Derived.Deep.Slices
import Derived.Deep.Fields
import Derived.ChangeSame
import Derived.Deep.RegionHeld3
import Derived.Deep.RegionWith
import Derived.Deep.DeepCutAuto
import Derived.Test.YtpjehmblndjknaaGreatDoorPem
import Derived.Test.YtpjehmblndjknaaGreatDoorCards
import Derived.Test.YtpjehmblndjknaaGreatDoorTie

namespace Go.Proofs.YtpjehmblndjknaaGreatDoor
open Go.RowKit Go.Maps Go.ChangeShapes Go.WideShapes Go.ChangeAt Go.Joins Go.Deep
set_option linter.unusedSimpArgs false
set_option linter.unusedVariables false

/-- One block of a slice: its three cells. -/
def BkAt (w : World) (b o : Nat) (x : List UInt8 × Hdrs × List UInt8) : Prop :=
  ∃ (hv : Value) (q : Option Addr) (bc : Nat), w.cell? ⟨b, o, none⟩ = some (.string (bs x.1)) ∧ w.cell? ⟨b, o + 1, none⟩ = some hv ∧ w.cell? ⟨b, o + 2, none⟩ = some (.slice q x.2.2.length bc) ∧ Hd w hv x.2.1 ∧ Sl w (.slice q x.2.2.length bc) x.2.2 ∧ bc ≤ 9223372036854775807
/-- A slice of blocks: three cells each. -/
def Bks (w : World) (v : Value) (l : List (List UInt8 × Hdrs × List UInt8)) : Prop :=
  ∃ (p : Option Addr) (cap : Nat), v = .slice p l.length cap ∧ (l.length ≤ cap ∧ (p = none → cap = 0)) ∧ (l ≠ [] → ∃ b o, p = some ⟨b, o, none⟩ ∧ ∀ i x, l[i]? = some x → BkAt w b (o + i * 3) x)
theorem BkAt.below {w w' : World} {b o : Nat} {x : List UInt8 × Hdrs × List UInt8} (h : BkAt w b o x) (hb : Below w.heap.size w w') : BkAt w' b o x := by
  obtain ⟨hv, q, bc, h0, h1, h2, hH, hS, hc⟩ := h
  exact ⟨hv, q, bc, by rw [hb.cell (p := _) (World.block_lt_of_cell? w _ h0)]; exact h0, by rw [hb.cell (p := _) (World.block_lt_of_cell? w _ h1)]; exact h1, by rw [hb.cell (p := _) (World.block_lt_of_cell? w _ h2)]; exact h2, hH.below hb, hS.below hb, hc⟩

section
variable {H : Type} {enc : TypeId × Value → H} {P : Program} {w : World} {base : Nat} {spare : Nat → Bool} {held : Bool}
theorem open_slice_fields {t e : TypeId} {fs : Array Field} {fuel : Nat} {cs : List Value} {x : DataW H × List MemPlace} (ht : P.underlying t = some (.slice e)) (he : P.underlying e = some (.struct fs))
    (hone : oneCellFields P fs = true) (hC : P.cellsOf e = fs.size) (h : DataW.trod enc P w base spare held fuel t cs = some x) :
    (cs = [.slice none 0 0] ∧ x = (.nil, [])) ∨
    ∃ (a : Addr) (len cap m : Nat) (D : Nat → DataW H) (Pl : Nat → List MemPlace), cs = [.slice (some a) len cap] ∧ base ≤ a.block ∧ len ≤ cap ∧ cap ≤ maxLen ∧ m = (if spare a.block then cap else len) ∧
      x = (.slice ((List.range len).map D) ((List.range (m - len)).map fun j => D (len + j)), MemPlace.row a (m * fs.size) ++ (List.range m).flatMap Pl) ∧
      ∀ i, i < m → ∃ (ys : List (DataW H × List MemPlace)) (n : Nat), D i = .agg (ys.map (·.1)) ∧ Pl i = ys.flatMap (·.2) ∧ ys.length = fs.size ∧
        ∀ (j : Nat) (f : Field), fs[j]? = some f → ∃ (v : Value) (y : DataW H × List MemPlace), w.cell? (a.add (i * fs.size + j)) = some v ∧ ys[j]? = some y ∧ DataW.trod enc P w base spare held n f.type [v] = some y := by
  rcases open_slice ht h with h0 | ⟨a, len, cap, m, n, D, Pl, hcs, hb, hl, hm, hmm, hx, hi⟩
  · exact .inl h0
  · refine .inr ⟨a, len, cap, m, D, Pl, hcs, hb, hl, hm, hmm, by rw [hC] at hx; exact hx, fun i him => ?_⟩
    obtain ⟨cs', hc, ht'⟩ := hi i him
    rw [hC] at hc
    obtain ⟨ys, n', hn', hy, hlen, hyl, hf⟩ := DataW.trod_struct he ht'
    obtain ⟨_, hcl, hat⟩ := World.cells?_some hc
    simp only [Prod.mk.injEq] at hy
    refine ⟨ys, n', hy.1, hy.2, hyl, fun j f hj => ?_⟩
    obtain ⟨ho, hk⟩ := hone_of hone j f hj
    have hjl : j < fs.size := (Array.getElem?_eq_some_iff.1 hj).1
    have hcell := hat j hjl
    have hv : cs'[j]? = some (cs'[j]'(by omega)) := List.getElem?_eq_getElem (by omega)
    have h1 := hf j f hj
    rw [ho, hk] at h1
    have hone' : (cs'.drop j).take 1 = [cs'[j]'(by omega)] := by
      rw [List.drop_eq_getElem_cons (by omega)]
      rfl
    rw [hone'] at h1
    have hys : ys[j]? = some (ys[j]'(by omega)) := List.getElem?_eq_getElem (by omega)
    refine ⟨_, _, ?_, hys, h1.trans hys⟩
    rw [← Go.Deep.add_add, hcell, hv]
end

section
variable {H : Type} {enc : TypeId × Value → H} {W : World} {base : Nat} {held : Bool} {fuel : Nat}

set_option maxRecDepth 100000 in
theorem open_blocks_u {cs : List Value} {x : DataW H × List MemPlace} (h : DataW.trod enc Tryz.prog W base (fun _ => true) held fuel 47 cs = some x) :
    ∃ (v : Value) (l : List (List UInt8 × Hdrs × List UInt8)), cs = [v] ∧ Bks W v l ∧ l.length ≤ Rows.uptoBulk x.1 ∧
      ∀ b ∈ l, b.1.length ≤ Rows.uptoBulk x.1 ∧ b.2.1.length ≤ Rows.uptoBulk x.1 ∧ b.2.2.length ≤ Rows.uptoBulk x.1 ∧ ∀ p ∈ b.2.1, p.1.length ≤ Rows.uptoBulk x.1 ∧ p.2.length ≤ Rows.uptoBulk x.1 := by
  rcases open_slice_fields Tryz.underlying47 Tryz.underlying25 (by kernel_rfl) (by kernel_rfl) h with ⟨rfl, _⟩ | ⟨a, len, cap, m, D, Pl, rfl, _, hl, hm, hmm, hxx, hcell⟩
  · exact ⟨_, [], rfl, ⟨none, 0, rfl, ⟨Nat.le_refl _, fun _ => rfl⟩, fun h => absurd rfl h⟩, by simp, fun p hp => by (cases hp)⟩
  · have hmc : m = cap := by simpa using hmm
    subst hmc
    have each : ∀ i, i < m → ∃ z : List UInt8 × Hdrs × List UInt8, (∃ (hv : Value) (q : Option Addr) (bc : Nat), W.cell? (a.add (i * 3)) = some (.string (bs z.1)) ∧ W.cell? (a.add (i * 3 + 1)) = some hv ∧ W.cell? (a.add (i * 3 + 2)) = some (.slice q z.2.2.length bc) ∧ Hd W hv z.2.1 ∧ Sl W (.slice q z.2.2.length bc) z.2.2 ∧ bc ≤ 9223372036854775807) ∧
        z.1.length ≤ Rows.uptoBulk (D i) ∧ z.2.1.length ≤ Rows.uptoBulk (D i) ∧ z.2.2.length ≤ Rows.uptoBulk (D i) ∧ ∀ p ∈ z.2.1, p.1.length ≤ Rows.uptoBulk (D i) ∧ p.2.length ≤ Rows.uptoBulk (D i) := by
      intro i hi
      obtain ⟨ys, n, hD, _, hyl, hf⟩ := hcell i hi
      obtain ⟨v0, y0, c0, e0, t0⟩ := hf 0 _ rfl
      obtain ⟨v1, y1, c1, e1, t1⟩ := hf 1 _ rfl
      obtain ⟨v2, y2, c2, e2, t2⟩ := hf 2 _ rfl
      obtain ⟨s, f0, x0, l0⟩ := DataW.trod_string Tryz.underlying9 t0
      obtain ⟨hv, hs, f1, hH, hn, hx⟩ := open_hdrs_u t1
      obtain ⟨q, bc, by_, f2, hS, hbc, _, _, hdl⟩ := open_bytes_u t2
      simp at f0 f1 f2
      subst f0; subst f1; subst f2
      have hx0 : y0.1 = .lit (.string s.data.toList) := congrArg Prod.fst x0
      have hys : ys = [y0, y1, y2] := by
        have hyl3 : ys.length = 3 := hyl
        match ys, hyl3, e0, e1, e2 with
        | [a, b, c], _, e0, e1, e2 => simp at e0 e1 e2; rw [e0, e1, e2]
      have hall : Rows.uptoBulk y0.1 + (Rows.uptoBulk y1.1 + (Rows.uptoBulk y2.1 + 0)) ≤ Rows.uptoBulk (D i) := by
        have h3 := bulk_agg [y0.1, y1.1, y2.1]
        simp only [Rows.uptoBulkAll] at h3
        rw [hD, hys]; exact h3
      have hs0 : s.data.toList.length ≤ Rows.uptoBulk y0.1 := by rw [hx0, bulk_str]; omega
      refine ⟨(s.data.toList, hs, by_), ⟨v1, q, bc, by rw [bs_of]; exact c0, c1, c2, hH, hS, hbc⟩, by simp only; omega, by simp only; omega, by simp only; omega, fun p hp => ?_⟩
      have := hx p hp
      omega
    obtain ⟨z, hz⟩ := Deep.choose_lt each
    refine ⟨_, (List.range len).map z, rfl, ⟨some a, m, by simp, ⟨by simpa using hl, fun h => by (cases h)⟩, fun hne => ?_⟩, ?_, fun p hp => ?_⟩
    · have hpos : 0 < len := by
        rcases Nat.eq_zero_or_pos len with h0 | h0
        · subst h0; simp at hne
        · exact h0
      obtain ⟨b, o, spot⟩ := a
      obtain ⟨⟨_, _, _, h0, _⟩, _⟩ := hz 0 (by omega)
      have hsp : spot = none := by simpa [Addr.add] using World.cell?_spot h0
      subst hsp
      refine ⟨b, o, rfl, fun i x hx => ?_⟩
      have hi : i < len := by
        have := (List.getElem?_eq_some_iff.1 hx).1
        simpa using this
      obtain ⟨⟨hv, q, bc, h1, h2, h3, h4, h5, h6⟩, _⟩ := hz i (by omega)
      rw [addr_add] at h1 h2 h3
      have hx2 : x = z i := by
        rw [List.getElem?_map, List.getElem?_range hi] at hx
        simpa using hx.symm
      subst hx2
      exact ⟨hv, q, bc, h1, by rw [← Nat.add_assoc] at h2; exact h2, by rw [← Nat.add_assoc] at h3; exact h3, h4, h5, h6⟩
    · rw [hxx]
      refine Nat.le_trans ?_ (Nat.le_trans (ubulk_len _) (bulk_elems _ _))
      simp
    · obtain ⟨i, hi, rfl⟩ := List.mem_map.1 hp
      rw [List.mem_range] at hi
      obtain ⟨_, a0, a1, a2, a3⟩ := hz i (by omega)
      have hmem : D i ∈ (List.range len).map D := List.mem_map.2 ⟨i, List.mem_range.2 hi, rfl⟩
      have hle : Rows.uptoBulk (D i) ≤ Rows.uptoBulk x.1 := by rw [hxx]; exact Nat.le_trans (bulk_part hmem) (bulk_elems _ _)
      refine ⟨by omega, by omega, by omega, fun p hp => ?_⟩
      have := a3 p hp
      omega
set_option maxRecDepth 100000 in
theorem open_blocks_arg {r : Reach} {b0 : Nat} {v : Value} {d : DataW H} {p : List MemPlace} (hv : Value.okWide Tryz.prog W r b0 47 v) (h : DataW.Trod enc Tryz.prog W base (fun _ => true) held 47 v d p) :
    ∃ (l : List (List UInt8 × Hdrs × List UInt8)), Bks W v l ∧ l.length ≤ Rows.uptoBulk d ∧
      ∀ b ∈ l, b.1.length ≤ Rows.uptoBulk d ∧ b.2.1.length ≤ Rows.uptoBulk d ∧ b.2.2.length ≤ Rows.uptoBulk d ∧ ∀ p ∈ b.2.1, p.1.length ≤ Rows.uptoBulk d ∧ p.2.length ≤ Rows.uptoBulk d := by
  obtain ⟨a, len, cap, rfl⟩ := okWide_slice Tryz.underlying47 hv
  obtain ⟨fuel, hf⟩ := h
  obtain ⟨v1, l, hcs, hL, h1, h2⟩ := open_blocks_u hf
  simp [Value.cells] at hcs
  subst hcs
  exact ⟨l, hL, h1, h2⟩
end
end Go.Proofs.YtpjehmblndjknaaGreatDoor

namespace Go.Proofs.YtpjehmblndjknaaGreatDoor
open Go.RowKit Go.Maps
set_option linter.unusedSimpArgs false
set_option linter.unusedVariables false

set_option maxRecDepth 100000 in
set_option maxHeartbeats 800000 in
theorem zzFits4_all (l : List (List UInt8 × Hdrs × List UInt8)) (v : Value) (w : World) (hL : Bks w v l) (hn : l.length ≤ 2147483647)
   (hx : ∀ b ∈ l, b.1.length ≤ 2147483647 ∧ b.2.1.length ≤ 2147483647 ∧ b.2.2.length ≤ 2147483647 ∧ ∀ p ∈ b.2.1, p.1.length ≤ 2147483647 ∧ p.2.length ≤ 2147483647) (hf : ∀ b ∈ l, fitsB b.1 b.2.1 b.2.2 = true) :
    Calls Tryz.prog 23 #[v] w fun e w' => e = .returned (.bool true) ∧ Below w.heap.size w w' := by
  obtain ⟨p, cap, rfl, hcp, hP⟩ := hL
  have HP := hide hP
  have HX := hide hx
  have HF := hide hf
  clear hP hx hf
  have i1 : ¬ (2147483647 : Int) < (l.length : Int) := by omega
  go_enter Tryz.func23, Tryz.ntmps23
  go_wp2
  go_loopw [10] (fun vk wr => ∃ k : Nat, k ≤ l.length ∧ vk = .int .i64 (k : Int) ∧ Below w.heap.size w wr) (fun vk _ => l.length - (intOf vk).toNat)
  case atStart => exact ⟨0, Nat.zero_le _, rfl, Below.refl _ _⟩
  case round =>
    obtain ⟨k, hk, rfl, hb⟩ := hrel
    by_cases hlt : k < l.length
    · obtain ⟨x, hx⟩ : ∃ x, l[k]? = some x := ⟨_, List.getElem?_eq_getElem hlt⟩
      obtain ⟨b, o, rfl, hcell⟩ := unhide HP (by rintro rfl; simp at hlt)
      obtain ⟨hv, q, bc, h0, h1, h2, hH, hS, hc⟩ := (hcell k x hx).below hb
      have hm := List.mem_of_getElem? hx
      obtain ⟨x1, x2, x3, x4⟩ := unhide HX x hm
      have hcall := fun W (hW : Below wr.heap.size wr W) => zzFits1_any x.1 x.2.2 hv _ x.2.1 W (hH.below hW) (hS.below hW) (by omega) (by omega) (by omega) (fun p hp => by have := x4 p hp; omega)
      rw [unhide HF x hm] at hcall
      have HC := hide hcall
      obtain ⟨hp, hcap, rfl, _⟩ := hH
      have HXX := hide hx
      clear hcell hx hcall x1 x2 x3 x4 hS hm
      go_wp2_with fail
      refine (unhide HC _ (balloc (Below.refl _ _) _)).mono ?_
      rintro e w2 ⟨rfl, hb2⟩
      have hb3 : Below w.heap.size w w2 := bstep (balloc hb _) hb2
      clear hb2 hb HC
      go_wp2
      refine ⟨⟨k + 1, by omega, by go_num, hb3⟩, ?_⟩
      simp [intOf]; omega
    · go_wp2
      go_ret
      exact ⟨rfl, hb⟩
end Go.Proofs.YtpjehmblndjknaaGreatDoor

namespace Go.Proofs.YtpjehmblndjknaaGreatDoor
open Go.RowKit
set_option linter.unusedSimpArgs false
set_option linter.unusedVariables false

theorem wpList_append_tx (w : World) {ops : Array Oper} {rest : List Oper} {o : Oper} {a : Act} {Q : Exit → Act → World → Prop} (hgd : o.guard = none) (s x : Operand) (t tx : TypeId)
    (ho : o.op = .call { callee := .builtin .append, args := #[s, x], argTypes := #[t, tx] }) (v u : Value) (hs : a.eval s = v) (hx : a.eval x = u) {v' : Value} {w' : World}
    (hr : (Builtin.append_ #[t, tx] o.type #[v, u]).run Tryz.prog w = .ok v' w') (h : wpList Tryz.prog ops Q rest (a.put o.dst v') w') : wpList Tryz.prog ops Q (o :: rest) a w :=
  wpList_plain hgd fun _ hK => by
    unfold Oper.wp execOp
    simp only [ho, resolve, invoke, builtin, Sem.run_bind, Sem.run_pure, Result.andThen_ok, List.map_toArray, List.map_cons, List.map_nil, hs, hx, hr]
    exact hK _ _ h
end Go.Proofs.YtpjehmblndjknaaGreatDoor

namespace Go.Proofs.YtpjehmblndjknaaGreatDoor
open Go.RowKit Go.Maps
set_option linter.unusedSimpArgs false
set_option linter.unusedVariables false

def catp (l : List (List UInt8 × Hdrs × List UInt8)) : List UInt8 := l.flatMap fun x => pemOut x.1 x.2.1 x.2.2
theorem catp_snoc {l : List (List UInt8 × Hdrs × List UInt8)} {k : Nat} {x : List UInt8 × Hdrs × List UInt8} (h : l[k]? = some x) : catp (l.take (k + 1)) = catp (l.take k) ++ pemOut x.1 x.2.1 x.2.2 := by
  unfold catp
  rw [List.take_add_one, h]
  simp
theorem catp_drop {l : List (List UInt8 × Hdrs × List UInt8)} {k : Nat} {x : List UInt8 × Hdrs × List UInt8} (h : l[k]? = some x) : catp (l.drop k) = pemOut x.1 x.2.1 x.2.2 ++ catp (l.drop (k + 1)) := by
  obtain ⟨hk, e⟩ := List.getElem?_eq_some_iff.1 h
  rw [List.drop_eq_getElem_cons hk, e]
  unfold catp
  rw [List.flatMap_cons]
theorem catp_len (l : List (List UInt8 × Hdrs × List UInt8)) (hx : ∀ b ∈ l, b.1.length ≤ 1048576 ∧ b.2.1.length ≤ 1048576 ∧ b.2.2.length ≤ 1048576 ∧ ∀ p ∈ b.2.1, p.1.length ≤ 1048576 ∧ p.2.length ≤ 1048576) : (catp l).length ≤ 3000000000000 * l.length := by
  induction l with
  | nil => simp [catp]
  | cons a r ih =>
    have h1 := ih fun b hb => hx b (List.mem_cons_of_mem _ hb)
    obtain ⟨a1, a2, a3, a4⟩ := hx a List.mem_cons_self
    have h2 := pemOut_bound a1 (by omega) a3 a4
    have e : catp (a :: r) = pemOut a.1 a.2.1 a.2.2 ++ catp r := by unfold catp; rw [List.flatMap_cons]
    rw [e, List.length_append, List.length_cons]
    omega

set_option maxRecDepth 100000 in
set_option maxHeartbeats 4000000 in
theorem fnSeveral_walk (hpem : PemOK) (l : List (List UInt8 × Hdrs × List UInt8)) (v : Value) (w : World) (hT : Tabs w) (hL : Bks w v l) (hn : l.length ≤ 1048576)
   (hx : ∀ b ∈ l, b.1.length ≤ 1048576 ∧ b.2.1.length ≤ 1048576 ∧ b.2.2.length ≤ 1048576 ∧ ∀ p ∈ b.2.1, p.1.length ≤ 1048576 ∧ p.2.length ≤ 1048576) :
    Calls Tryz.prog 10 #[v] w fun e w' => e = .returned (.bool true) ∧ Below w.heap.size w w' := by
  have hfit := zzFits4_all l v w hL (by omega) (fun b hb => by obtain ⟨a1, a2, a3, a4⟩ := hx b hb; exact ⟨by omega, by omega, by omega, fun p hp => by have := a4 p hp; omega⟩) (fun b hb => by obtain ⟨a1, a2, a3, a4⟩ := hx b hb; exact fits_sm a1 a2 a4 a3)
  have HF := hide hfit
  obtain ⟨p, cap, rfl, hcp, hP⟩ := hL
  have HP := hide hP
  have HX := hide hx
  have HT := hide hT
  clear hfit hP hx hT
  go_enter Tryz.func10, Tryz.ntmps10
  go_wp2_with fail
  refine (unhide HF).mono ?_
  rintro e w1 ⟨rfl, hb1⟩
  have HB1 : Hid (Below w.heap.size w w1) := hb1
  clear hb1 HF
  go_wp2_with fail
  go_loopw [3, 21] (fun v3 vk wr => ∃ k : Nat, k ≤ l.length ∧ k ≤ 20 ∧ vk = .int .i64 (k : Int) ∧ Hid (Below w.heap.size w wr) ∧ Hid (Apd wr w.heap.size v3 (catp (l.take k))) ∧ Hid (∀ x ∈ l.take k, properB x.1 x.2.1 x.2.2 = true)) (fun _ vk _ => l.length - (intOf vk).toNat)
  case atStart => exact ⟨0, Nat.zero_le _, by omega, rfl, unhide HB1, Apd.nil _ _, fun x hx => by cases hx⟩
  case round =>
    obtain ⟨k, hk, hk20, rfl, HB, HA, HPR⟩ := hrel
    by_cases hlt : k < l.length
    · obtain ⟨x, hx⟩ : ∃ x, l[k]? = some x := ⟨_, List.getElem?_eq_getElem hlt⟩
      obtain ⟨b, o, rfl, hcell⟩ := unhide HP (by rintro rfl; simp at hlt)
      obtain ⟨hv, q, bc, h0, h1, h2, hH, hS, hc⟩ := (hcell k x hx).below (unhide HB)
      obtain ⟨x1, x2, x3, x4⟩ := unhide HX x (List.mem_of_getElem? hx)
      have hpl := pemOut_bound x1 (by omega) x3 x4
      have henc := fun W (hW : Below wr.heap.size wr W) => encoded_any x.1 x.2.2 hv q bc x.2.1 W (hH.below hW) (hS.below hW) hc (fun p hp => by have := x4 p hp; omega) (by omega) (by omega) (fun _ => by omega)
      have HC := hide henc
      obtain ⟨hp, hcap, rfl, _⟩ := hH
      have HXX := hide hx
      have HPL := hide hpl
      clear hcell hx henc x1 x2 x3 x4 hS hpl
      go_wp2_with fail
      refine (unhide HC _ (balloc (Below.refl _ _) _)).mono ?_
      rintro e w2 ⟨hb2, hcase⟩
      have HB2 : Hid (Below w.heap.size w w2) := bstep (balloc (unhide HB) _) hb2
      have hb2' := (balloc (Below.refl wr.heap.size wr) (.cells #[.string (bs x.1), .slice hp x.2.1.length hcap, .slice q x.2.2.length bc] 25)).trans (hb2.mono (by rw [World.size_alloc]; omega))
      have HA2 := hide ((unhide HA).below hb2')
      clear hb2 hb2' HC h0 h1 h2 HA
      rcases hcase with ⟨hpr, rfl⟩ | ⟨hpr, s, rfl⟩
      rotate_left
      · have hwk := hide (works_any w2)
        clear hpr
        go_wp2_with fail
        refine (unhide hwk).mono ?_
        rintro e w7 ⟨rfl, hb7⟩
        have HB7 : Hid (Below w.heap.size w w7) := bstep (unhide HB2) hb7
        clear hb7 hwk
        go_wp2
        go_ret
        exact ⟨rfl, unhide HB7⟩
      · by_cases h20 : k < 20
        · have hlen := catp_len (l.take k) (fun b hb => unhide HX b (List.mem_of_mem_take hb))
          rw [List.length_take, Nat.min_eq_left hk] at hlen
          have hpl := unhide HPL
          obtain ⟨v4, w4, hr4, ha4, hb4⟩ := append_apd 23 (unhide HA2) (src_str w2 (pemOut x.1 x.2.1 x.2.2)) (unhide HB2).size (by omega)
          rw [← catp_snoc (unhide HXX)] at ha4
          have HB4 : Hid (Below w.heap.size w w4) := (unhide HB2).trans hb4
          have HA4 := hide ha4
          have HPR4 : Hid (∀ y ∈ l.take (k + 1), properB y.1 y.2.1 y.2.2 = true) := by
            intro y hy
            rw [List.take_add_one, unhide HXX] at hy
            rcases List.mem_append.1 hy with hy | hy
            · exact unhide HPR y hy
            · simp at hy; subst hy; exact hpr
          clear ha4 hb4 hpr hlen hpl HPL HPR HA2 HB2
          generalize pemOut x.1 x.2.1 x.2.2 = X at hr4 ⊢
          go_wp2_with (first
            | (at_builtin; refine wpList_append_tx _ rfl _ _ 23 9 rfl _ _ rfl rfl hr4 ?_)
            | fail)
          refine ⟨⟨k + 1, by omega, by omega, by go_num, HB4, HA4, HPR4⟩, ?_⟩
          simp [intOf]; omega
        · have hwk := hide (works_any w2)
          clear hpr
          go_wp2_with fail
          refine (unhide hwk).mono ?_
          rintro e w7 ⟨rfl, hb7⟩
          have HB7 : Hid (Below w.heap.size w w7) := bstep (unhide HB2) hb7
          clear hb7 hwk
          go_wp2
          go_ret
          exact ⟨rfl, unhide HB7⟩
    · obtain rfl : k = l.length := by omega
      have HS := hide (unhide HA).sl
      rw [List.take_length] at HS HPR
      have HLN : Hid ((catp l).length ≤ 60000000000000) := by have := catp_len l (unhide HX); show _ ≤ _; omega
      clear HA HB1
      go_wp2_with fail
      go_loopw [3, 44] (fun v3 vk wr => ∃ k : Nat, k ≤ l.length ∧ vk = .int .i64 (k : Int) ∧ Hid (Below w.heap.size w wr) ∧ Hid (Sl wr v3 (catp (l.drop k)))) (fun _ vk _ => l.length - (intOf vk).toNat)
      case atStart => exact ⟨0, Nat.zero_le _, rfl, unhide HB, unhide HS⟩
      case round =>
        obtain ⟨k, hk, rfl, HB, HS⟩ := hrel
        by_cases hlt : k < l.length
        · obtain ⟨x, hx⟩ : ∃ x, l[k]? = some x := ⟨_, List.getElem?_eq_getElem hlt⟩
          have hm := List.mem_of_getElem? hx
          obtain ⟨hty, hph, hnd⟩ := plainH_of (unhide HPR x hm)
          obtain ⟨b, o, rfl, hcell⟩ := unhide HP (by rintro rfl; simp at hlt)
          obtain ⟨hv, q, bc, h0, h1, h2, hH, hS, hc⟩ := (hcell k x hx).below (unhide HB)
          obtain ⟨x1, x2, x3, x4⟩ := unhide HX x hm
          have hll := catp_len (l.drop k) (fun b hb => unhide HX b (List.mem_of_mem_drop hb))
          rw [List.length_drop, catp_drop hx] at hll
          rw [catp_drop hx] at HS
          have hdec := fun W (hW : Below wr.heap.size wr W) => decode_found hpem _ _ W ((unhide HS).below hW) (by omega) ((unhide HT).below (bstep (unhide HB) hW)) (ty := x.1) (d := x.2.2) (rest := catp (l.drop (k + 1))) hnd (by omega) (fun o ho => law_back hty hph (by rw [← pemOut_written]; exact ho))
          have HD := hide hdec
          have HH := hide hH
          have HSS := hide hS
          obtain ⟨hp, hcap, rfl, _⟩ := hH
          clear hcell hdec hS hm hty hph hnd hll HS
          go_wp2_with fail
          refine (unhide HD _ (balloc (Below.refl _ _) _)).mono ?_
          rintro e w5 ⟨hb5, hv5, rv, q5, bc5, ls, rfl, g1, g2, g3, g4, g5⟩
          have hz5 : wr.heap.size < w5.heap.size := by have := hb5.size; rw [World.size_alloc] at this; omega
          have hblk5 : w5.heap[wr.heap.size]? = some (.cells #[.string (bs x.1), .slice hp x.2.1.length hcap, .slice q x.2.2.length bc] 25 (0, 0)) := by
            rw [hb5.block _ (by rw [World.size_alloc]; omega)]; exact heap_new wr _
          have hb05 : Below wr.heap.size wr w5 := (balloc (Below.refl _ _) _).trans (hb5.mono (by rw [World.size_alloc]; omega))
          have HB5 : Hid (Below w.heap.size w w5) := bstep (unhide HB) hb05
          obtain ⟨p5, cap5, rfl, hc5⟩ := g1
          have g1 : Hd w5 (.slice p5 ls.length cap5) ls := ⟨p5, cap5, rfl, hc5⟩
          clear hc5 hb5 HD h0 h1 h2
          have hb56 : Below w5.heap.size w5 (w5.alloc (.cells #[.string (bs x.1), .slice p5 ls.length cap5, .slice q5 x.2.2.length bc5] 25)) := balloc (Below.refl _ _) _
          have hblk6 := (hb56.block _ hz5).trans hblk5
          have hgot6 := heap_new w5 (.cells #[.string (bs x.1), .slice p5 ls.length cap5, .slice q5 x.2.2.length bc5] 25)
          have HB6 : Hid (Below w.heap.size w (w5.alloc (.cells #[.string (bs x.1), .slice p5 ls.length cap5, .slice q5 x.2.2.length bc5] 25))) := bstep (unhide HB5) hb56
          have hg1 := g1.below hb56
          have hg3 := g3.below hb56
          have hg4 := g4.below hb56
          have hH6 := (unhide HH).below (hb05.trans (hb56.mono (by omega)))
          have hS6 := (unhide HSS).below (hb05.trans (hb56.mono (by omega)))
          clear hblk5 hb56 hb05 g1 g3 g4
          go_upto_region 16 with (fail)
          generalize hw6 : w5.alloc (.cells #[.string (bs x.1), .slice p5 ls.length cap5, .slice q5 x.2.2.length bc5] 25) = w6 at HB6 hg1 hg3 hg4 hH6 hS6 hblk6 hgot6 ⊢
          clear hw6
          generalize w5.heap.size = g at hgot6 ⊢
          have HKP : Hid (∀ W, Below w6.heap.size w6 W → W.heap[g]? = some (.cells #[.string (bs x.1), .slice p5 ls.length cap5, .slice q5 x.2.2.length bc5] 25 (0, 0)) ∧ W.heap[wr.heap.size]? = some (.cells #[.string (bs x.1), .slice hp x.2.1.length hcap, .slice q x.2.2.length bc] 25 (0, 0))) := fun W hW => ⟨(hW.block _ (lt_of_heap hgot6)).trans hgot6, (hW.block _ (lt_of_heap hblk6)).trans hblk6⟩
          have HG6 := hide (And.intro hg1 (And.intro hg3 (And.intro hg4 (And.intro hH6 hS6))))
          have G2 := hide g2
          clear hg1 hg3 hg4 hH6 hS6 hblk6 hgot6 g2 HB5 hz5
          have HSP : ∀ W, Below w6.heap.size w6 W → W.cell? ⟨g, 0, none⟩ = some (.string (bs x.1)) ∧ W.cell? ⟨g, 1, none⟩ = some (.slice p5 ls.length cap5) ∧ W.cell? ⟨g, 2, none⟩ = some (.slice q5 x.2.2.length bc5) ∧ W.cell? ⟨wr.heap.size, 0, none⟩ = some (.string (bs x.1)) ∧ W.cell? ⟨wr.heap.size, 1, none⟩ = some (.slice hp x.2.1.length hcap) ∧ W.cell? ⟨wr.heap.size, 2, none⟩ = some (.slice q x.2.2.length bc) := fun W hW => by
            obtain ⟨k1, k2⟩ := unhide HKP W hW
            obtain ⟨c0, c1, c2, -⟩ := cells3 k1
            obtain ⟨e0, e1, e2, -⟩ := cells3 k2
            exact ⟨c0, c1, c2, e0, e1, e2⟩
          have HSP' := hide HSP
          obtain ⟨c0, c1, c2, e0, e1, e2⟩ := HSP _ (Below.refl _ _)
          have hlsn : ls.length ≤ 4294967295 := by rw [sameH_len (unhide G2)]; omega
          clear HSP HKP
          go_region_held3 (fun w' => w'.cell? ⟨g, 0, none⟩ = some (.string (bs x.1)) ∧ w'.cell? ⟨g, 1, none⟩ = some (.slice p5 ls.length cap5) ∧ w'.cell? ⟨g, 2, none⟩ = some (.slice q5 x.2.2.length bc5) ∧ w'.cell? ⟨wr.heap.size, 0, none⟩ = some (.string (bs x.1)) ∧ w'.cell? ⟨wr.heap.size, 1, none⟩ = some (.slice hp x.2.1.length hcap) ∧ w'.cell? ⟨wr.heap.size, 2, none⟩ = some (.slice q x.2.2.length bc))
            (first | exact unhide HSP' _ (unhide HBc) | exact unhide HSP' _ (unhide HBb) | exact unhide HSP' _ (unhide HBa) | exact unhide HSP' _ (drewN_below w6 1) | go_keep)
            (first
              | (go_at_call_of 17 (Value.slice p5 ls.length cap5)
                 refine (block_any x.1 _ ls q5 x.2.2.length bc5 _ ((unhide HG6).1.below (by first | exact drewN_below w6 1 | exact unhide HBb)) hlsn).mono ?_
                 rintro e wA ⟨vA, rfl, hA, hbA⟩
                 have HBa : Hid (Below w6.heap.size w6 wA) := by first | exact bstep (drewN_below w6 1) hbA | exact bstep (unhide HBb) hbA
                 have HA := hide hA
                 have HBA := hide hbA
                 clear hA hbA)
              | (go_at_call_of 17 (Value.slice hp x.2.1.length hcap)
                 refine (block_any x.1 _ x.2.1 q x.2.2.length bc _ ((unhide HG6).2.2.2.1.below (by first | exact drewN_below w6 1 | exact unhide HBa)) (by omega)).mono ?_
                 rintro e wB ⟨vB, rfl, hB, hbB⟩
                 have HBb : Hid (Below w6.heap.size w6 wB) := by first | exact bstep (drewN_below w6 1) hbB | exact bstep (unhide HBa) hbB
                 have HBv := hide hB
                 have HBB := hide hbB
                 clear hB hbB)
              | (go_at_call 16
                 refine (sameB_any x.1 x.2.2 vA vB q5 q bc5 bc ls x.2.1 _ (by first | exact unhide HA | exact (unhide HA).below (unhide HBB)) (by first | exact unhide HBv | exact (unhide HBv).below (unhide HBA)) ((unhide HG6).2.1.below (by first | exact unhide HBa | exact unhide HBb)) ((unhide HG6).2.2.2.2.below (by first | exact unhide HBa | exact unhide HBb)) hlsn (by omega) (unhide G2)).mono ?_
                 rintro e wC ⟨rfl, hbC⟩
                 have HBc : Hid (Below w6.heap.size w6 wC) := by first | exact bstep (unhide HBb) hbC | exact bstep (unhide HBa) hbC
                 clear hbC))
          all_goals (
            have HF := hide (bstep (unhide HB6) (unhide HBc))
            have HRV := hide ((unhide HG6).2.2.1.below (unhide HBc))
            go_wp2_with fail
            refine ⟨⟨k + 1, by omega, by go_num, HF, HRV⟩, ?_⟩
            simp [intOf]; omega)
        · obtain rfl : k = l.length := by omega
          rw [List.drop_length] at HS
          rw [show catp [] = [] from rfl] at HS
          have hdec := hide (decode_no hpem _ _ wr (unhide HS) (by simp) ((unhide HT).below (unhide HB)) (fun o ho => dec_nothing (Skip.nil _) ho))
          obtain ⟨pp, c0, e, _⟩ := unhide HS
          rw [List.length_nil] at e
          subst e
          clear HS
          go_wp2_with fail
          refine (unhide hdec).mono ?_
          rintro e w5 ⟨hb5, rfl⟩
          have HB5 : Hid (Below w.heap.size w w5) := bstep (unhide HB) hb5
          have hwk := hide (fun W => works_any W)
          clear hb5 hdec
          go_wp2_with fail
          refine (unhide hwk _).mono ?_
          rintro e w7 ⟨rfl, hb7⟩
          have HB7 : Hid (Below w.heap.size w w7) := bstep (balloc (unhide HB5) _) hb7
          clear hb7 hwk
          go_wp2
          go_ret
          exact ⟨rfl, unhide HB7⟩
end Go.Proofs.YtpjehmblndjknaaGreatDoor

namespace Go.Proofs.YtpjehmblndjknaaGreatDoor.fnSeveral
open Go.ChangeShapes Go.WideShapes Go.ChangeAt Go.RowKit
open Go.ChangeMaps (open_string shut_string)
set_option linter.unusedVariables false

theorem own : ownKnob Tryz.prog.godebug = none := by kernel_rfl
theorem laidOut : laidOutB Tryz.prog = true := by kernel_rfl

set_option maxRecDepth 100000 in
theorem contract (H : Type) (enc : TypeId × Value → H) (W : World) (base : Nat) (args : Array Value) (ds gs : List (DataW H)) (before : List MemPlace)
    (hval0 : ∀ (j : Nat) t v, Tryz.f10.params[j]? = some t → args[j]? = some v → Value.okWide Tryz.prog W .any base t v)
    (hW : DataW.Whole enc Tryz.prog Tryz.f10.params.toList Rows.fnSeveralSpec.vars false W args.toList ds gs before) (hk : Rows.uptoSmall H (ds ++ gs) = true) (hL : laidMetH Tryz.prog laidL W) :
    Calls Tryz.prog 10 args W fun e W' => ∃ v, e = .returned v ∧ Rows.fnSeveralSpec.post enc Tryz.prog Tryz.f10 false true false false W args v W' := by
  have hval : ∀ (j : Nat) t v, Tryz.f10.params[j]? = some t → args[j]? = some v → Value.okWide Tryz.prog W .any base t v := hval0
  have hW' := hW
  obtain ⟨p, q, hA0, hV, rfl, hfz, hnd⟩ := hW
  have hA : DataW.TrodAll enc Tryz.prog W 0 (fun _ => true) true Tryz.f10.params.toList args.toList ds p := hA0
  rw [Tryz.params10] at hA hval
  obtain ⟨v0, vs0, d0, ds0, p0, pq0, hargs, rfl, rfl, h0, r0⟩ := trodAll_cons hA
  obtain ⟨rfl, rfl, rfl⟩ := trodAll_nil r0
  obtain rfl : args = #[v0] := by cases args; simp_all
  obtain ⟨rfl, rfl⟩ := trodVars_none hV
  have k0 := h0
  have lt0 : ∀ x ∈ p0, x.block < W.heap.size := by obtain ⟨m, hm⟩ := k0; exact DataW.trod_lt m _ _ _ hm
  obtain ⟨L0, eL0, eN0, eX0⟩ := open_blocks_arg (hval 0 47 v0 rfl rfl) h0
  have hbulk : Rows.uptoBulk d0 ≤ 1048576 := by
    have h2 := of_decide_eq_true hk
    simp only [List.append_nil, Rows.uptoBulkAll] at h2
    omega
  clear hA0 hval0
  have hw := fnSeveral_walk (fun v data w hs hl hT => pemDecode_any v data w hs hl hT) L0 v0 W (tabs_of hL) eL0 (by omega) (fun b hb => by obtain ⟨z1, z2, z3, z4⟩ := eX0 b hb; exact ⟨by omega, by omega, by omega, fun p hp => by have := z4 p hp; omega⟩)
  refine hw.mono fun e W' ⟨he, bel⟩ => ?_
  subst he
  have t0 := Below.trod laidOut (by kernel_rfl) (of_decide_eq_true (by kernel_rfl)) k0 bel lt0
  exact ⟨_, rfl, _, _, _, [], _, [], hW', trodAll_mk1 (shut_bool Tryz.underlying4 _), (trodAll_cons_mk t0 trodAll_mk0), rfl, bel.frame _, fun h => by cases h⟩

theorem reads (os : Os) {H : Type} (enc : TypeId × Value → H) : ∃ places, DataW.whole enc Tryz.prog ((laidWorld os).forCall (fun _ _ => 0) ⟨#[], #[.slice none 0 0], []⟩).memory Tryz.f10.params.toList Rows.fnSeveralSpec.vars false #[Value.slice none 0 0].toList 8 = some ([.nil], [], places) :=
  ⟨[], by kernel_rfl⟩

set_option maxRecDepth 100000 in
theorem lifted (os : Os) (started : os.Started) (H : Type) (enc : TypeId × Value → H) (F : Stop.Interp) :
    ReturnsInHanded {} Tryz.checked os 10 .any ((Rows.OpenSpec.upto Rows.fnSeveralSpec).preRow enc Tryz.prog Tryz.f10 Rows.fnSeveralUptoRow.domain false Rows.fnSeveralUptoRow.laid) (((Rows.OpenSpec.upto Rows.fnSeveralSpec).at F).post enc Tryz.prog Tryz.f10 false true false false) := by
  obtain ⟨places, hx⟩ := reads os enc
  refine returnsInHanded_of_row (C := Tryz.checked) (s := Rows.OpenSpec.upto Rows.fnSeveralSpec) own started (by kernel_rfl) Tryz.func10
    (witness_row_atRef (enc := enc) (C := Tryz.checked) false (laidWorld os) #[.slice none 0 0] rfl (by kernel_rfl) (by kernel_rfl) (by kernel_rfl)
      (OpenSpec.preRow_of_cond 8 hx (by kernel_rfl) (fun k hk => by cases hk; kernel_rfl) (by kernel_rfl) (laid_met os _))) ?_
  intro W base args ds gs before hval hW _ hcond _ hL _ _
  exact contract H enc W base args ds gs before hval hW (hcond _ rfl) hL

theorem said : Rows.FnSeveralUptoSaid :=
  OpenClaim.holds_of_cond 10 Tryz.f10 rfl rfl rfl rfl rfl rfl rfl ⟨rfl, rfl, rfl, rfl, rfl⟩ rfl rfl rfl rfl rfl (by kernel_rfl) Tryz.func10 (by kernel_rfl)
    (of_decide_eq_true (by kernel_rfl)) (by unfold Func.isWrapper; first | (rw [if_pos (by decide +kernel)]; kernel_rfl) | (rw [if_neg (by decide +kernel)]; exact ⟨rfl, rfl⟩))
    (fun os started H enc _ F => by rw [OpenClaim.pre_eq_preRow]; exact lifted os started H enc F)

set_option maxRecDepth 100000 in
/-- No parameter wants a stand-in; the program's own looks are off: what the card asks. -/
theorem plain (f : FuncId) (fn : Func) (hf : Tryz.pinned.checked.prog.funcNamed "pemblocks/laws.FnSeveral" = some f) (hfn : Tryz.pinned.checked.prog.funcs[f]? = some fn) :
    false = Tryz.pinned.checked.prog.looks [] ∧ ∀ (j : Nat) t, fn.params[j]? = some t → Tryz.pinned.checked.prog.wantsStandIn t = false := by
  obtain rfl : f = 10 := Option.some.inj ((show Tryz.prog.funcNamed "pemblocks/laws.FnSeveral" = some 10 by kernel_rfl).symm.trans hf) |>.symm
  obtain rfl : fn = Tryz.f10 := (Option.some.inj (Tryz.func10.symm.trans hfn)).symm
  refine ⟨by kernel_rfl, fun j t ht => ?_⟩
  rw [Tryz.params10] at ht
  have hm := Array.mem_of_getElem? ht
  simp at hm
  subst hm
  exact (show Tryz.prog.wantsStandIn 47 = false by kernel_rfl)
end Go.Proofs.YtpjehmblndjknaaGreatDoor.fnSeveral
namespace Go.Proofs.YtpjehmblndjknaaGreatDoor
theorem fnSeveralUpto_card : Rows.FnSeveralUptoCardSaid :=
  Claim7.holds_tied_plain_at .later [] _ _ _ _ fnSeveral.said (fun _ h => by cases h) (by kernel_rfl) (fun _ h => by cases h) fnSeveralUpto_row_tie rfl ⟨rfl, rfl⟩ (by kernel_rfl) rfl fnSeveral.plain (by kernel_rfl)
#print axioms fnSeveralUpto_card
end Go.Proofs.YtpjehmblndjknaaGreatDoor
