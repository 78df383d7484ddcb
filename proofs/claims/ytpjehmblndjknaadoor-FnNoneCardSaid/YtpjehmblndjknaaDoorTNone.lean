/-
  The law FnNone: for all bytes the call returns true and what was handed in reads as it did.
  No condition. The card.
-/
import Derived.Test.YtpjehmblndjknaaDoorEncode
import Derived.Test.YtpjehmblndjknaaDoorBuf
import Derived.Test.YtpjehmblndjknaaDoorForm
import Derived.Test.YtpjehmblndjknaaDoorRows
import Derived.Laws.AppendOwnNone
import Derived.Lib.SlFresh
import Derived.Deep.RegionLaw
import Derived.Test.YtpjehmblndjknaaDoorDecP
import Derived.Test.YtpjehmblndjknaaDoorForm3
import Derived.Test.YtpjehmblndjknaaDoorPemA
import Derived.Test.YtpjehmblndjknaaDoorEnColon
import Derived.Test.YtpjehmblndjknaaDoorDec64
import Derived.RegionTactic
import Derived.Deep.Light
import Derived.Test.YtpjehmblndjknaaDoorStr
import Derived.Lib.Index
import Derived.Handy
import Derived.Outline
import Derived.ProofKit
import Derived.OpenShut
import Derived.ShutString
import Derived.ChangeOld
import Derived.Lib.SmallJoins
import Derived.Deep.SlicePairs
import Derived.Lib.Bytes
import Derived.Lib.LaidU8T
import Derived.Lib.LaidTab
import Derived.Deep.DeepHandedRow
import Derived.Deep.DeepWitnessRowRef
import Derived.Deep.DeepLaidRun
import Derived.Lib.LaidIn
import Derived.Test.YtpjehmblndjknaaDoorPem
import Derived.Test.YtpjehmblndjknaaDoorCards
import Derived.Test.YtpjehmblndjknaaDoorTie

namespace Go.Proofs.YtpjehmblndjknaaDoor
open Go.RowKit Go.Maps
set_option linter.unusedSimpArgs false
set_option linter.unusedVariables false

theorem sortOK : SortOK := Tryd.slices_Sort_string

/-- A slice of headers (of the thin package, or of the reference): two cells each. -/
def Hd (w : World) (v : Value) (hs : Hdrs) : Prop :=
  ∃ (p : Option Addr) (cap : Nat), v = .slice p hs.length cap ∧ (hs.length ≤ cap ∧ (p = none → cap = 0)) ∧ (hs ≠ [] → ∃ b o, p = some ⟨b, o, none⟩ ∧
    ∀ (i : Nat) (x : List UInt8 × List UInt8), hs[i]? = some x → w.cell? ⟨b, o + i * 2, none⟩ = some (.string (bs x.1)) ∧ w.cell? ⟨b, o + i * 2 + 1, none⟩ = some (.string (bs x.2)))
theorem Hd.keep {w w' : World} {v : Value} {hs : Hdrs} (h : Hd w v hs) (hk : ∀ b o, (∃ x, w.cell? ⟨b, o, none⟩ = some x) → w'.cell? ⟨b, o, none⟩ = w.cell? ⟨b, o, none⟩) : Hd w' v hs := by
  obtain ⟨p, cap, hv, hl, hc⟩ := h
  refine ⟨p, cap, hv, hl, fun hne => ?_⟩
  obtain ⟨b, o, hp, hc⟩ := hc hne
  refine ⟨b, o, hp, fun i x hx => ?_⟩
  obtain ⟨h1, h2⟩ := hc i x hx
  exact ⟨by rw [hk b _ ⟨_, h1⟩]; exact h1, by rw [hk b _ ⟨_, h2⟩]; exact h2⟩
theorem Hd.below {w w' : World} {v : Value} {hs : Hdrs} (h : Hd w v hs) (hb : Below w.heap.size w w') : Hd w' v hs :=
  h.keep fun b o ⟨_, hx⟩ => hb.cell (p := ⟨b, o, none⟩) (World.block_lt_of_cell? w _ hx)
theorem Hd.nil (w : World) : Hd w (.slice none 0 0) [] := ⟨none, 0, rfl, ⟨Nat.le_refl _, fun _ => rfl⟩, fun h => absurd rfl h⟩

theorem PB.setMap {w w' : World} {pb mb : Nat} {ty : List UInt8} {v : Value} (h : PB w pb ty mb v) (hg : w.grownBy w' (some mb)) (hne : pb ≠ mb) : PB w' pb ty mb v :=
  (hg.block pb (lt_of_heap h) (by simpa using hne)).trans h

set_option maxRecDepth 100000 in
set_option maxHeartbeats 1600000 in
theorem of_any (ty : List UInt8) (hv : Value) (hs : Hdrs) (q : Option Addr) (bl bc : Nat) (w : World) (hH : Hd w hv hs) (hnl : hs.length ≤ 4294967296) (hkl : ∀ p ∈ hs, p.1.length ≤ 140737488355328 ∧ p.2.length ≤ 140737488355328) :
    Calls Tryd.prog 16 #[.agg #[.string (bs ty), hv, .slice q bl bc]] w fun e w' => e = .returned (.pointer (some ⟨w.heap.size + 2, 0, none⟩)) ∧ PB w' (w.heap.size + 2) ty (w.heap.size + 1) (.slice q bl bc) ∧ HM w' (w.heap.size + 1) hs ∧ Below w.heap.size w w' := by
  have hmm := @run_makeMap Tryd.prog
  obtain ⟨p, cap, rfl, hlc, hc⟩ := hH
  have HC := hide hc
  have HK := hide hkl
  have hn63 : hs.length ≤ 9223372036854775807 := by omega
  have HNL := hide hnl
  clear hc hkl hlc hnl
  have H0 : Hid ((((w.alloc (.cells #[.string (bs ty), .slice p hs.length cap, .slice q bl bc] 32)).alloc (.map #[] 0)).alloc (.cells #[.string (bs ty), .map (some (w.heap.size + 1)), .slice q bl bc] 47)).ownsMap Tryd.prog 9 (plainElem (H := Unit) Tryd.prog 9) (w.heap.size + 1) 0 (.map []) ∧
      PB (((w.alloc (.cells #[.string (bs ty), .slice p hs.length cap, .slice q bl bc] 32)).alloc (.map #[] 0)).alloc (.cells #[.string (bs ty), .map (some (w.heap.size + 1)), .slice q bl bc] 47)) (w.heap.size + 2) ty (w.heap.size + 1) (.slice q bl bc) ∧
      Below w.heap.size w (((w.alloc (.cells #[.string (bs ty), .slice p hs.length cap, .slice q bl bc] 32)).alloc (.map #[] 0)).alloc (.cells #[.string (bs ty), .map (some (w.heap.size + 1)), .slice q bl bc] 47))) := by
    refine ⟨?_, ?_, balloc (balloc (balloc (Below.refl _ _) _) _) _⟩
    · have h := World.ownsMap_made (w.alloc (.cells #[.string (bs ty), .slice p hs.length cap, .slice q bl bc] 32)) Tryd.prog 9 (plainElem (H := Unit) Tryd.prog 9)
      rw [World.size_alloc] at h
      exact h.alloc _
    · have h := heap_new ((w.alloc (.cells #[.string (bs ty), .slice p hs.length cap, .slice q bl bc] 32)).alloc (.map #[] 0)) (.cells #[.string (bs ty), .map (some (w.heap.size + 1)), .slice q bl bc] 47)
      rw [World.size_alloc, World.size_alloc] at h
      exact h
  go_enter Tryd.func16, Tryd.ntmps16
  go_wp2_with fail
  go_loopw [16] (fun vi wr => ∃ (k : Nat) (D : DataW Unit), k ≤ hs.length ∧ vi = .int .i64 (k : Int) ∧ wr.ownsMap Tryd.prog 9 (plainElem Tryd.prog 9) (w.heap.size + 1) k D ∧ Hid (MapIs D (hs.take k)) ∧ PB wr (w.heap.size + 2) ty (w.heap.size + 1) (.slice q bl bc) ∧ Below w.heap.size w wr) (fun vi _ => hs.length - (intOf vi).toNat)
  case atStart => exact ⟨0, _, Nat.zero_le _, rfl, (unhide H0).1, mapIs_empty, (unhide H0).2.1, (unhide H0).2.2⟩
  case round =>
    clear H0
    obtain ⟨k, D, hk, rfl, hown, HD, hP, hb⟩ := hrel
    have c1 : wr.cell? ⟨w.heap.size + 1 + 1, 1, none⟩ = some (.map (some (w.heap.size + 1))) := hP.c1
    by_cases hlt : k < hs.length
    · obtain ⟨x, hx⟩ : ∃ x, hs[k]? = some x := ⟨_, List.getElem?_eq_getElem hlt⟩
      obtain ⟨b, o, rfl, hcell⟩ := unhide HC (by rintro rfl; simp at hlt)
      obtain ⟨h1, h2⟩ := hcell k x hx
      have hk1 : wr.cell? ⟨b, o + k * 2, none⟩ = some (.string (bs x.1)) := by rw [hb.cell (p := ⟨b, _, none⟩) (World.block_lt_of_cell? w _ h1)]; exact h1
      have hk2 : wr.cell? ⟨b, o + k * 2 + 1, none⟩ = some (.string (bs x.2)) := by rw [hb.cell (p := ⟨b, _, none⟩) (World.block_lt_of_cell? w _ h2)]; exact h2
      obtain ⟨xl1, xl2⟩ := unhide HK x (List.mem_of_getElem? hx)
      have hkey := key_bs (l := x.1) (by unfold maxLen; omega)
      have HX := hide hx
      clear h1 h2 hcell hx
      have hkm : k < maxLen := by unfold maxLen; omega
      have hval := plainElem_string (H := Unit) Tryd.underlying9 (s := bs x.2) (by rw [bs_size]; unfold maxLen; omega)
      have HB := hide (And.intro hP hb)
      have hA1 : (wr.alloc (.cells #[.string (bs x.1), .string (bs x.2)] 49)).cell? ⟨w.heap.size + 1 + 1, 1, none⟩ = some (.map (some (w.heap.size + 1))) := by
        rw [World.cell?_of_block (w := wr) (Below.heap_alloc _ _ _ (World.block_lt_of_cell? _ _ c1))]; exact c1
      have hA2 : (wr.alloc (.cells #[.string (bs x.1), .string (bs x.2)] 49)).cell? ⟨wr.heap.size, 0, none⟩ = some (.string (bs x.1)) := by rw [cell_of_heap (heap_new wr _)]; rfl
      have hA3 : (wr.alloc (.cells #[.string (bs x.1), .string (bs x.2)] 49)).cell? ⟨wr.heap.size, 1, none⟩ = some (.string (bs x.2)) := by rw [cell_of_heap (heap_new wr _)]; rfl
      have hownA : (wr.alloc (.cells #[.string (bs x.1), .string (bs x.2)] 49)).ownsMap Tryd.prog 9 (plainElem Tryd.prog 9) (w.heap.size + 1) k D := hown.alloc _
      have hPA : PB (wr.alloc (.cells #[.string (bs x.1), .string (bs x.2)] 49)) (w.heap.size + 2) ty (w.heap.size + 1) (.slice q bl bc) := hP.below (balloc (Below.refl _ _) _)
      have hbA : Below w.heap.size w (wr.alloc (.cells #[.string (bs x.1), .string (bs x.2)] 49)) := balloc hb _
      clear hP hb xl1 xl2 c1 hown
      go_wp2_with fail
      generalize hWA : wr.alloc (.cells #[.string (bs x.1), .string (bs x.2)] 49) = wA at hA1 hA2 hA3 hownA hPA hbA ⊢
      clear hWA
      have HB := hide (And.intro hPA hbA)
      clear hPA hbA
      go_still_tail 8, (by kernel_rfl)
      change wpList _ _ _ _ _ wA.drew
      go_wp2_with (first
        | (at_mapUpdate; refine wpList_mapUpdate_own _ rfl _ _ _ 45 rfl 9 9 lawS Tryd.underlying45 _ (w.heap.size + 1) k D rfl hownA.drew hkm _ _ (.string x.1) rfl rfl hkey _ [] hval ?_; intro w1 hown1 hgrow1)
        | fail)
      have hD2 : MapIs (D.put (.string x.1) (.lit (.string x.2))) (hs.take (k + 1)) := by
        rw [List.take_add_one, unhide HX]
        exact (unhide HD).put x.1 x.2
      have hown2 : w1.ownsMap Tryd.prog 9 (plainElem Tryd.prog 9) (w.heap.size + 1) (k + 1) (D.put (.string x.1) (.lit (.string x.2))) := hown1
      have hP2 : PB w1 (w.heap.size + 2) ty (w.heap.size + 1) (.slice q bl bc) := PB.setMap (w := wA.drew) (unhide HB).1 hgrow1 (by omega)
      have hb2 : Below w.heap.size w w1 := (below_drewN (unhide HB).2 1).grown hgrow1 (unhide HB).2.size (fun j hj => by cases hj; omega)
      refine ⟨⟨k + 1, _, by omega, by go_num, hown2, hD2, hP2, hb2⟩, ?_⟩
      simp [intOf]; omega
    · have hke : k = hs.length := by omega
      subst hke
      have HR : Hid (PB wr (w.heap.size + 2) ty (w.heap.size + 1) (.slice q bl bc) ∧ HM wr (w.heap.size + 1) hs ∧ Below w.heap.size w wr) := by
        have hD := unhide HD
        rw [List.take_length] at hD
        exact ⟨hP, ⟨_, D, Nat.le_refl _, hown, hD⟩, hb⟩
      clear hown HD hP hb hlt
      go_wp2
      go_ret
      exact ⟨rfl, unhide HR⟩

theorem noColon_iff (hs : Hdrs) : anyColon hs = false ↔ ∀ k ∈ hkeys hs, hasColon k = false := by
  unfold anyColon
  rw [List.any_eq_false]
  constructor
  · intro h k hk
    obtain ⟨p, hp, e⟩ := List.mem_map.1 (hkeys_mem.1 hk)
    have := h p hp
    unfold hasColon
    rw [← e]
    simpa using this
  · intro h p hp
    have := h p.1 (hkeys_mem.2 (List.mem_map.2 ⟨p, hp, rfl⟩))
    unfold hasColon at this
    simpa using this

theorem buf_ahead (b : Nat) (w : World) : (nilAhead methFuel 71 (.pointer (some ⟨b, 0, none⟩)) "Write").run Tryd.prog w = .ok (some false) w := by kernel_rfl

/-- What EncodeToMemory gives. -/
def MemPost (ty : List UInt8) (hs : Hdrs) (d : List UInt8) (w : World) (e : Ending) (w' : World) : Prop :=
  Below w.heap.size w w' ∧ ((anyColon hs = true ∧ e = .returned (.slice none 0 0)) ∨ (anyColon hs = false ∧ ∃ g cap : Nat, e = .returned (.slice (some ⟨g, 0, none⟩) (pemOut ty hs d).length cap) ∧ Sl w' (.slice (some ⟨g, 0, none⟩) (pemOut ty hs d).length cap) (pemOut ty hs d)))

theorem pemOut_ne (ty : List UInt8) (hs : Hdrs) (d : List UInt8) : 0 < (pemOut ty hs d).length := by
  have := part_lens ty hs d; omega

set_option maxRecDepth 100000 in
set_option maxHeartbeats 1600000 in
theorem pemMem_any (pb mb bc : Nat) (p : Option Addr) (ty d : List UInt8) (hs : Hdrs) (w : World) (hP : PB w pb ty mb (.slice p d.length bc)) (hM : HM w mb hs) (hS : Sl w (.slice p d.length bc) d)
   (hbc : bc ≤ 9223372036854775807) (hkl : ∀ p ∈ hs, p.1.length ≤ 140737488355328) (hnl : hs.length ≤ 4294967296) (hsz : anyColon hs = false → (pemOut ty hs d).length + 8 * d.length ≤ 17592186044416) :
    Calls Tryd.prog 15 #[.pointer (some ⟨pb, 0, none⟩)] w (MemPost ty hs d w) := by
  have hlp : pb < w.heap.size := lt_of_heap hP
  have hlm := hM.lt
  have hb1 : Below w.heap.size w (w.alloc (.cells #[.slice none 0 0, .int .i64 0, .int .i8 0] 69)) := balloc (Below.refl _ _) _
  have hP1 := hP.below hb1
  have hM1 := hM.below hb1
  have hS1 := hS.below hb1
  have HB1 := hide hb1
  cases hc : anyColon hs with
  | true =>
    have hcol : ∃ k ∈ hkeys hs, hasColon k = true := by
      rcases Classical.em (∃ k ∈ hkeys hs, hasColon k = true) with h | h
      · exact h
      · have : anyColon hs = false := (noColon_iff hs).2 (fun k hk => by
          cases hq : hasColon k with
          | false => rfl
          | true => exact absurd ⟨k, hk, hq⟩ h)
        rw [this] at hc; cases hc
    have hcall := hide (encode_colon 71 (.pointer (some ⟨w.heap.size, 0, none⟩)) pb mb ty _ hs _ hP1 hM1 hkl hcol)
    have HC := hide hc
    clear hP1 hM1 hS1 hcol hc hsz hkl hS hP hM hb1
    go_enter Tryd.func15, Tryd.ntmps15
    go_wp2_with fail
    refine (unhide hcall).mono ?_
    rintro e w2 ⟨b, rfl, hb2⟩
    have HB2 : Hid (Below w.heap.size w w2) := bstep (unhide HB1) hb2
    clear hb2 hcall HB1
    go_wp2_with fail
    go_ret
    exact ⟨unhide HB2, .inl ⟨unhide HC, rfl⟩⟩
  | false =>
    have hx : ∃ sb so, (d ≠ [] → p = some ⟨sb, so, none⟩) ∧ Src w sb so d ∧ sb < w.heap.size ∧ d.length ≤ bc := by
      obtain ⟨q, cap, e1, e2, e3⟩ := hS
      injection e1 with e4 e5 e6
      subst e4; subst e6
      by_cases h0 : d = []
      · exact ⟨pb, 0, fun h => absurd h0 h, by rw [h0]; exact Src.nil _ _ _, hlp, e2⟩
      · obtain ⟨sb, so, rfl, hcell⟩ := e3 h0
        obtain ⟨x, hx0⟩ : ∃ x, d[0]? = some x := ⟨_, List.getElem?_eq_getElem (List.length_pos_iff.2 h0)⟩
        exact ⟨sb, so, fun _ => rfl, hcell, World.block_lt_of_cell? w _ (hcell 0 x hx0), e2⟩
    obtain ⟨sb, so, x1, x2, x3, x4⟩ := hx
    have hW := bufOK w.heap.size w.heap.size (Nat.le_refl _)
    have hI : (bufWr w.heap.size w.heap.size).Inv [] (w.alloc (.cells #[.slice none 0 0, .int .i64 0, .int .i8 0] 69)) := Lib.fresh_isBuffer 69 5 w
    have hcall := hide (encode_main sortOK (bufWr w.heap.size w.heap.size) hW (buf_ahead _) pb mb sb so bc p ty [] d hs _ hI hP1 hM1 (by show pb ≠ w.heap.size; omega) (by show mb ≠ w.heap.size; omega) x1 (x2.below hb1 x3) x3 x4 hbc hkl hnl ((noColon_iff hs).1 hc) (by have := hsz hc; simp; omega))
    have HC := hide hc
    have hpos := hide (pemOut_ne ty hs d)
    have HSZ := hide (hsz hc)
    clear hP1 hM1 hS1 hc hsz hkl hS hP hM hb1 x1 x2 x3 x4 hI hW
    go_enter Tryd.func15, Tryd.ntmps15
    go_wp2_with fail
    refine (unhide hcall).mono ?_
    rintro e w2 ⟨ev, rfl, hF2, hR2⟩
    rcases hR2 with ⟨-, rfl, hI2⟩ | ⟨hno, -⟩
    · have HB2 : Hid (Below w.heap.size w w2) := (unhide HB1).trans hF2.1
      rw [List.nil_append] at hI2
      have hI3 : Lib.IsBuffer 69 5 w.heap.size w.heap.size ((pemOut ty hs d).map bv) w2 := hI2
      have hby := hide (Tryd.Buffer_Bytes w.heap.size w.heap.size ((pemOut ty hs d).map bv) w2 hI3)
      clear hI3 hI2 hF2 hcall HB1
      go_wp2_with fail
      refine (unhide hby).mono ?_
      rintro e w3 ⟨v3, rfl, hown, n3, rfl⟩
      have hfin : Hid (∃ g cap : Nat, v3 = .slice (some ⟨g, 0, none⟩) (pemOut ty hs d).length cap ∧ Sl (w2.drewN n3) v3 (pemOut ty hs d)) := by
        have hsl := Sl.of_owns hown
        rcases hown.2 with ⟨rfl, h0⟩ | ⟨g, cap, cur, rfl, _, hg, hc, _, _, ht⟩
        · have := unhide hpos
          rw [List.length_map] at h0; omega
        · refine ⟨g, cap, ?_, hsl⟩
          rw [List.length_map]
      have HB3 := hide (below_drewN (unhide HB2) n3)
      clear hown HB2 hby
      obtain ⟨g, cap, rfl, e2⟩ := unhide hfin
      have HE2 := hide e2
      clear e2 hfin
      go_wp2
      go_ret
      exact ⟨unhide HB3, .inr ⟨unhide HC, g, cap, rfl, unhide HE2⟩⟩
    · exact absurd (fun m hm => by cases hm) hno

set_option maxRecDepth 100000 in
set_option maxHeartbeats 1600000 in
theorem mem_any (ty d : List UInt8) (hv bv : Value) (hs : Hdrs) (w : World) (hH : Hd w hv hs) (hS : Sl w bv d) (hbc : ∀ p n c, bv = .slice p n c → c ≤ 9223372036854775807)
   (hkl : ∀ p ∈ hs, p.1.length ≤ 140737488355328 ∧ p.2.length ≤ 140737488355328) (hnl : hs.length ≤ 4294967296) (hsz : anyColon hs = false → (pemOut ty hs d).length + 8 * d.length ≤ 17592186044416) :
    Calls Tryd.prog 12 #[.agg #[.string (bs ty), hv, bv]] w fun e w' => Below w.heap.size w w' ∧ ((anyColon hs = true ∧ e = .returned (.tuple #[.slice none 0 0, .bool true])) ∨ (anyColon hs = false ∧ ∃ v', e = .returned (.tuple #[v', .bool false]) ∧ Sl w' v' (pemOut ty hs d))) := by
  obtain ⟨q, bc, rfl, hlc, hcell⟩ := hS
  have hS : Sl w (.slice q d.length bc) d := ⟨q, bc, rfl, hlc, hcell⟩
  have hbc := hbc _ _ _ rfl
  have hb0 : Below w.heap.size w (w.alloc (.cells #[.string (bs ty), hv, .slice q d.length bc] 32)) := balloc (Below.refl _ _) _
  have hof := hide (of_any ty hv hs q d.length bc _ (hH.below hb0) hnl hkl)
  obtain ⟨p0, cap0, rfl, _⟩ := hH
  have HS := hide hS
  have HB0 := hide hb0
  have HK := hide hkl
  have HSZ := hide hsz
  have HNL := hide hnl
  have q22 : ∀ (w : World) (a : Option Addr) (n c n' c' : Nat), (binOp .eql 22 (.slice a n c) (.slice none n' c')).run Tryd.prog w = .ok (.bool a.isNone) w := fun w a n c n' c' => Lib.run_eql_slice_nil w _ _ a n c n' c' Tryd.underlying22
  clear hS hb0 hkl hsz hcell hlc hnl
  go_enter Tryd.func12, Tryd.ntmps12
  go_wp2_with fail
  rw [World.size_alloc] at hof
  refine (unhide hof).mono ?_
  rintro e w1 ⟨rfl, hP, hM, hb1⟩
  have hS1 := ((unhide HS).below (unhide HB0)).below (w' := w1) (by rw [World.size_alloc]; exact hb1)
  have HB1 : Hid (Below w.heap.size w w1) := (unhide HB0).trans (hb1.mono (by omega))
  have hmem := hide (pemMem_any _ _ bc q ty d hs w1 hP hM hS1 hbc (fun p hp => (unhide HK p hp).1) (unhide HNL) (unhide HSZ))
  clear hP hM hb1 hS1 hof HB0 HS HK HSZ HNL
  go_wp2_with fail
  refine (unhide hmem).mono ?_
  rintro e w2 ⟨hb2, hcase⟩
  have HB2 : Hid (Below w.heap.size w w2) := bstep (unhide HB1) hb2
  rcases hcase with ⟨hc, rfl⟩ | ⟨hc, g, cap, rfl, hsl⟩
  · have HC := hide hc
    clear hc hb2 hmem HB1
    go_wp2_with fail
    go_ret2
    exact ⟨unhide HB2, .inl ⟨unhide HC, rfl⟩⟩
  · have HC := hide hc
    have HSL := hide hsl
    clear hc hb2 hmem HB1 hsl
    go_wp2_with fail
    go_ret2
    exact ⟨unhide HB2, .inr ⟨unhide HC, _, rfl, unhide HSL⟩⟩
end Go.Proofs.YtpjehmblndjknaaDoor

namespace Go.Proofs.YtpjehmblndjknaaDoor
open Go.RowKit Go.Maps
set_option linter.unusedSimpArgs false
set_option linter.unusedVariables false

def worksOut : List UInt8 := [45, 45, 45, 45, 45, 66, 69, 71, 73, 78, 32, 65, 45, 45, 45, 45, 45, 10, 45, 45, 45, 45, 45, 69, 78, 68, 32, 65, 45, 45, 45, 45, 45, 10]
theorem works_out : pemOut [65] [] [] = worksOut := by
  unfold pemOut headOut
  rw [if_pos rfl, show lines64 (b64 []) = [] by rw [show b64 [] = [] from rfl, lines64, dif_neg (by simp), if_pos rfl]]
  rfl

set_option maxRecDepth 100000 in
set_option maxHeartbeats 800000 in
theorem works_any (w : World) : Calls Tryd.prog 8 #[] w fun e w' => e = .returned (.bool true) ∧ Below w.heap.size w w' := by
  have hcall := hide (mem_any [65] [] (.slice none 0 0) (.slice none 0 0) [] w (Hd.nil w) (Sl.nil w) (fun p n c h => by injection h with _ _ h3; omega) (fun p hp => by cases hp) (by decide) (fun _ => by rw [works_out]; decide))
  go_enter Tryd.func8, Tryd.ntmps8
  go_wp2_with fail
  refine (unhide hcall).mono ?_
  rintro e w1 ⟨hb1, hcase⟩
  rcases hcase with ⟨hc, -⟩ | ⟨-, v', rfl, hsl⟩
  · cases hc
  · rw [works_out] at hsl
    have hk1 : (convert 22 9 v').run Tryd.prog w1 = .ok (.string ⟨worksOut.toArray⟩) w1 := conv_sl2 hsl w1 (Below.refl _ _)
    have HB := hide hb1
    unfold worksOut at hk1
    clear hsl hb1 hcall
    go_wp2
    go_ret
    exact ⟨rfl, unhide HB⟩

end Go.Proofs.YtpjehmblndjknaaDoor

namespace Go.Proofs.YtpjehmblndjknaaDoor
open Go.RowKit Go.Maps
set_option linter.unusedSimpArgs false
set_option linter.unusedVariables false

def hcells (hs : Hdrs) : List Value := hs.flatMap fun p => [.string (bs p.1), .string (bs p.2)]
theorem hcells_len (hs : Hdrs) : (hcells hs).length = hs.length * 2 := by
  induction hs with
  | nil => rfl
  | cons p l ih => show ([_, _] ++ hcells l).length = _; rw [List.length_append, ih, List.length_cons]; simp; omega
theorem hcells_snoc (hs : Hdrs) (k v : List UInt8) : hcells (hs ++ [(k, v)]) = hcells hs ++ [.string (bs k), .string (bs v)] := by
  unfold hcells; rw [List.flatMap_append]; rfl
theorem hcells_one {hs : Hdrs} : ∀ u ∈ hcells hs, u.oneCell' = true := by
  intro u hu
  unfold hcells at hu
  rw [List.mem_flatMap] at hu
  obtain ⟨p, _, hp⟩ := hu
  simp only [List.mem_cons, List.not_mem_nil, or_false] at hp
  rcases hp with rfl | rfl <;> rfl
theorem hcells_even : ∀ (hs : Hdrs) (i : Nat), (hcells hs)[i * 2]? = (hs[i]?).map fun p => .string (bs p.1)
  | [], i => by simp [hcells]
  | p :: l, 0 => rfl
  | p :: l, i + 1 => by
    have e : (i + 1) * 2 = i * 2 + 1 + 1 := by omega
    rw [e]
    show (hcells l)[i * 2]? = _
    rw [hcells_even l i]; rfl
theorem hcells_odd : ∀ (hs : Hdrs) (i : Nat), (hcells hs)[i * 2 + 1]? = (hs[i]?).map fun p => .string (bs p.2)
  | [], i => by simp [hcells]
  | p :: l, 0 => rfl
  | p :: l, i + 1 => by
    have e : (i + 1) * 2 + 1 = i * 2 + 1 + 1 + 1 := by omega
    rw [e]
    show (hcells l)[i * 2 + 1]? = _
    rw [hcells_odd l i]; rfl

/-- What a slice of headers holds, cell by cell. -/
theorem Hd.cells {w : World} {v : Value} {hs : Hdrs} (h : Hd w v hs) : ∃ (p : Option Addr) (cap : Nat), v = .slice p hs.length cap ∧ ((p = none ∧ cap = 0 ∧ hs = []) ∨ ∃ a, p = some a ∧ ∀ (j : Nat) u, (hcells hs)[j]? = some u → w.cell? (a.add j) = some u) := by
  obtain ⟨p, cap, hv, ⟨hl, hn⟩, hc⟩ := h
  refine ⟨p, cap, hv, ?_⟩
  by_cases h0 : hs = []
  · cases p with
    | none => exact .inl ⟨rfl, hn rfl, h0⟩
    | some a => exact .inr ⟨a, rfl, fun j u hu => by rw [h0] at hu; simp [hcells] at hu⟩
  · obtain ⟨b, o, rfl, hcell⟩ := hc h0
    refine .inr ⟨_, rfl, fun j u hu => ?_⟩
    rw [addr_add]
    have hj : j < hs.length * 2 := by rw [← hcells_len]; exact (List.getElem?_eq_some_iff.1 hu).1
    have hi : j / 2 < hs.length := by omega
    obtain ⟨h1, h2⟩ := hcell (j / 2) _ (List.getElem?_eq_getElem hi)
    by_cases he : j % 2 = 0
    · have e : j = j / 2 * 2 := by omega
      have hu2 : (hcells hs)[j / 2 * 2]? = some u := by rw [← e]; exact hu
      rw [hcells_even, List.getElem?_eq_getElem hi] at hu2
      have e3 := Option.some.inj hu2
      rw [e, ← e3]; exact h1
    · have e : j = j / 2 * 2 + 1 := by omega
      have hu2 : (hcells hs)[j / 2 * 2 + 1]? = some u := by rw [← e]; exact hu
      rw [hcells_odd, List.getElem?_eq_getElem hi] at hu2
      have e3 := Option.some.inj hu2
      rw [e, ← e3, ← Nat.add_assoc]; exact h2
theorem Hd.of_owns {w : World} {base : Nat} {T : TypeId} {v : Value} {n : Nat} {hs : Hdrs} (h : w.ownsRow base T 2 v n (hcells hs)) : Hd w v hs := by
  obtain ⟨h1, h2⟩ := h
  have hn : n = hs.length := by rw [hcells_len] at h1; omega
  rcases h2 with ⟨rfl, h0⟩ | ⟨g, cap, cur, rfl, _, hg, hc, _, _, ht⟩
  · obtain rfl : hs = [] := List.eq_nil_of_length_eq_zero (by omega)
    exact Hd.nil w
  · subst hn
    refine ⟨_, cap, rfl, ⟨hc, fun h => by cases h⟩, fun _ => ⟨g, 0, rfl, fun i x hx => ?_⟩⟩
    have hi : i < hs.length := (List.getElem?_eq_some_iff.1 hx).1
    have key : ∀ (j : Nat) u, (hcells hs)[j]? = some u → w.cell? ⟨g, 0 + j, none⟩ = some u := by
      intro j u hu
      rw [cell_of_heap hg, Nat.zero_add, ← Array.getElem?_toList]
      rw [← ht, List.getElem?_take] at hu
      split at hu
      · exact hu
      · cases hu
    exact ⟨key (i * 2) _ (by rw [hcells_even, hx]; rfl), key (i * 2 + 1) _ (by rw [hcells_odd, hx]; rfl)⟩

theorem ownsRow_setCell {w : World} {base n size : Nat} {e : TypeId} {v : Value} {xs : List Value} (h : w.ownsRow base e size v n xs) {b : Nat} (hb : b < base) (i : Nat) (u : Value) : (w.setCell ⟨b, i, none⟩ u).ownsRow base e size v n xs := by
  refine ⟨h.1, ?_⟩
  rcases h.2 with h2 | ⟨g, cap, cur, rfl, hbase, hg, r⟩
  · exact .inl h2
  · exact .inr ⟨g, cap, cur, rfl, hbase, (Below.heap_setCell _ _ _ _ (fun e => by have e2 : g = b := e; omega)).trans hg, r⟩
theorem infoH : (Tryd.prog.info? 49).map (fun i => (i.zero, i.size, i.bytes)) = some (some (.agg #[.string ⟨#[]⟩, .string ⟨#[]⟩]), 2, 32) := by kernel_rfl

/-- append(v0, u...), v0 of the call's own, u a slice of headers, from wherever. -/
theorem append_hd (t e : TypeId) (ht : Tryd.prog.underlying t = some (.slice e)) (he : (Tryd.prog.info? e).map (fun i => (i.zero, i.size, i.bytes)) = some (some (.agg #[.string ⟨#[]⟩, .string ⟨#[]⟩]), 2, 32)) (ty : TypeId) {w w0 : World} {base n0 : Nat} {v0 u : Value} {hs0 hs : Hdrs}
    (hown : w.ownsRow base e 2 v0 n0 (hcells hs0)) (hu : Hd w u hs) (hsz : n0 + hs.length ≤ 4294967297) (hbase : base ≤ w.heap.size) :
    ∃ v' w', (Builtin.append_ #[t, t] ty #[v0, u]).run Tryd.prog w = .ok v' w' ∧ w'.ownsRow base e 2 v' (n0 + hs.length) (hcells (hs0 ++ hs)) ∧ w.grownBy w' v0.ownBlock := by
  obtain ⟨i, hi, h1, h2, h3⟩ := info_parts he
  obtain ⟨p, cap, rfl, hc⟩ := hu.cells
  have happ : hcells (hs0 ++ hs) = hcells hs0 ++ hcells hs := by unfold hcells; rw [List.flatMap_append]
  rcases hc with ⟨rfl, rfl, rfl⟩ | ⟨a, rfl, hcell⟩
  · refine ⟨v0, w, run_append_owned_none w base t ty e i 2 ht hi v0 n0 _ hown, ?_, ⟨rfl, rfl, rfl, Nat.le_refl _, fun _ _ _ => rfl⟩⟩
    simpa using hown
  · obtain ⟨v', w', r1, r2, r3, _⟩ := run_append_own (P := Tryd.prog) (w := w) base t ty e i _ 2 32 ht hi h1 h2 h3 rfl (by decide) v0 n0 _ hown a hs.length cap (hcells hs) (hcells_len hs) hcell hcells_one (by unfold maxLen; omega) (by omega) hbase
    exact ⟨v', w', r1, by rw [happ]; exact r2, r3⟩
/-- append(v0, {k, v}): one header behind. -/
theorem append_hd1 (t e : TypeId) (ht : Tryd.prog.underlying t = some (.slice e)) (he : (Tryd.prog.info? e).map (fun i => (i.zero, i.size, i.bytes)) = some (some (.agg #[.string ⟨#[]⟩, .string ⟨#[]⟩]), 2, 32)) (ty : TypeId) {w : World} {base n0 : Nat} {v0 : Value} {hs0 : Hdrs} (k v : List UInt8)
    (hown : w.ownsRow base e 2 v0 n0 (hcells hs0)) (hsz : n0 + 1 ≤ 4294967297) (hbase : base ≤ w.heap.size) (T : TypeId) :
    ∃ v' w', (Builtin.append_ #[t, t] ty #[v0, .slice (some ⟨w.heap.size, 0, none⟩) 1 1]).run Tryd.prog (w.alloc (.cells #[.string (bs k), .string (bs v)] T)) = .ok v' w' ∧ w'.ownsRow base e 2 v' (n0 + 1) (hcells (hs0 ++ [(k, v)])) ∧ (w.alloc (.cells #[.string (bs k), .string (bs v)] T)).grownBy w' v0.ownBlock := by
  have hH : Hd (w.alloc (.cells #[.string (bs k), .string (bs v)] T)) (.slice (some ⟨w.heap.size, 0, none⟩) 1 1) [(k, v)] := by
    refine ⟨_, 1, rfl, ⟨Nat.le_refl _, fun h => by cases h⟩, fun _ => ⟨w.heap.size, 0, rfl, fun i x hx => ?_⟩⟩
    match i, hx with
    | 0, hx =>
      simp at hx
      subst hx
      exact ⟨by rw [cell_of_heap (heap_new w _)]; rfl, by rw [cell_of_heap (heap_new w _)]; rfl⟩
    | i + 1, hx => simp at hx
  exact append_hd (w0 := w) t e ht he ty (hown.alloc _) hH hsz (by rw [World.size_alloc]; omega)

/-- append as one step of a region that draws, its run known by an equation. -/
theorem step_append_run {P : Program} {ops : Array Oper} {o : Oper} {a : Act} {w : World} {K : Act → World → Prop} {Q : Exit → Act → World → Prop} {E : Prop}
    (hg : o.guard = none) (s x : Operand) (t : TypeId) (hop : o.op = Op.call { callee := Callee.builtin Builtin.append, args := #[s, x], argTypes := #[t, t] })
    (v u : Value) (hs : a.eval s = v) (hx : a.eval x = u) {v' : Value} {w' : World} (hr : (Builtin.append_ #[t, t] o.type #[v, u]).run P w = .ok v' w')
    (hK : K (a.put o.dst v') w') : if Region.wanted o (yielded ops a.tmps) = true then Oper.wp P o a w K Q else E := by
  have hw : Region.wanted o (yielded ops a.tmps) = true := by simp [Region.wanted, hg]
  rw [if_pos hw]
  unfold Oper.wp
  simp [execOp, hop, resolve, invoke, builtin, hs, hx, hr, Result.andThen]
  exact hK
end Go.Proofs.YtpjehmblndjknaaDoor

namespace Go.Proofs.YtpjehmblndjknaaDoor
set_option linter.unusedSimpArgs false
set_option linter.unusedVariables false

/-- ls: the headers of a map that was filled from hs, in whatever order. -/
def OfMap (hs ls : Hdrs) : Prop := (ls.map (·.1)).Nodup ∧ ∀ p, p ∈ ls ↔ hget hs p.1 = some p.2
theorem OfMap.mem {hs ls : Hdrs} (h : OfMap hs ls) {p : List UInt8 × List UInt8} (hp : p ∈ ls) : p ∈ hs := hget_mem ((h.2 p).1 hp)
theorem OfMap.perm {hs ls : Hdrs} (h : OfMap hs ls) (hn : (hs.map (·.1)).Nodup) : ls.Perm hs := by
  refine (List.perm_ext_iff_of_nodup (nodup_of_map h.1) (nodup_of_map hn)).2 fun p => ?_
  rw [h.2 p]
  exact ⟨fun e => hget_mem e, fun e => hget_of_nodup hn (by cases p; exact e)⟩
theorem OfMap.wperm {hs ls : Hdrs} (h : OfMap (wlist hs) ls) (hn : (hs.map (·.1)).Nodup) : ls.Perm hs := (h.perm (wlist_keys_nodup hs)).trans (wlist_perm hn)
theorem OfMap.same {hs ls : Hdrs} (h : OfMap (wlist hs) ls) (hn : (hs.map (·.1)).Nodup) : sameH ls hs = true := sameH_perm (h.wperm hn)
theorem OfMap.len {hs ls : Hdrs} (h : OfMap hs ls) : ls.length ≤ hs.length := by
  have h1 : (ls.map (·.1)).Perm (hkeys hs) := (List.perm_ext_iff_of_nodup h.1 (hkeys_nodup hs)).2 fun k => by
    rw [hkeys_mem]
    constructor
    · intro hk
      obtain ⟨p, hp, rfl⟩ := List.mem_map.1 hk
      exact List.mem_map.2 ⟨p, h.mem hp, rfl⟩
    · intro hk
      obtain ⟨v, hv⟩ := Option.isSome_iff_exists.1 (hget_isSome.2 hk)
      exact List.mem_map.2 ⟨(k, v), (h.2 (k, v)).2 hv, rfl⟩
  have h2 := h1.length_eq
  rw [List.length_map] at h2
  rw [h2]; exact hkeys_len hs
theorem plainH_of {ty d : List UInt8} {hs : Hdrs} (h : properB ty hs d = true) : plainS ty = true ∧ PlainH (wlist hs) ∧ (hs.map (·.1)).Nodup := by
  unfold properB hdrsOK at h
  simp only [Bool.and_eq_true, List.all_eq_true, decide_eq_true_eq] at h
  obtain ⟨⟨⟨h1, _⟩, _⟩, h4, h5⟩ := h
  exact ⟨h1, fun p hp => h4 p ((wlist_perm h5).mem_iff.1 hp), h5⟩

/-! ### Lengths by the bulk -/
theorem bulk_perm {a b : Hdrs} (h : a.Perm b) : bulk a = bulk b := by
  induction h with
  | nil => rfl
  | cons x _ ih => rw [bulk, bulk, ih]
  | swap x y l => simp only [bulk]; omega
  | trans _ _ h1 h2 => exact h1.trans h2
theorem bulk_sub : ∀ (ls hs : Hdrs), ls.Nodup → (∀ p ∈ ls, p ∈ hs) → bulk ls ≤ bulk hs
  | [], hs, _, _ => Nat.zero_le _
  | p :: l, hs, hn, h => by
    have h1 := List.perm_cons_erase (h p (List.mem_cons_self ..))
    rw [bulk_perm h1, bulk, bulk]
    have h2 := bulk_sub l (hs.erase p) (List.nodup_cons.1 hn).2 (fun q hq => by
      have h3 : q ≠ p := by rintro rfl; exact (List.nodup_cons.1 hn).1 hq
      exact (List.mem_erase_of_ne h3).2 (h q (List.mem_cons_of_mem _ hq)))
    omega
theorem ofMap_bulk {hs ls : Hdrs} (h : OfMap hs ls) : bulk ls ≤ bulk hs := bulk_sub ls hs (nodup_of_map h.1) (fun _ hp => h.mem hp)
theorem hlinesL_bulk : ∀ ls : Hdrs, (hlinesL ls).length ≤ 3 * bulk ls
  | [] => by simp [hlinesL]
  | p :: l => by
    have h1 := hlinesL_bulk l
    have e : hlinesL (p :: l) = headLine p.1 p.2 ++ hlinesL l := rfl
    have hll : (headLine p.1 p.2).length = p.1.length + (p.2.length + 3) := by unfold headLine; simp
    rw [e, List.length_append, hll, bulk]
    omega
theorem written_bulk {ty d : List UInt8} {ls : Hdrs} : (writtenP ty ls d).length ≤ 2 * ty.length + 3 * bulk ls + 4 * d.length + 60 := by
  have h1 := hlinesL_bulk ls
  have h2 := lines64_length _ (b64 d) (Nat.le_refl _)
  have e : writtenP ty ls d = begP ++ ty ++ (dashP ++ [10]) ++ hlinesL ls ++ (if ls = [] then [] else [10]) ++ lines64 (b64 d) ++ endP ++ ty ++ (dashP ++ [10]) := rfl
  have h3 : (if ls = [] then ([] : List UInt8) else [10]).length ≤ 1 := by split <;> simp
  have e1 : begP.length = 11 := rfl
  have e2 : endP.length = 9 := rfl
  have e3 : (dashP ++ [10]).length = 6 := rfl
  rw [b64_length] at h2
  rw [e]
  simp only [List.length_append] at e3 ⊢
  simp only [List.length_append, e1, e2]
  omega
theorem pemOut_bulk {ty d : List UInt8} {hs : Hdrs} : (pemOut ty hs d).length ≤ 2 * ty.length + 3 * bulk hs + 4 * d.length + 60 := by
  rw [pemOut_written]
  have h1 : bulk (wlist hs) ≤ bulk hs := bulk_sub _ _ (nodup_of_map (wlist_keys_nodup hs)) (fun _ hp => wlist_sub hp)
  have h2 := written_bulk (ty := ty) (d := d) (ls := wlist hs)
  omega
end Go.Proofs.YtpjehmblndjknaaDoor

namespace Go.Proofs.YtpjehmblndjknaaDoor
open Go.RowKit Go.Maps
set_option linter.unusedSimpArgs false
set_option linter.unusedVariables false

/-- What impl.Decode leaves. -/
def DecodePost (data : List UInt8) (v : Value) (w : World) (e : Ending) (w' : World) : Prop :=
  Below w.heap.size w w' ∧ ((Dec data none ∧ e = .returned (.tuple #[.agg #[.string ⟨#[]⟩, .slice none 0 0, .slice none 0 0], .bool false, v])) ∨
   ∃ (r : Res) (ls : Hdrs) (hv rv : Value) (q : Option Addr) (bc : Nat), Dec data (some r) ∧ e = .returned (.tuple #[.agg #[.string (bs r.ty), hv, .slice q r.by_.length bc], .bool true, rv]) ∧ OfMap r.hs ls ∧ Hd w' hv ls ∧ Sl w' (.slice q r.by_.length bc) r.by_ ∧ Sl w' rv r.rest ∧ bc ≤ 9223372036854775807)
def PemOK : Prop := ∀ (v : Value) (data : List UInt8) (w : World), Sl w v data → data.length ≤ 140737488351232 → Tabs w → Calls Tryd.prog 13 #[v] w (DecPost data v w)

/-- What has been collected: each header of the map that has come. -/
def Coll (D : DataW Unit) (hs : Hdrs) (left : Lit → Bool) (ls : Hdrs) : Prop := Collected D left (ls.map (·.1)) ∧ ∀ p ∈ ls, hget hs p.1 = some p.2
theorem Coll.start (D : DataW Unit) (hs : Hdrs) : Coll D hs (has D) [] := ⟨Collected.start D, fun _ h => by cases h⟩
theorem Coll.ofMap {D : DataW Unit} {hs ls : Hdrs} {left : Lit → Bool} (h : Coll D hs left ls) (hD : MapIs D hs) (hl : ∀ kl, left kl = false) : OfMap hs ls := by
  have hp := collected_keys hD h.1 hl
  refine ⟨hp.nodup_iff.2 (hkeys_nodup hs), fun p => ⟨h.2 p, fun hg => ?_⟩⟩
  have h1 : p.1 ∈ hkeys hs := hkeys_mem.2 (hget_isSome.1 (by rw [hg]; rfl))
  obtain ⟨q, hq, e⟩ := List.mem_map.1 (hp.mem_iff.2 h1)
  have h2 := h.2 q hq
  rw [e, hg] at h2
  have : q = p := Prod.ext e (Option.some.inj h2).symm
  rw [← this]; exact hq

/-- A struct of three cells is stored. -/
theorem store3 {w : World} {b : Nat} {x0 x1 x2 : Value} {T : TypeId} (h : w.heap[b]? = some (.cells #[x0, x1, x2] T (0, 0))) (y0 y1 y2 : Value) :
    (((w.setCell ⟨b, 0, none⟩ y0).setCell ⟨b, 1, none⟩ y1).setCell ⟨b, 2, none⟩ y2).heap[b]? = some (.cells #[y0, y1, y2] T (0, 0)) := by
  have s1 := heap_set_same h (i := 0) y0
  have s2 := heap_set_same s1 (i := 1) y1
  have s3 := heap_set_same s2 (i := 2) y2
  exact s3
theorem store3_below {B b : Nat} {w a : World} (h : Below B w a) (hb : B ≤ b) (y0 y1 y2 : Value) : Below B w (((a.setCell ⟨b, 0, none⟩ y0).setCell ⟨b, 1, none⟩ y1).setCell ⟨b, 2, none⟩ y2) :=
  ((h.setCell hb _).setCell hb _).setCell hb _
theorem store3_other {b k : Nat} {a : World} (hk : k ≠ b) (y0 y1 y2 : Value) : (((a.setCell ⟨b, 0, none⟩ y0).setCell ⟨b, 1, none⟩ y1).setCell ⟨b, 2, none⟩ y2).heap[k]? = a.heap[k]? :=
  (Below.heap_setCell _ _ _ _ hk).trans ((Below.heap_setCell _ _ _ _ hk).trans (Below.heap_setCell _ _ _ _ hk))
theorem cells3 {w : World} {b : Nat} {x0 x1 x2 : Value} {T : TypeId} (h : w.heap[b]? = some (.cells #[x0, x1, x2] T (0, 0))) : w.cell? ⟨b, 0, none⟩ = some x0 ∧ w.cell? ⟨b, 1, none⟩ = some x1 ∧ w.cell? ⟨b, 2, none⟩ = some x2 ∧ ∀ j, w.frozen? ⟨b, j, none⟩ = false :=
  ⟨by rw [cell_of_heap h]; rfl, by rw [cell_of_heap h]; rfl, by rw [cell_of_heap h]; rfl, fun j => frozen_of_heap h j⟩
/-- Bytes do not lie in a block whose cells are none. -/
theorem Sl.off {w w' : World} {v : Value} {l : List UInt8} {b : Nat} {x0 x1 x2 : Value} {T : TypeId} (h : Sl w v l) (hb : w.heap[b]? = some (.cells #[x0, x1, x2] T (0, 0))) (hx : (∀ z, x0 ≠ .int .u8 z) ∧ (∀ z, x1 ≠ .int .u8 z) ∧ ∀ z, x2 ≠ .int .u8 z) (hk : ∀ k, k < w.heap.size → k ≠ b → w'.heap[k]? = w.heap[k]?) : Sl w' v l := by
  obtain ⟨p, cap, hv, hl, hc⟩ := h
  refine ⟨p, cap, hv, hl, fun hne => ?_⟩
  obtain ⟨b', o, hp, hc⟩ := hc hne
  refine ⟨b', o, hp, fun i x hx2 => ?_⟩
  have h1 := hc i x hx2
  have hne2 : b' ≠ b := by
    rintro rfl
    rw [cell_of_heap hb] at h1
    match hq : o + i, h1 with
    | 0, h1 => exact hx.1 _ (Option.some.inj h1)
    | 1, h1 => exact hx.2.1 _ (Option.some.inj h1)
    | 2, h1 => exact hx.2.2 _ (Option.some.inj h1)
    | n + 3, h1 => cases h1
  rw [World.cell?_of_block (hk b' (World.block_lt_of_cell? w _ h1) hne2)]
  exact h1

set_option maxRecDepth 100000 in
set_option maxHeartbeats 4000000 in
theorem decode_any (hpem : PemOK) (v : Value) (data : List UInt8) (w : World) (hs : Sl w v data) (hl : data.length ≤ 140737488351232) (hT : Tabs w) (hH : ∀ r, Dec data (some r) → r.hs.length ≤ 4294967295) :
    Calls Tryd.prog 9 #[v] w (DecodePost data v w) := by
  have hb0 : Below w.heap.size w (w.alloc (.cells #[.string ⟨#[]⟩, .slice none 0 0, .slice none 0 0] 32)) := balloc (Below.refl _ _) _
  have HP := hide (hpem v data _ (hs.below hb0) hl (hT.below hb0))
  have HB0 := hide hb0
  have HHL := hide hH
  clear hs hT hb0 hH
  go_enter Tryd.func9, Tryd.ntmps9
  go_wp2_with fail
  refine (unhide HP).mono ?_
  rintro e w1 ⟨hb1, hcase⟩
  have HB1 : Hid (Below w.heap.size w w1) := (unhide HB0).trans (hb1.mono (by rw [World.size_alloc]; omega))
  have hblk : w1.heap[w.heap.size]? = some (.cells #[.string ⟨#[]⟩, .slice none 0 0, .slice none 0 0] 32 (0, 0)) := by
    rw [hb1.block _ (by rw [World.size_alloc]; omega)]; exact heap_new w _
  have hz1 : w.heap.size < w1.heap.size := lt_of_heap hblk
  clear hb1 HB0 HP
  rcases hcase with ⟨hd, rfl⟩ | ⟨r, pb, mb, bv, rv, hd, rfl, hP, hM, hS, hR, hcap⟩
  · have c0 : w1.cell? ⟨w.heap.size, 0, none⟩ = some (.string ⟨#[]⟩) := by rw [cell_of_heap hblk]; rfl
    have c1 : w1.cell? ⟨w.heap.size, 1, none⟩ = some (.slice none 0 0) := by rw [cell_of_heap hblk]; rfl
    have c2 : w1.cell? ⟨w.heap.size, 2, none⟩ = some (.slice none 0 0) := by rw [cell_of_heap hblk]; rfl
    have f0 : ∀ j, w1.frozen? ⟨w.heap.size, j, none⟩ = false := fun j => frozen_of_heap hblk j
    have HD := hide hd
    have HK := hide hblk
    clear hd hblk
    go_wp2_with fail
    have s3 := store3 (unhide HK) (.string ⟨#[]⟩) (.slice none 0 0) (.slice none 0 0)
    have hb3 := store3_below (unhide HB1) (Nat.le_refl w.heap.size) (.string ⟨#[]⟩) (.slice none 0 0) (.slice none 0 0)
    generalize ((w1.setCell ⟨w.heap.size, 0, none⟩ (.string ⟨#[]⟩)).setCell ⟨w.heap.size, 1, none⟩ (.slice none 0 0)).setCell ⟨w.heap.size, 2, none⟩ (.slice none 0 0) = W3 at s3 hb3 ⊢
    obtain ⟨d0, d1, d2, -⟩ := cells3 s3
    refine bodyPost_ret (v := .tuple #[.agg #[.string ⟨#[]⟩, .slice none 0 0, .slice none 0 0], .bool false, v]) ?_ rfl ⟨hb3, .inl ⟨unhide HD, rfl⟩⟩
    simp [results, Tryd.results9, go_sem, d0, d1, d2]
  · obtain ⟨p, bc, rfl, hlc, hcell⟩ := hS
    have hS : Sl w1 (.slice p r.by_.length bc) r.by_ := ⟨p, bc, rfl, hlc, hcell⟩
    have HX := hide (And.intro hd (And.intro hS (And.intro hR (hcap _ _ _ rfl))))
    obtain ⟨n, D, hn, hown, hD⟩ := hM
    have HD := hide hD
    have hDn : Maps.size D ≤ 4294967295 := by rw [hD.2.2.2]; exact Nat.le_trans (hkeys_len _) (unhide HHL r hd)
    have c0 := hP.c0
    have c1 := hP.c1
    have c2 := hP.c2
    have HPB := hide hP
    clear hd hS hR hcap hcell hlc hP hD
    obtain ⟨b0, b1, b2, f0⟩ := cells3 hblk
    have HK := hide hblk
    clear hblk
    go_upto_region 4 with (fail)
    go_still_tail 9, (by kernel_rfl)
    change wpList _ _ _ _ _ w1.drew
    go_upto_region 5 with (fail)
    have s4 := store3 (unhide HK) (.string (bs r.ty)) (.slice none 0 0) (.slice p r.by_.length bc)
    have hb4 := below_drewN (store3_below (unhide HB1) (Nat.le_refl w.heap.size) (.string (bs r.ty)) (.slice none 0 0) (.slice p r.by_.length bc)) 1
    have k4 : ∀ k, k ≠ w.heap.size → (((w1.setCell ⟨w.heap.size, 0, none⟩ (.string (bs r.ty))).setCell ⟨w.heap.size, 1, none⟩ (.slice none 0 0)).setCell ⟨w.heap.size, 2, none⟩ (.slice p r.by_.length bc)).drew.heap[k]? = w1.heap[k]? := fun k hk => store3_other hk _ _ _
    have s4 : (((w1.setCell ⟨w.heap.size, 0, none⟩ (.string (bs r.ty))).setCell ⟨w.heap.size, 1, none⟩ (.slice none 0 0)).setCell ⟨w.heap.size, 2, none⟩ (.slice p r.by_.length bc)).drew.heap[w.heap.size]? = _ := s4
    have hb4 : Below w.heap.size w (((w1.setCell ⟨w.heap.size, 0, none⟩ (.string (bs r.ty))).setCell ⟨w.heap.size, 1, none⟩ (.slice none 0 0)).setCell ⟨w.heap.size, 2, none⟩ (.slice p r.by_.length bc)).drew := hb4
    generalize (((w1.setCell ⟨w.heap.size, 0, none⟩ (.string (bs r.ty))).setCell ⟨w.heap.size, 1, none⟩ (.slice none 0 0)).setCell ⟨w.heap.size, 2, none⟩ (.slice p r.by_.length bc)).drew = W4 at s4 hb4 k4 ⊢
    have hpb : pb ≠ w.heap.size := by
      rintro rfl
      have h1 := (unhide HPB).symm.trans (unhide HK)
      simp at h1
    have hmb : mb ≠ w.heap.size := by
      rintro rfl
      obtain ⟨es, c, hb2, _⟩ := hown
      have h1 := hb2.symm.trans (unhide HK)
      cases h1
    have hP4 : PB W4 pb r.ty mb (.slice p r.by_.length bc) := (k4 pb hpb).trans (unhide HPB)
    have hown4 := ownsMap_heap hown (fun es c hb2 => (k4 mb hmb).trans hb2)
    have hx0 : (∀ z, (Value.string ⟨#[]⟩) ≠ .int .u8 z) ∧ (∀ z, (Value.slice none 0 0) ≠ .int .u8 z) ∧ ∀ z, (Value.slice none 0 0) ≠ .int .u8 z := ⟨by simp, by simp, by simp⟩
    have hSb := (unhide HX).2.1.off (unhide HK) hx0 (fun k _ hk => k4 k hk)
    have hSr := (unhide HX).2.2.1.off (unhide HK) hx0 (fun k _ hk => k4 k hk)
    have H4 := hide (And.intro hb4 (And.intro hSb hSr))
    have S4 := hide s4
    have hlt4 : w.heap.size < W4.heap.size := lt_of_heap s4
    have hmlt : mb < W4.heap.size := hown4.lt
    have c14 : W4.cell? ⟨pb, 1, none⟩ = some (.map (some mb)) := hP4.c1
    clear k4 hb4 s4 hSb hSr hP4 c0 c1 c2 b0 b1 b2 f0 hown HPB HK HB1 hx0 hpb hz1
    go_wp2_with (first
      | (at_range; refine wpList_range_own _ rfl _ 45 rfl 9 9 lawS Tryd.underlying45 _ mb n D rfl hown4 ?_; intro w0 hrg0 hg0 hs0)
      | fail)
    go_frame
    have hb0 : Below W4.heap.size W4 w0 := (Below.refl _ _).grown hg0 (Nat.le_refl _) (fun j hj => by cases hj)
    have hz0 : W4.heap.size < w0.heap.size := by
      obtain ⟨_, _, _, _, _, _, _, _, _, hit, _⟩ := hrg0
      exact lt_of_heap hit
    clear hs0 hg0 c14 hown4
    go_loopw [6, 7] (fun _ _ wr => ∃ (left : Lit → Bool) (cnt : Nat) (ls : Hdrs) (vk : Value), wr.ranges Tryd.prog 9 (plainElem Tryd.prog 9) mb W4.heap.size n D left cnt ∧ ls.length + cnt ≤ Maps.size D ∧ wr.heap[w.heap.size]? = some (.cells #[.string (bs r.ty), vk, .slice p r.by_.length bc] 32 (0, 0)) ∧
       wr.ownsRow (W4.heap.size + 1) 49 2 vk ls.length (hcells ls) ∧ W4.heap.size < wr.heap.size ∧ Hid (Coll D r.hs left ls) ∧ Hid (Below w.heap.size w wr ∧ ∀ k, k < W4.heap.size → k ≠ w.heap.size → wr.heap[k]? = W4.heap[k]?)) (fun _ _ wr => wr.rangeLeft mb W4.heap.size)
    case atStart =>
      refine ⟨_, _, [], _, hrg0, by simp, (hb0.block _ hlt4).trans (unhide S4), World.ownsRow_nil _ _ _ _, hz0, Coll.start D r.hs, bstep (unhide H4).1 hb0, fun k hk _ => hb0.block k hk⟩
    case round =>
      clear hrg0 hb0 hz0
      obtain ⟨left, cnt, ls, vk, hrg, hcnt, hbk, hrow, hwz, HC, HW⟩ := hrel
      go_wp2_with (first
        | (at_next; refine wpList_next_ranges _ rfl _ rfl 9 lawS (plainElem Tryd.prog 9) Go.Proofs.encStr Value.string invK invV mb W4.heap.size n _ _ _ rfl hrg ?_ ?_)
        | fail)
      · intro hc0 hl0
        obtain ⟨pk, ck, rfl, hkc⟩ := Hd.of_owns hrow
        clear hkc
        obtain ⟨b0, b1, b2, f0⟩ := cells3 hbk
        have HBK := hide hbk
        have HD2 := hide ((unhide HC).ofMap (unhide HD) hl0)
        have HROW := hide hrow
        clear hc0 hl0 hrg hcnt hrow HC hbk
        go_wp2_with fail
        have s5 := store3 (unhide HBK) (.string (bs r.ty)) (.slice pk ls.length ck) (.slice p r.by_.length bc)
        have hb5 := store3_below (unhide HW).1 (Nat.le_refl w.heap.size) (.string (bs r.ty)) (.slice pk ls.length ck) (.slice p r.by_.length bc)
        have k5 : ∀ k, k ≠ w.heap.size → (((wr.setCell ⟨w.heap.size, 0, none⟩ (.string (bs r.ty))).setCell ⟨w.heap.size, 1, none⟩ (.slice pk ls.length ck)).setCell ⟨w.heap.size, 2, none⟩ (.slice p r.by_.length bc)).heap[k]? = wr.heap[k]? := fun k hk => store3_other hk _ _ _
        generalize ((wr.setCell ⟨w.heap.size, 0, none⟩ (.string (bs r.ty))).setCell ⟨w.heap.size, 1, none⟩ (.slice pk ls.length ck)).setCell ⟨w.heap.size, 2, none⟩ (.slice p r.by_.length bc) = W5 at s5 hb5 k5 ⊢
        obtain ⟨d0, d1, d2, -⟩ := cells3 s5
        have hx5 : (∀ z, (Value.string (bs r.ty)) ≠ .int .u8 z) ∧ (∀ z, (Value.slice none 0 0) ≠ .int .u8 z) ∧ ∀ z, (Value.slice p r.by_.length bc) ≠ .int .u8 z := ⟨by simp, by simp, by simp⟩
        have hSb := (unhide H4).2.1.off (unhide S4) hx5 (fun k h1 h2 => (k5 k h2).trans ((unhide HW).2 k h1 h2))
        have hSr := (unhide H4).2.2.off (unhide S4) hx5 (fun k h1 h2 => (k5 k h2).trans ((unhide HW).2 k h1 h2))
        have hrow5 : W5.ownsRow (W4.heap.size + 1) 49 2 (.slice pk ls.length ck) ls.length (hcells ls) := by
          refine ⟨(unhide HROW).1, ?_⟩
          rcases (unhide HROW).2 with h2 | ⟨g, cap, cur, e0, hbase, hg, rr⟩
          · exact .inl h2
          · exact .inr ⟨g, cap, cur, e0, hbase, (k5 g (by omega)).trans hg, rr⟩
        have hHd : Hd W5 (.slice pk ls.length ck) ls := Hd.of_owns hrow5
        refine bodyPost_ret (v := .tuple #[.agg #[.string (bs r.ty), .slice pk ls.length ck, .slice p r.by_.length bc], .bool true, rv]) ?_ rfl ⟨hb5, .inr ⟨r, ls, _, _, _, _, (unhide HX).1, rfl, unhide HD2, hHd, hSb, hSr, (unhide HX).2.2.2⟩⟩
        simp [results, Tryd.results9, go_sem, d0, d1, d2]
      · intro x c kl yd yp w2 cnt2 hkey hlk hv hat hrg2 hlt hg2 hs2 hen
        obtain ⟨x', ex, rfl, hxl⟩ := Maps.keyOf_str Tryd.underlying9 hkey
        obtain rfl : x = x' := encStr_inj ex
        obtain ⟨vx, hvx, hyd⟩ := collected_at (unhide HD) hat
        obtain ⟨sx, hsx, hyy, _⟩ := plainElem_string_inv Tryd.underlying9 hv
        have hcv : c = bs vx := by
          have e1 : yd = .lit (.string sx.data.toList) := congrArg Prod.fst hyy
          rw [hyd] at e1
          simp only [DataW.lit.injEq, Lit.string.injEq] at e1
          injection hsx with e2
          rw [e2, e1]; rfl
        subst hcv
        have hrow2 := hrow.kept hg2 (Or.inr (fun e0 => by have := (hrow.lt _ e0).1; omega))
        have hbk2 : w2.heap[w.heap.size]? = _ := (hg2.block w.heap.size (lt_of_heap hbk) (by simp; omega)).trans hbk
        have hb2 : Below w.heap.size w w2 := (unhide HW).1.grown hg2 (unhide HW).1.size (fun j hj => by cases hj; omega)
        obtain ⟨pk, ck, rfl, hkc⟩ := Hd.of_owns hrow
        obtain ⟨v3, w3, hr3, hown3, hg3⟩ := append_hd1 30 49 Tryd.underlying30 infoH 30 x vx hrow2 (by omega) (by have := hg2.size; omega) 49
        have hwz2 : W4.heap.size < w2.heap.size := by have := hg2.size; omega
        have hrowA := hrow2.alloc (.cells #[.string (bs x), .string (bs vx)] 49)
        have hltA := hrowA.lt
        have hlen1 : (ls ++ [(x, vx)]).length = ls.length + 1 := by simp
        have hkeep : ∀ (j : Nat) o, j < W4.heap.size + 1 → w2.heap[j]? = some o → w3.heap[j]? = some o := fun j o hj ho =>
          (hg3.block j (by rw [World.size_alloc]; have := lt_of_heap ho; omega) (fun e0 => by have := (hltA _ e0.symm).1; omega)).trans ((Below.heap_alloc _ _ _ (lt_of_heap ho)).trans ho)
        have hbk3 := hkeep _ _ (by omega) hbk2
        have hrg3 := (hrg2.alloc (.cells #[.string (bs x), .string (bs vx)] 49)).kept hg3 (fun e0 => by have := (hltA _ e0.symm).1; omega) (fun e0 => by have := (hltA _ e0.symm).1; omega)
        have hb3 : Below w.heap.size w w3 := (balloc hb2 _).grown hg3 (by rw [World.size_alloc]; have := hb2.size; omega) (fun j hj => by have := (hltA _ hj).1; omega)
        obtain ⟨p3, c3, rfl, hk3⟩ := Hd.of_owns hown3
        rw [hlen1] at hr3 hown3
        have hrg4 := hrg3.kept (grown_set (⟨rfl, rfl, rfl, Nat.le_refl _, fun _ _ _ => rfl⟩ : w3.grownBy w3 (some w.heap.size)) 1 (.slice p3 (ls.length + 1) c3)) (by simpa using hmb) (by simp; omega)
        have hrow4 := ownsRow_setCell hown3 (show w.heap.size < W4.heap.size + 1 by omega) 1 (.slice p3 (ls.length + 1) c3)
        have hbk4 := heap_set_same hbk3 (i := 1) (.slice p3 (ls.length + 1) c3)
        have hb4 : Below w.heap.size w (w3.setCell ⟨w.heap.size, 1, none⟩ (.slice p3 (ls.length + 1) c3)) := hb3.setCell (Nat.le_refl w.heap.size) _
        have hk4 : ∀ k, k < W4.heap.size → k ≠ w.heap.size → (w3.setCell ⟨w.heap.size, 1, none⟩ (.slice p3 (ls.length + 1) c3)).heap[k]? = W4.heap[k]? := by
          intro k h1 h2
          rw [Below.heap_setCell _ _ _ _ h2, ← (unhide HW).2 k h1 h2]
          have h3 : w2.heap[k]? = wr.heap[k]? := hg2.block k (by omega) (by simp; omega)
          obtain ⟨o, ho⟩ : ∃ o, wr.heap[k]? = some o := ⟨_, Array.getElem?_eq_getElem (by omega)⟩
          rw [ho]; exact hkeep k o (by omega) (h3.trans ho)
        have hcoll : Coll D r.hs (fun z => left z && !z.sameKey (Lit.string x)) (ls ++ [(x, vx)]) := by
          refine ⟨?_, fun q hq => ?_⟩
          · rw [List.map_append]; exact (unhide HC).1.step hlk hat
          · rcases List.mem_append.1 hq with h1 | h1
            · exact (unhide HC).2 q h1
            · rw [List.mem_singleton.1 h1]; exact hvx
        have c21 : w2.cell? ⟨w.heap.size, 1, none⟩ = some (.slice pk ls.length ck) := by rw [cell_of_heap hbk2]; rfl
        have c31 : w3.cell? ⟨w.heap.size, 1, none⟩ = some (.slice pk ls.length ck) := by rw [cell_of_heap hbk3]; rfl
        have f31 : w3.frozen? ⟨w.heap.size, 1, none⟩ = false := frozen_of_heap hbk3 1
        have hwz4 : W4.heap.size < w3.heap.size := by have := hg3.size; rw [World.size_alloc] at this; omega
        have HN := hide (And.intro hrg4 (And.intro hrow4 (And.intro hbk4 (And.intro hb4 (And.intro hk4 (And.intro hcoll (And.intro hwz4 (And.intro hrg.left_eq (And.intro hrg4.left_eq hlt)))))))))
        rw [encStr_bs] at hen
        clear hrg hrg2 hrg3 hrg4 hrow hrow2 hrowA hrow4 hown3 hbk hbk2 hbk3 hbk4 hb2 hb3 hb4 hk4 hcoll hlt hg2 hs2 hkey hlk hv hat ex hxl hvx hyd hsx hyy hk3 hkc hltA hkeep hg3 hwz2 hwz4 hlen1 HC HW
        go_wp2_with (first
          | (at_builtin; refine Lib.wpList_append_run_sl _ rfl _ _ 30 rfl _ _ rfl rfl hr3 ?_)
          | fail)
        obtain ⟨g1, g2, g3, g4, g5, g6, g7, g8, g9, g10⟩ := unhide HN
        refine ⟨⟨_, cnt2, ls ++ [(x, vx)], .slice p3 (ls.length + 1) c3, g1, by simp; omega, g3, by rw [List.length_append]; exact g2, by simp; omega, g6, g4, g5⟩, ?_⟩
        rw [g8, g9]; exact g10
end Go.Proofs.YtpjehmblndjknaaDoor

namespace Go.Proofs.YtpjehmblndjknaaDoor
open Go.RowKit
set_option linter.unusedSimpArgs false
set_option linter.unusedVariables false

/-- what stands somewhere in s. -/
def hasB (s what : List UInt8) : Bool := (List.range (s.length + 1)).any fun j => Lib.occAt s what j
theorem hasB_no {s what : List UInt8} (hne : what ≠ []) (h : hasB s what = false) : ∀ j, Lib.occAt s what j = false := by
  intro j
  unfold hasB at h
  rw [List.any_eq_false] at h
  rcases Nat.lt_or_ge j (s.length + 1) with h1 | h1
  · exact Bool.eq_false_iff.2 (h j (List.mem_range.2 h1))
  · refine Bool.eq_false_iff.2 fun h2 => ?_
    rcases Lib.occAt_room h2 with h3 | h3
    · omega
    · exact hne h3
theorem hasB_yes {s what : List UInt8} {j : Nat} (hj : j ≤ s.length) (h : Lib.occAt s what j = true) : hasB s what = true := by
  unfold hasB
  rw [List.any_eq_true]
  exact ⟨j, List.mem_range.2 (by omega), h⟩
theorem hasB_none {s what : List UInt8} (hne : what ≠ []) (h : ∀ j, j + what.length ≤ s.length → Lib.occAt s what j = false) : hasB s what = false := by
  unfold hasB
  rw [List.any_eq_false]
  intro j _ h2
  rcases Lib.occAt_room h2 with h3 | h3
  · rw [h j h3] at h2; cases h2
  · exact hne h3

theorem occ_extract {s what : List UInt8} {j : Nat} (hj : j + what.length ≤ s.length) : (List.drop j (List.take (j + what.length) s) == what) = Lib.occAt s what j := by
  rw [Lib.occAt_iff_take s what j hj, List.drop_take, Nat.add_sub_cancel_left]

set_option maxRecDepth 100000 in
set_option maxHeartbeats 800000 in
theorem has_any (s what : List UInt8) (w : World) (hs : s.length ≤ 281474976710656) (hw : what.length ≤ 281474976710656) (hne : what ≠ []) :
    Calls Tryd.prog 7 #[.string (bs s), .string (bs what)] w fun e w' => e = .returned (.bool (hasB s what)) ∧ w' = w := by
  have HNE := hide hne
  clear hne
  go_enter Tryd.func7, Tryd.ntmps7
  go_wp2_with fail
  go_loop [5] (fun vi => ∃ k : Nat, k ≤ s.length + 1 ∧ vi = .int .i64 k ∧ Hid (∀ j, j < k → Lib.occAt s what j = false)) (fun vi => s.length + 1 - (intOf vi).toNat)
  case atStart => exact ⟨0, Nat.zero_le _, rfl, fun j h => absurd h (by omega)⟩
  case round =>
    obtain ⟨k, hk, rfl, HA⟩ := hrel
    by_cases hlt : k + what.length ≤ s.length
    · have ho := occ_extract hlt
      have hi : (k : Int) + (what.length : Int) ≤ (s.length : Int) := by omega
      cases hq : Lib.occAt s what k with
      | true =>
        have HR := hide (hasB_yes (by omega) hq)
        rw [hq] at ho
        clear hq
        go_wp2_with fail
        go_ret
        rw [unhide HR]
        exact ⟨rfl, rfl⟩
      | false =>
        have HA2 : Hid (∀ j, j < k + 1 → Lib.occAt s what j = false) := by
          intro j hj
          by_cases e : j = k
          · subst e; exact hq
          · exact unhide HA j (by omega)
        rw [hq] at ho
        clear hq
        go_wp2_with fail
        refine ⟨⟨k + 1, by omega, by go_num, HA2⟩, ?_⟩
        simp [intOf]; omega
    · have hi : ¬ (k : Int) + (what.length : Int) ≤ (s.length : Int) := by omega
      have HR := hide (hasB_none (unhide HNE) (fun j hj => unhide HA j (by omega)))
      go_wp2_with fail
      go_ret
      rw [unhide HR]
      exact ⟨rfl, rfl⟩
end Go.Proofs.YtpjehmblndjknaaDoor

namespace Go.Proofs.YtpjehmblndjknaaDoor
open Go.RowKit Go.Maps
set_option linter.unusedSimpArgs false
set_option linter.unusedVariables false

theorem decode_none (hpem : PemOK) (v : Value) (data : List UInt8) (w : World) (hs : Sl w v data) (hl : data.length ≤ 140737488351232) (hT : Tabs w)
   (hlaw : ∀ o, Dec data o → o = none) : Calls Tryd.prog 9 #[v] w (fun e w' => Below w.heap.size w w' ∧ e = .returned (.tuple #[.agg #[.string ⟨#[]⟩, .slice none 0 0, .slice none 0 0], .bool false, v])) := by
  refine (decode_any hpem v data w hs hl hT (fun r hr => by cases hlaw _ hr)).mono ?_
  rintro e w' ⟨hb, h⟩
  rcases h with ⟨_, h1⟩ | ⟨r, ls, hv, rv, q, bc, h1, _⟩
  · exact ⟨hb, h1⟩
  · cases hlaw _ h1

set_option maxRecDepth 100000 in
theorem fnNone_big (v : Value) (data : List UInt8) (qd : Option Addr) (cd : Nat) (w : World) (hv : v = .slice qd data.length cd) (hl : 2147483647 < data.length) (hm : data.length ≤ 9223372036854775807) :
    Calls Tryd.prog 4 #[v] w fun e w' => e = .returned (.bool true) ∧ Below w.heap.size w w' := by
  subst hv
  have hi : (2147483647 : Int) < (data.length : Int) := by omega
  go_enter Tryd.func4, Tryd.ntmps4
  go_wp2
  go_ret
  exact ⟨rfl, Below.refl _ _⟩

set_option maxRecDepth 100000 in
set_option maxHeartbeats 4000000 in
theorem fnNone_small (hpem : PemOK) (data : List UInt8) (qd : Option Addr) (cd : Nat) (w : World) (hT : Tabs w) (hS : Sl w (.slice qd data.length cd) data) (hl : data.length ≤ 2147483647) :
    Calls Tryd.prog 4 #[.slice qd data.length cd] w fun e w' => e = .returned (.bool true) ∧ Below w.heap.size w w' := by
  have hhas := has_any data begP w (by omega) (by decide) (by decide)
  rw [show bs begP = ⟨#[45, 45, 45, 45, 45, 66, 69, 71, 73, 78, 32]⟩ from rfl] at hhas
  obtain ⟨hb, hhb⟩ : ∃ x, x = hasB data begP := ⟨_, rfl⟩
  rw [← hhb] at hhas
  have HHAS := hide hhas
  have hcv := conv_sl2 hS w (Below.refl _ _)
  have hi : ¬ (2147483647 : Int) < (data.length : Int) := by omega
  have HS := hide hS
  have HT := hide hT
  have HHB := hide hhb
  clear hhas hS hT hhb
  go_enter Tryd.func4, Tryd.ntmps4
  go_wp2_with fail
  refine (unhide HHAS).mono ?_
  rintro e w1 ⟨rfl, rfl⟩
  clear HHAS
  cases hb with
  | true =>
    have hwk := hide (works_any w1)
    go_wp2_with fail
    refine (unhide hwk).mono ?_
    rintro e w7 ⟨rfl, hb7⟩
    have HB7 := hide hb7
    clear hb7 hwk
    go_wp2
    go_ret
    exact ⟨rfl, unhide HB7⟩
  | false =>
    have hdec := hide (decode_none hpem _ data w1 (unhide HS) (by omega) (unhide HT) (fun o ho => dec_none ho (hasB_no (by decide) (unhide HHB).symm)))
    go_wp2_with fail
    refine (unhide hdec).mono ?_
    rintro e w2 ⟨hb2, rfl⟩
    have hb3 : Below w1.heap.size w1 (w2.alloc (.cells #[.string ⟨#[]⟩, .slice none 0 0, .slice none 0 0] 32)) := bstep hb2 (balloc (Below.refl _ _) _)
    have k1 := conv_sl2 (unhide HS) _ hb3
    have hwk := hide (works_any (w2.alloc (.cells #[.string ⟨#[]⟩, .slice none 0 0, .slice none 0 0] 32)))
    have HB3 := hide hb3
    clear hdec hb2 hcv hb3
    go_wp2_with fail
    refine (unhide hwk).mono ?_
    rintro e w7 ⟨rfl, hb7⟩
    have HB7 := hide (bstep (unhide HB3) hb7)
    clear hb7 hwk k1
    go_wp2
    go_ret
    exact ⟨rfl, unhide HB7⟩

theorem fnNone_walk (hpem : PemOK) (data : List UInt8) (qd : Option Addr) (cd : Nat) (w : World) (hT : Tabs w) (hS : Sl w (.slice qd data.length cd) data) (hm : data.length ≤ 9223372036854775807) :
    Calls Tryd.prog 4 #[.slice qd data.length cd] w fun e w' => e = .returned (.bool true) ∧ Below w.heap.size w w' := by
  rcases Nat.lt_or_ge 2147483647 data.length with h | h
  · exact fnNone_big _ data qd cd w rfl h hm
  · exact fnNone_small hpem data qd cd w hT hS h
end Go.Proofs.YtpjehmblndjknaaDoor

namespace Go.Proofs.YtpjehmblndjknaaDoor
open Go.RowKit Go.Maps Go.ChangeShapes Go.WideShapes Go.ChangeAt Go.Joins
set_option linter.unusedSimpArgs false
set_option linter.unusedVariables false

theorem byte_wf2 {n : Int} (h : (Lit.int .u8 n).wf = true) : ((UInt8.ofNat n.toNat).toNat : Int) = n := by
  have hx : 0 ≤ n ∧ n ≤ 255 := by simpa [Lit.wf, IntKind.min, IntKind.max, IntKind.signed, IntKind.bits] using h
  rw [UInt8.toNat_ofNat']
  omega

section
variable {H : Type} {enc : TypeId × Value → H} {W : World} {base : Nat} {held : Bool} {fuel : Nat}

/-- A slice of bytes. -/
theorem open_bytes {cs : List Value} {x : DataW H × List MemPlace} (h : DataW.trod enc Tryd.prog W base (fun _ => true) held fuel 22 cs = some x) :
    ∃ (q : Option Addr) (bc : Nat) (d : List UInt8), cs = [.slice q d.length bc] ∧ Sl W (.slice q d.length bc) d ∧ bc ≤ 9223372036854775807 ∧ (q = none → bc = 0) ∧ d.length ≤ bc := by
  rcases open_ints Tryd.underlying22 Tryd.underlying5 (by kernel_rfl) h with ⟨rfl, _⟩ | ⟨a, len, cap, zs, rfl, _, hl, hm, hz, _, hcell, hwf⟩
  · exact ⟨none, 0, [], rfl, Sl.nil W, by omega, fun _ => rfl, Nat.le_refl _⟩
  · have hz2 : zs.length = cap := by simpa using hz
    have hlen : (Lib.bytesOf (zs.take len)).length = len := by rw [Lib.bytesOf_length, List.length_take]; omega
    unfold maxLen at hm
    refine ⟨some a, cap, Lib.bytesOf (zs.take len), by rw [hlen], ⟨some a, cap, rfl, by rw [hlen]; exact hl, fun hne => ?_⟩, hm, fun h => by (cases h), by rw [hlen]; exact hl⟩
    have hpos : 0 < len := by rw [← hlen]; exact List.length_pos_iff.2 hne
    obtain ⟨b, o, spot⟩ := a
    have h0 := hcell 0 (by omega)
    have hsp : spot = none := by simpa [Addr.add] using World.cell?_spot h0
    subst hsp
    refine ⟨b, o, rfl, fun i x hx => ?_⟩
    have hi : i < len := by rw [← hlen]; exact (List.getElem?_eq_some_iff.1 hx).1
    have h1 := hcell i (by omega)
    rw [addr_add] at h1
    rw [h1]
    unfold Lib.bytesOf at hx
    rw [List.getElem?_map, List.getElem?_take, if_pos hi] at hx
    obtain ⟨n, hn1, rfl⟩ := Option.map_eq_some_iff.1 hx
    rw [byte_wf2 (hwf n (List.mem_of_getElem? hn1))]
    simp [List.getD, hn1]

/-- A slice of headers. -/
theorem open_hdrs {cs : List Value} {x : DataW H × List MemPlace} (h : DataW.trod enc Tryd.prog W base (fun _ => true) held fuel 30 cs = some x) :
    ∃ (v : Value) (hs : Hdrs), cs = [v] ∧ Hd W v hs ∧ hs.length ≤ 9223372036854775807 ∧ ∀ p ∈ hs, p.1.length ≤ 9223372036854775807 ∧ p.2.length ≤ 9223372036854775807 := by
  rcases Deep.open_slice_pairs Tryd.underlying30 Tryd.underlying49 (by kernel_rfl) (by kernel_rfl) (by kernel_rfl) (by kernel_rfl) (by kernel_rfl) h with ⟨rfl, _⟩ | ⟨a, len, cap, m, n, V0, V1, D0, D1, P0, P1, rfl, _, hl, hm, hmm, _, hcell⟩
  · exact ⟨_, [], rfl, Hd.nil W, by simp, fun p hp => by (cases hp)⟩
  · have hmc : m = cap := by simpa using hmm
    subst hmc
    unfold maxLen at hm
    have each : ∀ i, i < m → ∃ q : ByteArray × ByteArray, W.cell? (a.add (i * 2)) = some (.string q.1) ∧ W.cell? (a.add (i * 2 + 1)) = some (.string q.2) ∧ q.1.size ≤ maxLen ∧ q.2.size ≤ maxLen := by
      intro i hi
      obtain ⟨h1, h2, h3, h4⟩ := hcell i hi
      obtain ⟨s1, e1, _, l1⟩ := DataW.trod_string Tryd.underlying9 h3
      obtain ⟨s2, e2, _, l2⟩ := DataW.trod_string Tryd.underlying9 h4
      simp at e1 e2
      exact ⟨(s1, s2), by rw [h1, e1], by rw [h2, e2], l1, l2⟩
    obtain ⟨q, hq⟩ := Deep.choose_lt each
    refine ⟨_, (List.range len).map fun i => ((q i).1.data.toList, (q i).2.data.toList), rfl, ⟨some a, m, by simp, ⟨by simpa using hl, fun h => by (cases h)⟩, fun hne => ?_⟩, by simp; omega, fun p hp => ?_⟩
    · have hpos : 0 < len := by
        rcases Nat.eq_zero_or_pos len with h0 | h0
        · subst h0; simp at hne
        · exact h0
      obtain ⟨b, o, spot⟩ := a
      have h0 := (hq 0 (by omega)).1
      have hsp : spot = none := by simpa [Addr.add] using World.cell?_spot h0
      subst hsp
      refine ⟨b, o, rfl, fun i x hx => ?_⟩
      have hi : i < len := by
        have := (List.getElem?_eq_some_iff.1 hx).1
        simpa using this
      obtain ⟨h1, h2, _⟩ := hq i (by omega)
      rw [addr_add] at h1 h2
      have hx2 : x = ((q i).1.data.toList, (q i).2.data.toList) := by
        rw [List.getElem?_map, List.getElem?_range hi] at hx
        simpa using hx.symm
      subst hx2
      exact ⟨by rw [h1, bs_of], by rw [← Nat.add_assoc] at h2; rw [h2, bs_of]⟩
    · obtain ⟨i, hi, rfl⟩ := List.mem_map.1 hp
      rw [List.mem_range] at hi
      obtain ⟨_, _, l1, l2⟩ := hq i (by omega)
      unfold maxLen at l1 l2
      exact ⟨by rw [len_of]; exact l1, by rw [len_of]; exact l2⟩


set_option maxRecDepth 100000 in
theorem open_block {r : Reach} {b0 : Nat} {v : Value} {d : DataW H} {p : List MemPlace} (hv : Value.okWide Tryd.prog W r b0 32 v) (h : DataW.Trod enc Tryd.prog W base (fun _ => true) held 32 v d p) :
    ∃ (ty by_ : List UInt8) (hv : Value) (q : Option Addr) (bc : Nat) (hs : Hdrs), v = .agg #[.string (bs ty), hv, .slice q by_.length bc] ∧ Hd W hv hs ∧ Sl W (.slice q by_.length bc) by_ ∧ bc ≤ 9223372036854775807 ∧
      ty.length ≤ 9223372036854775807 ∧ hs.length ≤ 9223372036854775807 ∧ by_.length ≤ 9223372036854775807 ∧ ∀ p ∈ hs, p.1.length ≤ 9223372036854775807 ∧ p.2.length ≤ 9223372036854775807 := by
  obtain ⟨v0, v1, v2, y0, y1, y2, n, rfl, _, _, t0, t1, t2⟩ := open_agg3 Tryd.underlying32 (by kernel_rfl) (by kernel_rfl) hv h
  obtain ⟨s, e0, _, l0⟩ := DataW.trod_string Tryd.underlying9 t0
  obtain ⟨hv, hs, e1, hH, hn, hx⟩ := open_hdrs t1
  obtain ⟨q, bc, by_, e2, hS, hbc, _, hdl⟩ := open_bytes t2
  simp at e0 e1 e2
  subst e0; subst e1; subst e2
  have l0 : s.size ≤ 9223372036854775807 := l0
  exact ⟨s.data.toList, by_, v1, q, bc, hs, by rw [bs_of], hH, hS, hbc, (by rw [len_of]; exact l0), hn, Nat.le_trans hdl hbc, hx⟩
end
end Go.Proofs.YtpjehmblndjknaaDoor

namespace Go.Proofs.YtpjehmblndjknaaDoor
open Go.RowKit Go.Maps Go.ChangeShapes Go.WideShapes Go.ChangeAt Go.Joins
set_option linter.unusedSimpArgs false
set_option linter.unusedVariables false

theorem bulk_pos {H : Type} (d : DataW H) : 1 ≤ Rows.uptoBulk d := by
  cases d with
  | lit l => cases l <;> simp [Rows.uptoBulk]
  | _ => simp [Rows.uptoBulk]
theorem bulk_part {H : Type} {d : DataW H} {l : List (DataW H)} (h : d ∈ l) : Rows.uptoBulk d ≤ Rows.uptoBulkAll l := by
  induction l with
  | nil => cases h
  | cons x r ih =>
    rw [Rows.uptoBulkAll]
    rcases List.mem_cons.1 h with e | e
    · subst e; omega
    · have := ih e; omega
theorem ubulk_len {H : Type} (l : List (DataW H)) : l.length ≤ Rows.uptoBulkAll l := by
  induction l with
  | nil => simp
  | cons x r ih => rw [Rows.uptoBulkAll, List.length_cons]; have := bulk_pos x; omega
theorem bulk_str {H : Type} (l : List UInt8) : Rows.uptoBulk (DataW.lit (H := H) (.string l)) = l.length + 1 := by rw [Rows.uptoBulk]
theorem bulk_elems {H : Type} (a b : List (DataW H)) : Rows.uptoBulkAll a ≤ Rows.uptoBulk (.slice a b) := by rw [Rows.uptoBulk]; omega
theorem bulk_agg {H : Type} (a : List (DataW H)) : Rows.uptoBulkAll a ≤ Rows.uptoBulk (.agg a) := by rw [Rows.uptoBulk]; omega

section
variable {H : Type} {enc : TypeId × Value → H} {W : World} {base : Nat} {held : Bool} {fuel : Nat}

theorem open_bytes_u {cs : List Value} {x : DataW H × List MemPlace} (h : DataW.trod enc Tryd.prog W base (fun _ => true) held fuel 22 cs = some x) :
    ∃ (q : Option Addr) (bc : Nat) (d : List UInt8), cs = [.slice q d.length bc] ∧ Sl W (.slice q d.length bc) d ∧ bc ≤ 9223372036854775807 ∧ (q = none → bc = 0) ∧ d.length ≤ bc ∧ d.length ≤ Rows.uptoBulk x.1 := by
  obtain ⟨q, bc, d, rfl, hS, hb, hq, hl⟩ := open_bytes h
  refine ⟨q, bc, d, rfl, hS, hb, hq, hl, ?_⟩
  rcases open_ints Tryd.underlying22 Tryd.underlying5 (by kernel_rfl) h with ⟨e, _⟩ | ⟨a, len, cap, zs, e, _, hl2, hm, hz, hx, _⟩
  · simp at e
    rw [e.2.1]; exact Nat.zero_le _
  · simp at e
    obtain ⟨-, e2, -⟩ := e
    rw [hx, e2]
    refine Nat.le_trans ?_ (bulk_elems _ _)
    refine Nat.le_trans ?_ (ubulk_len _)
    have hz2 : zs.length = cap := by simpa using hz
    unfold lits
    rw [List.length_map, List.length_take]
    omega

theorem open_hdrs_u {cs : List Value} {x : DataW H × List MemPlace} (h : DataW.trod enc Tryd.prog W base (fun _ => true) held fuel 30 cs = some x) :
    ∃ (v : Value) (hs : Hdrs), cs = [v] ∧ Hd W v hs ∧ hs.length ≤ Rows.uptoBulk x.1 ∧ ∀ p ∈ hs, p.1.length ≤ Rows.uptoBulk x.1 ∧ p.2.length ≤ Rows.uptoBulk x.1 := by
  rcases Deep.open_slice_pairs Tryd.underlying30 Tryd.underlying49 (by kernel_rfl) (by kernel_rfl) (by kernel_rfl) (by kernel_rfl) (by kernel_rfl) h with ⟨rfl, _⟩ | ⟨a, len, cap, m, n, V0, V1, D0, D1, P0, P1, rfl, _, hl, hm, hmm, hxx, hcell⟩
  · exact ⟨_, [], rfl, Hd.nil W, by simp, fun p hp => by (cases hp)⟩
  · have hmc : m = cap := by simpa using hmm
    subst hmc
    have each : ∀ i, i < m → ∃ q : ByteArray × ByteArray, W.cell? (a.add (i * 2)) = some (.string q.1) ∧ W.cell? (a.add (i * 2 + 1)) = some (.string q.2) ∧ D0 i = .lit (.string q.1.data.toList) ∧ D1 i = .lit (.string q.2.data.toList) := by
      intro i hi
      obtain ⟨h1, h2, h3, h4⟩ := hcell i hi
      obtain ⟨s1, e1, x1, l1⟩ := DataW.trod_string Tryd.underlying9 h3
      obtain ⟨s2, e2, x2, l2⟩ := DataW.trod_string Tryd.underlying9 h4
      simp at e1 e2
      exact ⟨(s1, s2), by rw [h1, e1], by rw [h2, e2], congrArg Prod.fst x1, congrArg Prod.fst x2⟩
    obtain ⟨q, hq⟩ := Deep.choose_lt each
    refine ⟨_, (List.range len).map fun i => ((q i).1.data.toList, (q i).2.data.toList), rfl, ⟨some a, m, by simp, ⟨by simpa using hl, fun h => by (cases h)⟩, fun hne => ?_⟩, ?_, fun p hp => ?_⟩
    · have hpos : 0 < len := by
        rcases Nat.eq_zero_or_pos len with h0 | h0
        · subst h0; simp at hne
        · exact h0
      obtain ⟨b, o, spot⟩ := a
      have h0 := (hq 0 (by omega)).1
      have hsp : spot = none := by simpa [Addr.add] using World.cell?_spot h0
      subst hsp
      refine ⟨b, o, rfl, fun i x hx => ?_⟩
      have hi : i < len := by
        have := (List.getElem?_eq_some_iff.1 hx).1
        simpa using this
      obtain ⟨h1, h2, _⟩ := hq i (by omega)
      rw [addr_add] at h1 h2
      have hx2 : x = ((q i).1.data.toList, (q i).2.data.toList) := by
        rw [List.getElem?_map, List.getElem?_range hi] at hx
        simpa using hx.symm
      subst hx2
      exact ⟨by rw [h1, bs_of], by rw [← Nat.add_assoc] at h2; rw [h2, bs_of]⟩
    · rw [hxx]
      refine Nat.le_trans ?_ (Nat.le_trans (ubulk_len _) (bulk_elems _ _))
      simp
    · obtain ⟨i, hi, rfl⟩ := List.mem_map.1 hp
      rw [List.mem_range] at hi
      obtain ⟨_, _, x1, x2⟩ := hq i (by omega)
      have hmem : (DataW.agg [D0 i, D1 i]) ∈ (List.range len).map fun i => DataW.agg [D0 i, D1 i] := List.mem_map.2 ⟨i, List.mem_range.2 hi, rfl⟩
      have hle := Nat.le_trans (bulk_part hmem) (bulk_elems _ ((List.range (m - len)).map fun j => .agg [D0 (len + j), D1 (len + j)]))
      have hle2 := Nat.le_trans (bulk_agg _) hle
      rw [hxx]
      rw [x1, x2] at hle2
      simp only [Rows.uptoBulkAll, bulk_str] at hle2
      simp only
      constructor <;> omega

set_option maxRecDepth 100000 in
theorem open_block_u {r : Reach} {b0 : Nat} {v : Value} {d : DataW H} {p : List MemPlace} (hv : Value.okWide Tryd.prog W r b0 32 v) (h : DataW.Trod enc Tryd.prog W base (fun _ => true) held 32 v d p) :
    ∃ (ty by_ : List UInt8) (hv : Value) (q : Option Addr) (bc : Nat) (hs : Hdrs), v = .agg #[.string (bs ty), hv, .slice q by_.length bc] ∧ Hd W hv hs ∧ Sl W (.slice q by_.length bc) by_ ∧ bc ≤ 9223372036854775807 ∧
      ty.length ≤ Rows.uptoBulk d ∧ hs.length ≤ Rows.uptoBulk d ∧ by_.length ≤ Rows.uptoBulk d ∧ ∀ p ∈ hs, p.1.length ≤ Rows.uptoBulk d ∧ p.2.length ≤ Rows.uptoBulk d := by
  obtain ⟨v0, v1, v2, y0, y1, y2, n, rfl, hd, _, t0, t1, t2⟩ := open_agg3 Tryd.underlying32 (by kernel_rfl) (by kernel_rfl) hv h
  obtain ⟨s, e0, x0, l0⟩ := DataW.trod_string Tryd.underlying9 t0
  obtain ⟨hv, hs, e1, hH, hn, hx⟩ := open_hdrs_u t1
  obtain ⟨q, bc, by_, e2, hS, hbc, _, _, hdl⟩ := open_bytes_u t2
  simp at e0 e1 e2
  subst e0; subst e1; subst e2
  have hx0 : y0.1 = .lit (.string s.data.toList) := congrArg Prod.fst x0
  have hall : Rows.uptoBulk y0.1 + (Rows.uptoBulk y1.1 + (Rows.uptoBulk y2.1 + 0)) ≤ Rows.uptoBulk d := by
    have h3 := bulk_agg [y0.1, y1.1, y2.1]
    simp only [Rows.uptoBulkAll] at h3
    rw [hd]; exact h3
  have hs0 : s.data.toList.length ≤ Rows.uptoBulk y0.1 := by rw [hx0, bulk_str]; omega
  refine ⟨s.data.toList, by_, v1, q, bc, hs, by rw [bs_of], hH, hS, hbc, by omega, by omega, by omega, fun p hp => ?_⟩
  have := hx p hp
  omega
end
end Go.Proofs.YtpjehmblndjknaaDoor

namespace Go.Proofs.YtpjehmblndjknaaDoor
open Go.RowKit Go.Maps Go.ChangeShapes Go.WideShapes Go.ChangeAt Go.Joins
set_option linter.unusedSimpArgs false
set_option linter.unusedVariables false
section
variable {H : Type} {enc : TypeId × Value → H} {W : World} {base : Nat} {held : Bool}
set_option maxRecDepth 100000 in
theorem open_bytes_arg {r : Reach} {b0 : Nat} {v : Value} {d : DataW H} {p : List MemPlace} (hv : Value.okWide Tryd.prog W r b0 22 v) (h : DataW.Trod enc Tryd.prog W base (fun _ => true) held 22 v d p) :
    ∃ (q : Option Addr) (bc : Nat) (l : List UInt8), v = .slice q l.length bc ∧ Sl W (.slice q l.length bc) l ∧ l.length ≤ Rows.uptoBulk d ∧ bc ≤ 9223372036854775807 ∧ l.length ≤ bc := by
  obtain ⟨a, len, cap, rfl⟩ := okWide_slice Tryd.underlying22 hv
  obtain ⟨fuel, hf⟩ := h
  obtain ⟨q, bc, l, hcs, hS, h63, _, hl, hb⟩ := open_bytes_u hf
  simp [Value.cells] at hcs
  obtain ⟨rfl, rfl, rfl⟩ := hcs
  exact ⟨a, cap, l, rfl, hS, hb, h63, hl⟩
set_option maxRecDepth 100000 in
theorem open_str_arg {r : Reach} {b0 : Nat} {v : Value} {d : DataW H} {p : List MemPlace} (hv : Value.okWide Tryd.prog W r b0 9 v) (h : DataW.Trod enc Tryd.prog W base (fun _ => true) held 9 v d p) :
    ∃ l : List UInt8, v = .string (bs l) ∧ l.length ≤ Rows.uptoBulk d ∧ l.length ≤ 9223372036854775807 := by
  obtain ⟨s, rfl, e1, e2, w0⟩ := Go.ChangeMaps.open_string Tryd.underlying9 hv h
  refine ⟨s.data.toList, by rw [bs_of], ?_, ?_⟩
  · rw [e1, bulk_str]; omega
  · rw [len_of]; unfold maxLen at w0; omega
end
end Go.Proofs.YtpjehmblndjknaaDoor

namespace Go.Proofs.YtpjehmblndjknaaDoor
open Go.RowKit
set_option linter.unusedSimpArgs false
set_option linter.unusedVariables false

def u8ren : Go.Shelf.Ren := ⟨fun n => n, fun | 5 => 5 | 119 => 75 | 138 => 165 | 139 => 166 | n => n, fun | 3 => 3 | 4 => 4 | n => n⟩
theorem u8types : U8Types Tryd.prog u8ren := ⟨Tryd.underlying5, Tryd.underlying75, Tryd.underlying165, Tryd.underlying166⟩
theorem u8extra : U8Extra Tryd.prog u8ren := ⟨by kernel_rfl, by kernel_rfl, by kernel_rfl, by kernel_rfl, by kernel_rfl, by kernel_rfl, by kernel_rfl⟩
theorem whiteExtra : WhiteExtra Tryd.prog Tryd.lays199_ren := ⟨by kernel_rfl, by kernel_rfl, by kernel_rfl, by kernel_rfl, by kernel_rfl, by kernel_rfl, by kernel_rfl, by kernel_rfl⟩
theorem first_is : Rows.laid_unicode_utf8_first = Lib.firstData := by kernel_rfl
theorem accept_is : (Rows.laid_unicode_utf8_acceptRanges : DataW Unit) = Lib.acceptData := by kernel_rfl
theorem white_is : (Rows.laid_unicode_White_Space : DataW Unit) = Lib.whiteData := by kernel_rfl
def ascTab : List Int := (List.range 256).map fun c => if Lib.isSp (UInt8.ofNat c) then 1 else 0
theorem asc_is : (Rows.laid_bytes_asciiSpace : DataW Unit) = Lib.tabData .u8 ascTab := by kernel_rfl
theorem asc_name : Tryd.prog.globalNamed "bytes.asciiSpace" = some 0 := by kernel_rfl
theorem asc_type : (Tryd.prog.globals[0]?).map (·.type) = some 75 := by kernel_rfl
theorem asc_of {w : World} (h : Lib.VarReads Tryd.prog w "bytes.asciiSpace" (Lib.tabData .u8 ascTab)) : Asc w := by
  obtain ⟨g, t, cs, fuel, p, hg, hty, hvar, hd⟩ := h
  obtain rfl := Option.some.inj (asc_name.symm.trans hg)
  obtain rfl := Option.some.inj (asc_type.symm.trans hty)
  have hcs := Lib.cells_of_tab Tryd.underlying75 Tryd.underlying5 (by kernel_rfl) (by kernel_rfl) hd
  intro c
  rw [World.var?_cell hg hvar c.toNat, ← Array.getElem?_toList, hcs]
  have hc := c.toNat_lt
  have hc2 : c.toNat < 256 := hc
  unfold ascTab
  rw [List.getElem?_map, List.getElem?_map, List.getElem?_range hc2]
  simp
/-- What the rows list. -/
def laidL : List (String × DataW Unit) := [("unicode/utf8.acceptRanges", Rows.laid_unicode_utf8_acceptRanges), ("unicode.White_Space", Rows.laid_unicode_White_Space), ("bytes.asciiSpace", Rows.laid_bytes_asciiSpace), ("unicode/utf8.first", Rows.laid_unicode_utf8_first)]
theorem laidL_plain : (laidL.filter fun x => x.2.handleName?.isSome).isEmpty = true := by kernel_rfl
theorem tabs_of {w : World} (h : laidMetH Tryd.prog laidL w) : Tabs w := by
  have h2 : laidMet Tryd.prog laidL w := by
    unfold laidMetH at h
    have e : (laidL.filter fun x => x.2.handleName?.isSome) = [] := List.isEmpty_iff.1 laidL_plain
    rw [e] at h
    exact h
  have m1 := Lib.laidMet.reads h2 (n := "unicode/utf8.acceptRanges") (d := Rows.laid_unicode_utf8_acceptRanges) (by unfold laidL; simp)
  have m2 := Lib.laidMet.reads h2 (n := "unicode.White_Space") (d := Rows.laid_unicode_White_Space) (by unfold laidL; simp)
  have m3 := Lib.laidMet.reads h2 (n := "bytes.asciiSpace") (d := Rows.laid_bytes_asciiSpace) (by unfold laidL; simp)
  have m4 := Lib.laidMet.reads h2 (n := "unicode/utf8.first") (d := Rows.laid_unicode_utf8_first) (by unfold laidL; simp)
  rw [accept_is] at m1
  rw [white_is] at m2
  rw [asc_is] at m3
  rw [first_is] at m4
  exact ⟨asc_of m3, whiteTab_of_reads Tryd.lays199 whiteExtra m2, utf8Tabs_of_readsT u8types u8extra m4 m1⟩
end Go.Proofs.YtpjehmblndjknaaDoor

namespace Go.Proofs.YtpjehmblndjknaaDoor
open Go.RowKit
set_option linter.unusedSimpArgs false
set_option linter.unusedVariables false

/-- Where the two blocks behind the table of blanks lie. -/
def wsBlock : Nat := 12
def wsCells : List Value := (List.range 7).flatMap fun i => [.int .u16 (Lib.whiteT.getD (3 * i) 0 : Nat), .int .u16 (Lib.whiteT.getD (3 * i + 1) 0 : Nat), .int .u16 (Lib.whiteT.getD (3 * i + 2) 0 : Nat)]
noncomputable def laidWorld (os : Os) : World :=
  let w0 := World.holding Tryd.prog os ⟨#[], #[], []⟩
  let put (h : Array Obj) (g : Nat) (cs : Array Value) : Array Obj := h.modify g fun
    | .cells _ t frozen => .cells cs t frozen
    | o => o
  let h1 := put w0.heap 3 (Lib.firstTab.map fun z => Value.int .u8 z).toArray
  let h2 := put h1 4 ((List.range 16).flatMap fun i => [Value.int .u8 (Lib.accLo i), Value.int .u8 (Lib.accHi i)]).toArray
  let h3 := put h2 0 (ascTab.map fun z => Value.int .u8 z).toArray
  let h4 := put h3 2 #[.pointer (some ⟨wsBlock + 1, 0, none⟩)]
  { w0 with heap := (h4.push (.cells wsCells.toArray 141)).push (.cells #[.slice (some ⟨wsBlock, 0, none⟩) 7 7, .slice none 0 0, .int .i64 2] 138) }
theorem laid_met (os : Os) (args : Array Value) : laidMet Tryd.prog laidL ((laidWorld os).forCall (fun _ _ => 0) ⟨#[], args, []⟩).memory :=
  (LaidIn.of_run (l := laidL) [3, 4, 0, 2, wsBlock, wsBlock + 1] 8 (by kernel_rfl) (by kernel_rfl) (by kernel_rfl) (by kernel_rfl)).met
theorem laid_vars (os : Os) : ((laidWorld os).forCall (fun _ _ => 0) ⟨#[], #[], []⟩).variablesRefB Tryd.prog = true := by kernel_rfl
end Go.Proofs.YtpjehmblndjknaaDoor

namespace Go.Proofs.YtpjehmblndjknaaDoor.fnNone
open Go.ChangeShapes Go.WideShapes Go.ChangeAt Go.RowKit
open Go.ChangeMaps (open_string shut_string)
set_option linter.unusedVariables false

theorem own : ownKnob Tryd.prog.godebug = none := by kernel_rfl
theorem laidOut : laidOutB Tryd.prog = true := by kernel_rfl

set_option maxRecDepth 100000 in
theorem contract (H : Type) (enc : TypeId × Value → H) (W : World) (base : Nat) (args : Array Value) (ds gs : List (DataW H)) (before : List MemPlace)
    (hval0 : ∀ (j : Nat) t v, Tryd.f4.params[j]? = some t → args[j]? = some v → Value.okWide Tryd.prog W .any base t v)
    (hW : DataW.Whole enc Tryd.prog Tryd.f4.params.toList Rows.fnNoneSpec.vars false W args.toList ds gs before) (hL : laidMetH Tryd.prog laidL W) :
    Calls Tryd.prog 4 args W fun e W' => ∃ v, e = .returned v ∧ Rows.fnNoneSpec.post enc Tryd.prog Tryd.f4 false true false false W args v W' := by
  have hval : ∀ (j : Nat) t v, Tryd.f4.params[j]? = some t → args[j]? = some v → Value.okWide Tryd.prog W .any base t v := hval0
  have hW' := hW
  obtain ⟨p, q, hA0, hV, rfl, hfz, hnd⟩ := hW
  have hA : DataW.TrodAll enc Tryd.prog W 0 (fun _ => true) true Tryd.f4.params.toList args.toList ds p := hA0
  rw [Tryd.params4] at hA hval
  obtain ⟨v0, vs0, d0, ds0, p0, pq0, hargs, rfl, rfl, h0, r0⟩ := trodAll_cons hA
  obtain ⟨rfl, rfl, rfl⟩ := trodAll_nil r0
  obtain rfl : args = #[v0] := by cases args; simp_all
  obtain ⟨rfl, rfl⟩ := trodVars_none hV
  have k0 := h0
  have lt0 : ∀ x ∈ p0, x.block < W.heap.size := by obtain ⟨m, hm⟩ := k0; exact DataW.trod_lt m _ _ _ hm
  obtain ⟨q0, bc0, l0, rfl, e01, e02, e04, e05⟩ := open_bytes_arg (hval 0 22 v0 rfl rfl) h0
  have e03 : l0.length ≤ 9223372036854775807 := by omega
  clear hA0 hval0
  have hw := fnNone_walk (fun v data w hs hl hT => pemDecode_any v data w hs hl hT) l0 q0 bc0 W (tabs_of hL) e01 e03
  refine hw.mono fun e W' ⟨he, bel⟩ => ?_
  subst he
  have t0 := Below.trod laidOut (by kernel_rfl) (of_decide_eq_true (by kernel_rfl)) k0 bel lt0
  exact ⟨_, rfl, _, _, _, [], _, [], hW', trodAll_mk1 (shut_bool Tryd.underlying4 _), (trodAll_cons_mk t0 trodAll_mk0), rfl, bel.frame _, fun h => by cases h⟩

theorem reads (os : Os) {H : Type} (enc : TypeId × Value → H) : ∃ places, DataW.whole enc Tryd.prog ((laidWorld os).forCall (fun _ _ => 0) ⟨#[], #[.slice none 0 0], []⟩).memory Tryd.f4.params.toList Rows.fnNoneSpec.vars false #[Value.slice none 0 0].toList 8 = some ([.nil], [], places) :=
  ⟨[], by kernel_rfl⟩

set_option maxRecDepth 100000 in
theorem lifted (os : Os) (started : os.Started) (H : Type) (enc : TypeId × Value → H) (F : Stop.Interp) :
    ReturnsInHanded {} Tryd.checked os 4 .any ((OpenSpec.ofChange Rows.fnNoneSpec).preRow enc Tryd.prog Tryd.f4 Rows.fnNoneRow.domain false Rows.fnNoneRow.laid) (((OpenSpec.ofChange Rows.fnNoneSpec).at F).post enc Tryd.prog Tryd.f4 false true false false) := by
  obtain ⟨places, hx⟩ := reads os enc
  refine returnsInHanded_of_row (C := Tryd.checked) (s := OpenSpec.ofChange Rows.fnNoneSpec) own started (by kernel_rfl) Tryd.func4
    (witness_row_atRef (enc := enc) (C := Tryd.checked) false (laidWorld os) #[.slice none 0 0] rfl (by kernel_rfl) (by kernel_rfl) (by kernel_rfl)
      (OpenSpec.preRow_of_cond 8 hx (by kernel_rfl) (fun k hk => by cases hk) (by kernel_rfl) (laid_met os _))) ?_
  intro W base args ds gs before hval hW _ hcond _ hL _ _
  exact contract H enc W base args ds gs before hval hW hL

theorem said : Rows.FnNoneSaid :=
  OpenClaim.holds_of_cond 4 Tryd.f4 rfl rfl rfl rfl rfl rfl rfl ⟨rfl, rfl, rfl, rfl, rfl⟩ rfl rfl rfl rfl rfl (by kernel_rfl) Tryd.func4 (by kernel_rfl)
    (of_decide_eq_true (by kernel_rfl)) (by unfold Func.isWrapper; first | (rw [if_pos (by decide +kernel)]; kernel_rfl) | (rw [if_neg (by decide +kernel)]; exact ⟨rfl, rfl⟩))
    (fun os started H enc _ F => by rw [OpenClaim.pre_eq_preRow]; exact lifted os started H enc F)

/-- No parameter wants a stand-in; the program's own looks are off: what the card asks. -/
theorem plain (f : FuncId) (fn : Func) (hf : Tryd.pinned.checked.prog.funcNamed "pemblocks/laws.FnNone" = some f) (hfn : Tryd.pinned.checked.prog.funcs[f]? = some fn) :
    false = Tryd.pinned.checked.prog.looks [] ∧ ∀ (j : Nat) t, fn.params[j]? = some t → Tryd.pinned.checked.prog.wantsStandIn t = false := by
  obtain rfl : f = 4 := Option.some.inj ((show Tryd.prog.funcNamed "pemblocks/laws.FnNone" = some 4 by kernel_rfl).symm.trans hf) |>.symm
  obtain rfl : fn = Tryd.f4 := (Option.some.inj (Tryd.func4.symm.trans hfn)).symm
  refine ⟨by kernel_rfl, fun j t ht => ?_⟩
  rw [Tryd.params4] at ht
  have hm := Array.mem_of_getElem? ht
  simp at hm
  subst hm
  exact (show Tryd.prog.wantsStandIn 22 = false by kernel_rfl)
end Go.Proofs.YtpjehmblndjknaaDoor.fnNone
namespace Go.Proofs.YtpjehmblndjknaaDoor
theorem fnNone_card : Rows.FnNoneCardSaid :=
  Claim7.holds_tied_plain_at .later [] _ _ _ _ fnNone.said (fun _ h => by cases h) (by kernel_rfl) (fun _ h => by cases h) fnNone_row_tie rfl ⟨rfl, rfl⟩ (by kernel_rfl) rfl fnNone.plain (by kernel_rfl)
#print axioms fnNone_card
end Go.Proofs.YtpjehmblndjknaaDoor
