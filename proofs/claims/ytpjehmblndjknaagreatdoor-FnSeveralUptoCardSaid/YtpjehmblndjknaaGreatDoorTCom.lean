/-
  A world for the witnesses: the settled one, the four tables holding what their initialisers lay.
-/
import Derived.Test.YtpjehmblndjknaaGreatDoorEncode
import Derived.Test.YtpjehmblndjknaaGreatDoorBuf
import Derived.Test.YtpjehmblndjknaaGreatDoorForm
import Derived.Test.YtpjehmblndjknaaGreatDoorRows
import Derived.Laws.AppendOwnNone
import Derived.Lib.SlFresh
import Derived.Deep.RegionLaw
import Derived.BigQuiet
import Derived.Deep.QuietTactic
import Derived.Deep.Light
import Derived.Deep.RegionWith
import Derived.Laws.StructEq
import Derived.Test.YtpjehmblndjknaaGreatDoorDecP
import Derived.Test.YtpjehmblndjknaaGreatDoorForm3
import Derived.Test.YtpjehmblndjknaaGreatDoorPemA
import Derived.Test.YtpjehmblndjknaaGreatDoorEnColon
import Derived.Test.YtpjehmblndjknaaGreatDoorDec64
import Derived.RegionTactic
import Derived.Test.YtpjehmblndjknaaGreatDoorWriter
import Derived.Test.YtpjehmblndjknaaGreatDoorArr
import Derived.Test.YtpjehmblndjknaaGreatDoorStr
import Derived.Deep.AppendSrc
import Derived.Deep.Upon
import Derived.Deep.MidRow
import Derived.Deep.RegionHeld3
import Derived.Deep.DeepCutAuto
import Derived.ProofKit
import Derived.OpenShut
import Derived.ShutString
import Derived.ChangeOld
import Derived.Lib.SmallJoins
import Derived.Deep.SlicePairs
import Derived.Lib.Bytes
import Derived.Lib.LaidU8T
import Derived.Lib.LaidTab
import Derived.Deep.DeepHandedRow
import Derived.Deep.DeepWitnessRowRef
import Derived.Deep.DeepLaidRun
import Derived.Lib.LaidIn

namespace Go.Proofs.YtpjehmblndjknaaGreatDoor
open Go.RowKit Go.Maps
set_option linter.unusedSimpArgs false
set_option linter.unusedVariables false

theorem sortOK : SortOK := Tryz.slices_Sort_string

/-- A slice of headers (of the thin package, or of the reference): two cells each. -/
def Hd (w : World) (v : Value) (hs : Hdrs) : Prop :=
  ∃ (p : Option Addr) (cap : Nat), v = .slice p hs.length cap ∧ (hs.length ≤ cap ∧ (p = none → cap = 0)) ∧ (hs ≠ [] → ∃ b o, p = some ⟨b, o, none⟩ ∧
    ∀ (i : Nat) (x : List UInt8 × List UInt8), hs[i]? = some x → w.cell? ⟨b, o + i * 2, none⟩ = some (.string (bs x.1)) ∧ w.cell? ⟨b, o + i * 2 + 1, none⟩ = some (.string (bs x.2)))
theorem Hd.keep {w w' : World} {v : Value} {hs : Hdrs} (h : Hd w v hs) (hk : ∀ b o, (∃ x, w.cell? ⟨b, o, none⟩ = some x) → w'.cell? ⟨b, o, none⟩ = w.cell? ⟨b, o, none⟩) : Hd w' v hs := by
  obtain ⟨p, cap, hv, hl, hc⟩ := h
  refine ⟨p, cap, hv, hl, fun hne => ?_⟩
  obtain ⟨b, o, hp, hc⟩ := hc hne
  refine ⟨b, o, hp, fun i x hx => ?_⟩
  obtain ⟨h1, h2⟩ := hc i x hx
  exact ⟨by rw [hk b _ ⟨_, h1⟩]; exact h1, by rw [hk b _ ⟨_, h2⟩]; exact h2⟩
theorem Hd.below {w w' : World} {v : Value} {hs : Hdrs} (h : Hd w v hs) (hb : Below w.heap.size w w') : Hd w' v hs :=
  h.keep fun b o ⟨_, hx⟩ => hb.cell (p := ⟨b, o, none⟩) (World.block_lt_of_cell? w _ hx)
theorem Hd.nil (w : World) : Hd w (.slice none 0 0) [] := ⟨none, 0, rfl, ⟨Nat.le_refl _, fun _ => rfl⟩, fun h => absurd rfl h⟩

theorem PB.setMap {w w' : World} {pb mb : Nat} {ty : List UInt8} {v : Value} (h : PB w pb ty mb v) (hg : w.grownBy w' (some mb)) (hne : pb ≠ mb) : PB w' pb ty mb v :=
  (hg.block pb (lt_of_heap h) (by simpa using hne)).trans h

set_option maxRecDepth 100000 in
set_option maxHeartbeats 1600000 in
theorem of_any (ty : List UInt8) (hv : Value) (hs : Hdrs) (q : Option Addr) (bl bc : Nat) (w : World) (hH : Hd w hv hs) (hnl : hs.length ≤ 4294967296) (hkl : ∀ p ∈ hs, p.1.length ≤ 140737488355328 ∧ p.2.length ≤ 140737488355328) :
    Calls Tryz.prog 31 #[.agg #[.string (bs ty), hv, .slice q bl bc]] w fun e w' => e = .returned (.pointer (some ⟨w.heap.size + 2, 0, none⟩)) ∧ PB w' (w.heap.size + 2) ty (w.heap.size + 1) (.slice q bl bc) ∧ HM w' (w.heap.size + 1) hs ∧ Below w.heap.size w w' := by
  have hmm := @run_makeMap Tryz.prog
  obtain ⟨p, cap, rfl, hlc, hc⟩ := hH
  have HC := hide hc
  have HK := hide hkl
  have hn63 : hs.length ≤ 9223372036854775807 := by omega
  have HNL := hide hnl
  clear hc hkl hlc hnl
  have H0 : Hid ((((w.alloc (.cells #[.string (bs ty), .slice p hs.length cap, .slice q bl bc] 25)).alloc (.map #[] 0)).alloc (.cells #[.string (bs ty), .map (some (w.heap.size + 1)), .slice q bl bc] 58)).ownsMap Tryz.prog 9 (plainElem (H := Unit) Tryz.prog 9) (w.heap.size + 1) 0 (.map []) ∧
      PB (((w.alloc (.cells #[.string (bs ty), .slice p hs.length cap, .slice q bl bc] 25)).alloc (.map #[] 0)).alloc (.cells #[.string (bs ty), .map (some (w.heap.size + 1)), .slice q bl bc] 58)) (w.heap.size + 2) ty (w.heap.size + 1) (.slice q bl bc) ∧
      Below w.heap.size w (((w.alloc (.cells #[.string (bs ty), .slice p hs.length cap, .slice q bl bc] 25)).alloc (.map #[] 0)).alloc (.cells #[.string (bs ty), .map (some (w.heap.size + 1)), .slice q bl bc] 58))) := by
    refine ⟨?_, ?_, balloc (balloc (balloc (Below.refl _ _) _) _) _⟩
    · have h := World.ownsMap_made (w.alloc (.cells #[.string (bs ty), .slice p hs.length cap, .slice q bl bc] 25)) Tryz.prog 9 (plainElem (H := Unit) Tryz.prog 9)
      rw [World.size_alloc] at h
      exact h.alloc _
    · have h := heap_new ((w.alloc (.cells #[.string (bs ty), .slice p hs.length cap, .slice q bl bc] 25)).alloc (.map #[] 0)) (.cells #[.string (bs ty), .map (some (w.heap.size + 1)), .slice q bl bc] 58)
      rw [World.size_alloc, World.size_alloc] at h
      exact h
  go_enter Tryz.func31, Tryz.ntmps31
  go_wp2_with fail
  go_loopw [16] (fun vi wr => ∃ (k : Nat) (D : DataW Unit), k ≤ hs.length ∧ vi = .int .i64 (k : Int) ∧ wr.ownsMap Tryz.prog 9 (plainElem Tryz.prog 9) (w.heap.size + 1) k D ∧ Hid (MapIs D (hs.take k)) ∧ PB wr (w.heap.size + 2) ty (w.heap.size + 1) (.slice q bl bc) ∧ Below w.heap.size w wr) (fun vi _ => hs.length - (intOf vi).toNat)
  case atStart => exact ⟨0, _, Nat.zero_le _, rfl, (unhide H0).1, mapIs_empty, (unhide H0).2.1, (unhide H0).2.2⟩
  case round =>
    clear H0
    obtain ⟨k, D, hk, rfl, hown, HD, hP, hb⟩ := hrel
    have c1 : wr.cell? ⟨w.heap.size + 1 + 1, 1, none⟩ = some (.map (some (w.heap.size + 1))) := hP.c1
    by_cases hlt : k < hs.length
    · obtain ⟨x, hx⟩ : ∃ x, hs[k]? = some x := ⟨_, List.getElem?_eq_getElem hlt⟩
      obtain ⟨b, o, rfl, hcell⟩ := unhide HC (by rintro rfl; simp at hlt)
      obtain ⟨h1, h2⟩ := hcell k x hx
      have hk1 : wr.cell? ⟨b, o + k * 2, none⟩ = some (.string (bs x.1)) := by rw [hb.cell (p := ⟨b, _, none⟩) (World.block_lt_of_cell? w _ h1)]; exact h1
      have hk2 : wr.cell? ⟨b, o + k * 2 + 1, none⟩ = some (.string (bs x.2)) := by rw [hb.cell (p := ⟨b, _, none⟩) (World.block_lt_of_cell? w _ h2)]; exact h2
      obtain ⟨xl1, xl2⟩ := unhide HK x (List.mem_of_getElem? hx)
      have hkey := key_bs (l := x.1) (by unfold maxLen; omega)
      have HX := hide hx
      clear h1 h2 hcell hx
      have hkm : k < maxLen := by unfold maxLen; omega
      have hval := plainElem_string (H := Unit) Tryz.underlying9 (s := bs x.2) (by rw [bs_size]; unfold maxLen; omega)
      have HB := hide (And.intro hP hb)
      have hA1 : (wr.alloc (.cells #[.string (bs x.1), .string (bs x.2)] 60)).cell? ⟨w.heap.size + 1 + 1, 1, none⟩ = some (.map (some (w.heap.size + 1))) := by
        rw [World.cell?_of_block (w := wr) (Below.heap_alloc _ _ _ (World.block_lt_of_cell? _ _ c1))]; exact c1
      have hA2 : (wr.alloc (.cells #[.string (bs x.1), .string (bs x.2)] 60)).cell? ⟨wr.heap.size, 0, none⟩ = some (.string (bs x.1)) := by rw [cell_of_heap (heap_new wr _)]; rfl
      have hA3 : (wr.alloc (.cells #[.string (bs x.1), .string (bs x.2)] 60)).cell? ⟨wr.heap.size, 1, none⟩ = some (.string (bs x.2)) := by rw [cell_of_heap (heap_new wr _)]; rfl
      have hownA : (wr.alloc (.cells #[.string (bs x.1), .string (bs x.2)] 60)).ownsMap Tryz.prog 9 (plainElem Tryz.prog 9) (w.heap.size + 1) k D := hown.alloc _
      have hPA : PB (wr.alloc (.cells #[.string (bs x.1), .string (bs x.2)] 60)) (w.heap.size + 2) ty (w.heap.size + 1) (.slice q bl bc) := hP.below (balloc (Below.refl _ _) _)
      have hbA : Below w.heap.size w (wr.alloc (.cells #[.string (bs x.1), .string (bs x.2)] 60)) := balloc hb _
      clear hP hb xl1 xl2 c1 hown
      go_wp2_with fail
      generalize hWA : wr.alloc (.cells #[.string (bs x.1), .string (bs x.2)] 60) = wA at hA1 hA2 hA3 hownA hPA hbA ⊢
      clear hWA
      have HB := hide (And.intro hPA hbA)
      clear hPA hbA
      go_still_tail 8, (by kernel_rfl)
      change wpList _ _ _ _ _ wA.drew
      go_wp2_with (first
        | (at_mapUpdate; refine wpList_mapUpdate_own _ rfl _ _ _ 56 rfl 9 9 lawS Tryz.underlying56 _ (w.heap.size + 1) k D rfl hownA.drew hkm _ _ (.string x.1) rfl rfl hkey _ [] hval ?_; intro w1 hown1 hgrow1)
        | fail)
      have hD2 : MapIs (D.put (.string x.1) (.lit (.string x.2))) (hs.take (k + 1)) := by
        rw [List.take_add_one, unhide HX]
        exact (unhide HD).put x.1 x.2
      have hown2 : w1.ownsMap Tryz.prog 9 (plainElem Tryz.prog 9) (w.heap.size + 1) (k + 1) (D.put (.string x.1) (.lit (.string x.2))) := hown1
      have hP2 : PB w1 (w.heap.size + 2) ty (w.heap.size + 1) (.slice q bl bc) := PB.setMap (w := wA.drew) (unhide HB).1 hgrow1 (by omega)
      have hb2 : Below w.heap.size w w1 := (below_drewN (unhide HB).2 1).grown hgrow1 (unhide HB).2.size (fun j hj => by cases hj; omega)
      refine ⟨⟨k + 1, _, by omega, by go_num, hown2, hD2, hP2, hb2⟩, ?_⟩
      simp [intOf]; omega
    · have hke : k = hs.length := by omega
      subst hke
      have HR : Hid (PB wr (w.heap.size + 2) ty (w.heap.size + 1) (.slice q bl bc) ∧ HM wr (w.heap.size + 1) hs ∧ Below w.heap.size w wr) := by
        have hD := unhide HD
        rw [List.take_length] at hD
        exact ⟨hP, ⟨_, D, Nat.le_refl _, hown, hD⟩, hb⟩
      clear hown HD hP hb hlt
      go_wp2
      go_ret
      exact ⟨rfl, unhide HR⟩

theorem noColon_iff (hs : Hdrs) : anyColon hs = false ↔ ∀ k ∈ hkeys hs, hasColon k = false := by
  unfold anyColon
  rw [List.any_eq_false]
  constructor
  · intro h k hk
    obtain ⟨p, hp, e⟩ := List.mem_map.1 (hkeys_mem.1 hk)
    have := h p hp
    unfold hasColon
    rw [← e]
    simpa using this
  · intro h p hp
    have := h p.1 (hkeys_mem.2 (List.mem_map.2 ⟨p, hp, rfl⟩))
    unfold hasColon at this
    simpa using this

theorem buf_ahead (b : Nat) (w : World) : (nilAhead methFuel 86 (.pointer (some ⟨b, 0, none⟩)) "Write").run Tryz.prog w = .ok (some false) w := by kernel_rfl

/-- What EncodeToMemory gives. -/
def MemPost (ty : List UInt8) (hs : Hdrs) (d : List UInt8) (w : World) (e : Ending) (w' : World) : Prop :=
  Below w.heap.size w w' ∧ ((anyColon hs = true ∧ e = .returned (.slice none 0 0)) ∨ (anyColon hs = false ∧ ∃ g cap : Nat, e = .returned (.slice (some ⟨g, 0, none⟩) (pemOut ty hs d).length cap) ∧ Sl w' (.slice (some ⟨g, 0, none⟩) (pemOut ty hs d).length cap) (pemOut ty hs d)))

theorem pemOut_ne (ty : List UInt8) (hs : Hdrs) (d : List UInt8) : 0 < (pemOut ty hs d).length := by
  have := part_lens ty hs d; omega

set_option maxRecDepth 100000 in
set_option maxHeartbeats 1600000 in
theorem pemMem_any (pb mb bc : Nat) (p : Option Addr) (ty d : List UInt8) (hs : Hdrs) (w : World) (hP : PB w pb ty mb (.slice p d.length bc)) (hM : HM w mb hs) (hS : Sl w (.slice p d.length bc) d)
   (hbc : bc ≤ 9223372036854775807) (hkl : ∀ p ∈ hs, p.1.length ≤ 140737488355328) (hnl : hs.length ≤ 4294967296) (hsz : anyColon hs = false → (pemOut ty hs d).length + 8 * d.length ≤ 17592186044416) :
    Calls Tryz.prog 30 #[.pointer (some ⟨pb, 0, none⟩)] w (MemPost ty hs d w) := by
  have hlp : pb < w.heap.size := lt_of_heap hP
  have hlm := hM.lt
  have hb1 : Below w.heap.size w (w.alloc (.cells #[.slice none 0 0, .int .i64 0, .int .i8 0] 84)) := balloc (Below.refl _ _) _
  have hP1 := hP.below hb1
  have hM1 := hM.below hb1
  have hS1 := hS.below hb1
  have HB1 := hide hb1
  cases hc : anyColon hs with
  | true =>
    have hcol : ∃ k ∈ hkeys hs, hasColon k = true := by
      rcases Classical.em (∃ k ∈ hkeys hs, hasColon k = true) with h | h
      · exact h
      · have : anyColon hs = false := (noColon_iff hs).2 (fun k hk => by
          cases hq : hasColon k with
          | false => rfl
          | true => exact absurd ⟨k, hk, hq⟩ h)
        rw [this] at hc; cases hc
    have hcall := hide (encode_colon 86 (.pointer (some ⟨w.heap.size, 0, none⟩)) pb mb ty _ hs _ hP1 hM1 hkl hcol)
    have HC := hide hc
    clear hP1 hM1 hS1 hcol hc hsz hkl hS hP hM hb1
    go_enter Tryz.func30, Tryz.ntmps30
    go_wp2_with fail
    refine (unhide hcall).mono ?_
    rintro e w2 ⟨b, rfl, hb2⟩
    have HB2 : Hid (Below w.heap.size w w2) := bstep (unhide HB1) hb2
    clear hb2 hcall HB1
    go_wp2_with fail
    go_ret
    exact ⟨unhide HB2, .inl ⟨unhide HC, rfl⟩⟩
  | false =>
    have hx : ∃ sb so, (d ≠ [] → p = some ⟨sb, so, none⟩) ∧ Src w sb so d ∧ sb < w.heap.size ∧ d.length ≤ bc := by
      obtain ⟨q, cap, e1, e2, e3⟩ := hS
      injection e1 with e4 e5 e6
      subst e4; subst e6
      by_cases h0 : d = []
      · exact ⟨pb, 0, fun h => absurd h0 h, by rw [h0]; exact Src.nil _ _ _, hlp, e2⟩
      · obtain ⟨sb, so, rfl, hcell⟩ := e3 h0
        obtain ⟨x, hx0⟩ : ∃ x, d[0]? = some x := ⟨_, List.getElem?_eq_getElem (List.length_pos_iff.2 h0)⟩
        exact ⟨sb, so, fun _ => rfl, hcell, World.block_lt_of_cell? w _ (hcell 0 x hx0), e2⟩
    obtain ⟨sb, so, x1, x2, x3, x4⟩ := hx
    have hW := bufOK w.heap.size w.heap.size (Nat.le_refl _)
    have hI : (bufWr w.heap.size w.heap.size).Inv [] (w.alloc (.cells #[.slice none 0 0, .int .i64 0, .int .i8 0] 84)) := Lib.fresh_isBuffer 84 5 w
    have hcall := hide (encode_main sortOK (bufWr w.heap.size w.heap.size) hW (buf_ahead _) pb mb sb so bc p ty [] d hs _ hI hP1 hM1 (by show pb ≠ w.heap.size; omega) (by show mb ≠ w.heap.size; omega) x1 (x2.below hb1 x3) x3 x4 hbc hkl hnl ((noColon_iff hs).1 hc) (by have := hsz hc; simp; omega))
    have HC := hide hc
    have hpos := hide (pemOut_ne ty hs d)
    have HSZ := hide (hsz hc)
    clear hP1 hM1 hS1 hc hsz hkl hS hP hM hb1 x1 x2 x3 x4 hI hW
    go_enter Tryz.func30, Tryz.ntmps30
    go_wp2_with fail
    refine (unhide hcall).mono ?_
    rintro e w2 ⟨ev, rfl, hF2, hR2⟩
    rcases hR2 with ⟨-, rfl, hI2⟩ | ⟨hno, -⟩
    · have HB2 : Hid (Below w.heap.size w w2) := (unhide HB1).trans hF2.1
      rw [List.nil_append] at hI2
      have hI3 : Lib.IsBuffer 84 5 w.heap.size w.heap.size ((pemOut ty hs d).map bv) w2 := hI2
      have hby := hide (Tryz.Buffer_Bytes w.heap.size w.heap.size ((pemOut ty hs d).map bv) w2 hI3)
      clear hI3 hI2 hF2 hcall HB1
      go_wp2_with fail
      refine (unhide hby).mono ?_
      rintro e w3 ⟨v3, rfl, hown, n3, rfl⟩
      have hfin : Hid (∃ g cap : Nat, v3 = .slice (some ⟨g, 0, none⟩) (pemOut ty hs d).length cap ∧ Sl (w2.drewN n3) v3 (pemOut ty hs d)) := by
        have hsl := Sl.of_owns hown
        rcases hown.2 with ⟨rfl, h0⟩ | ⟨g, cap, cur, rfl, _, hg, hc, _, _, ht⟩
        · have := unhide hpos
          rw [List.length_map] at h0; omega
        · refine ⟨g, cap, ?_, hsl⟩
          rw [List.length_map]
      have HB3 := hide (below_drewN (unhide HB2) n3)
      clear hown HB2 hby
      obtain ⟨g, cap, rfl, e2⟩ := unhide hfin
      have HE2 := hide e2
      clear e2 hfin
      go_wp2
      go_ret
      exact ⟨unhide HB3, .inr ⟨unhide HC, g, cap, rfl, unhide HE2⟩⟩
    · exact absurd (fun m hm => by cases hm) hno

set_option maxRecDepth 100000 in
set_option maxHeartbeats 1600000 in
theorem mem_any (ty d : List UInt8) (hv bv : Value) (hs : Hdrs) (w : World) (hH : Hd w hv hs) (hS : Sl w bv d) (hbc : ∀ p n c, bv = .slice p n c → c ≤ 9223372036854775807)
   (hkl : ∀ p ∈ hs, p.1.length ≤ 140737488355328 ∧ p.2.length ≤ 140737488355328) (hnl : hs.length ≤ 4294967296) (hsz : anyColon hs = false → (pemOut ty hs d).length + 8 * d.length ≤ 17592186044416) :
    Calls Tryz.prog 25 #[.agg #[.string (bs ty), hv, bv]] w fun e w' => Below w.heap.size w w' ∧ ((anyColon hs = true ∧ e = .returned (.tuple #[.slice none 0 0, .bool true])) ∨ (anyColon hs = false ∧ ∃ v', e = .returned (.tuple #[v', .bool false]) ∧ Sl w' v' (pemOut ty hs d))) := by
  obtain ⟨q, bc, rfl, hlc, hcell⟩ := hS
  have hS : Sl w (.slice q d.length bc) d := ⟨q, bc, rfl, hlc, hcell⟩
  have hbc := hbc _ _ _ rfl
  have hb0 : Below w.heap.size w (w.alloc (.cells #[.string (bs ty), hv, .slice q d.length bc] 25)) := balloc (Below.refl _ _) _
  have hof := hide (of_any ty hv hs q d.length bc _ (hH.below hb0) hnl hkl)
  obtain ⟨p0, cap0, rfl, _⟩ := hH
  have HS := hide hS
  have HB0 := hide hb0
  have HK := hide hkl
  have HSZ := hide hsz
  have HNL := hide hnl
  have q22 : ∀ (w : World) (a : Option Addr) (n c n' c' : Nat), (binOp .eql 23 (.slice a n c) (.slice none n' c')).run Tryz.prog w = .ok (.bool a.isNone) w := fun w a n c n' c' => Lib.run_eql_slice_nil w _ _ a n c n' c' Tryz.underlying23
  clear hS hb0 hkl hsz hcell hlc hnl
  go_enter Tryz.func25, Tryz.ntmps25
  go_wp2_with fail
  rw [World.size_alloc] at hof
  refine (unhide hof).mono ?_
  rintro e w1 ⟨rfl, hP, hM, hb1⟩
  have hS1 := ((unhide HS).below (unhide HB0)).below (w' := w1) (by rw [World.size_alloc]; exact hb1)
  have HB1 : Hid (Below w.heap.size w w1) := (unhide HB0).trans (hb1.mono (by omega))
  have hmem := hide (pemMem_any _ _ bc q ty d hs w1 hP hM hS1 hbc (fun p hp => (unhide HK p hp).1) (unhide HNL) (unhide HSZ))
  clear hP hM hb1 hS1 hof HB0 HS HK HSZ HNL
  go_wp2_with fail
  refine (unhide hmem).mono ?_
  rintro e w2 ⟨hb2, hcase⟩
  have HB2 : Hid (Below w.heap.size w w2) := bstep (unhide HB1) hb2
  rcases hcase with ⟨hc, rfl⟩ | ⟨hc, g, cap, rfl, hsl⟩
  · have HC := hide hc
    clear hc hb2 hmem HB1
    go_wp2_with fail
    go_ret2
    exact ⟨unhide HB2, .inl ⟨unhide HC, rfl⟩⟩
  · have HC := hide hc
    have HSL := hide hsl
    clear hc hb2 hmem HB1 hsl
    go_wp2_with fail
    go_ret2
    exact ⟨unhide HB2, .inr ⟨unhide HC, _, rfl, unhide HSL⟩⟩
end Go.Proofs.YtpjehmblndjknaaGreatDoor

namespace Go.Proofs.YtpjehmblndjknaaGreatDoor
open Go.RowKit Go.Maps
set_option linter.unusedSimpArgs false
set_option linter.unusedVariables false

def worksOut : List UInt8 := [45, 45, 45, 45, 45, 66, 69, 71, 73, 78, 32, 65, 45, 45, 45, 45, 45, 10, 45, 45, 45, 45, 45, 69, 78, 68, 32, 65, 45, 45, 45, 45, 45, 10]
theorem works_out : pemOut [65] [] [] = worksOut := by
  unfold pemOut headOut
  rw [if_pos rfl, show lines64 (b64 []) = [] by rw [show b64 [] = [] from rfl, lines64, dif_neg (by simp), if_pos rfl]]
  rfl

set_option maxRecDepth 100000 in
set_option maxHeartbeats 800000 in
theorem works_any (w : World) : Calls Tryz.prog 14 #[] w fun e w' => e = .returned (.bool true) ∧ Below w.heap.size w w' := by
  have hcall := hide (mem_any [65] [] (.slice none 0 0) (.slice none 0 0) [] w (Hd.nil w) (Sl.nil w) (fun p n c h => by injection h with _ _ h3; omega) (fun p hp => by cases hp) (by decide) (fun _ => by rw [works_out]; decide))
  go_enter Tryz.func14, Tryz.ntmps14
  go_wp2_with fail
  refine (unhide hcall).mono ?_
  rintro e w1 ⟨hb1, hcase⟩
  rcases hcase with ⟨hc, -⟩ | ⟨-, v', rfl, hsl⟩
  · cases hc
  · rw [works_out] at hsl
    have hk1 : (convert 23 9 v').run Tryz.prog w1 = .ok (.string ⟨worksOut.toArray⟩) w1 := conv_sl2 hsl w1 (Below.refl _ _)
    have HB := hide hb1
    unfold worksOut at hk1
    clear hsl hb1 hcall
    go_wp2
    go_ret
    exact ⟨rfl, unhide HB⟩

/-- All that the bound speaks of. -/
def fitsH (p : List UInt8 × List UInt8) : Bool := decide (p.1.length ≤ 2147483647) && decide (p.2.length ≤ 2147483647)
def fitsHs (hs : Hdrs) : Bool := decide (hs.length ≤ 2147483647) && hs.all fitsH
def fitsB (ty : List UInt8) (hs : Hdrs) (d : List UInt8) : Bool := decide (ty.length ≤ 2147483647) && fitsHs hs && decide (d.length ≤ 2147483647)

set_option maxRecDepth 100000 in
set_option maxHeartbeats 400000 in
theorem zzFits3_any (k v : List UInt8) (w : World) (hk : k.length ≤ 9223372036854775807) (hv : v.length ≤ 9223372036854775807) :
    Calls Tryz.prog 29 #[.agg #[.string (bs k), .string (bs v)]] w fun e w' => e = .returned (.bool (fitsH (k, v))) ∧ Below w.heap.size w w' := by
  by_cases h1 : k.length ≤ 2147483647
  · have i1 : ¬ (2147483647 : Int) < (k.length : Int) := by omega
    by_cases h2 : v.length ≤ 2147483647
    · have i2 : ¬ (2147483647 : Int) < (v.length : Int) := by omega
      have HF : Hid (fitsH (k, v) = true) := by show _ = _; unfold fitsH; simp [h1, h2]
      clear h1 h2
      go_enter Tryz.func29, Tryz.ntmps29
      go_wp2
      go_ret
      exact ⟨ret_bool (unhide HF).symm, balloc (Below.refl _ _) _⟩
    · have i2 : (2147483647 : Int) < (v.length : Int) := by omega
      have HF : Hid (fitsH (k, v) = false) := by show _ = _; unfold fitsH; simp [h2]
      clear h1 h2
      go_enter Tryz.func29, Tryz.ntmps29
      go_wp2
      go_ret
      exact ⟨ret_bool (unhide HF).symm, balloc (Below.refl _ _) _⟩
  · have i1 : (2147483647 : Int) < (k.length : Int) := by omega
    have HF : Hid (fitsH (k, v) = false) := by show _ = _; unfold fitsH; simp [h1]
    clear h1
    go_enter Tryz.func29, Tryz.ntmps29
    go_wp2
    go_ret
    exact ⟨ret_bool (unhide HF).symm, balloc (Below.refl _ _) _⟩

theorem fitsHs_at {hs : Hdrs} {j : Nat} {p : List UInt8 × List UInt8} (h : hs[j]? = some p) (hf : fitsH p = false) : fitsHs hs = false := by
  unfold fitsHs
  rw [Bool.and_eq_false_iff]
  right
  rw [List.all_eq_false]
  exact ⟨p, List.mem_of_getElem? h, by simp [hf]⟩
theorem fitsHs_all {hs : Hdrs} (hn : hs.length ≤ 2147483647) (h : ∀ (j : Nat) p, hs[j]? = some p → j < hs.length → fitsH p = true) : fitsHs hs = true := by
  unfold fitsHs
  rw [Bool.and_eq_true, List.all_eq_true]
  refine ⟨by simpa using hn, fun p hp => ?_⟩
  obtain ⟨j, hj, rfl⟩ := List.getElem_of_mem hp
  exact h j _ (List.getElem?_eq_getElem hj) hj

set_option maxRecDepth 100000 in
set_option maxHeartbeats 800000 in
theorem zzFits2_any (hs : Hdrs) (v : Value) (w : World) (hv : Hd w v hs) (hn : hs.length ≤ 9223372036854775807) (hx : ∀ p ∈ hs, p.1.length ≤ 9223372036854775807 ∧ p.2.length ≤ 9223372036854775807) :
    Calls Tryz.prog 24 #[v] w fun e w' => e = .returned (.bool (fitsHs hs)) ∧ Below w.heap.size w w' := by
  obtain ⟨p, cap, rfl, hlc, hp⟩ := hv
  by_cases hbig : 2147483647 < hs.length
  · have hi : (2147483647 : Int) < (hs.length : Int) := by omega
    have HF : Hid (fitsHs hs = false) := by show _ = _; unfold fitsHs; rw [Bool.and_eq_false_iff]; left; simpa using hbig
    clear hp hlc hx hbig
    go_enter Tryz.func24, Tryz.ntmps24
    go_wp2
    go_ret
    exact ⟨ret_bool (unhide HF).symm, Below.refl _ _⟩
  · have hi : ¬ (2147483647 : Int) < (hs.length : Int) := by omega
    have HB := hide hbig
    have HP := hide hp
    have HX := hide hx
    clear hp hbig hlc hx
    go_enter Tryz.func24, Tryz.ntmps24
    go_wp2
    go_loopw [10] (fun vk wr => ∃ k : Nat, k ≤ hs.length ∧ vk = .int .i64 (k : Int) ∧ Below w.heap.size w wr ∧ Hid (∀ (j : Nat) p, hs[j]? = some p → j < k → fitsH p = true)) (fun vk _ => hs.length - (intOf vk).toNat)
    case atStart => exact ⟨0, Nat.zero_le _, rfl, Below.refl _ _, fun j l _ h => absurd h (by omega)⟩
    case round =>
      obtain ⟨k, hk, rfl, hb, HA⟩ := hrel
      by_cases hlt : k < hs.length
      · obtain ⟨x, hx⟩ : ∃ x, hs[k]? = some x := ⟨_, List.getElem?_eq_getElem hlt⟩
        obtain ⟨b, o, rfl, hcell⟩ := unhide HP (by rintro rfl; simp at hlt)
        obtain ⟨h1, h2⟩ := hcell k x hx
        have hk1 : wr.cell? ⟨b, o + k * 2, none⟩ = some (.string (bs x.1)) := by rw [hb.cell (p := ⟨b, _, none⟩) (World.block_lt_of_cell? w _ h1)]; exact h1
        have hk2 : wr.cell? ⟨b, o + k * 2 + 1, none⟩ = some (.string (bs x.2)) := by rw [hb.cell (p := ⟨b, _, none⟩) (World.block_lt_of_cell? w _ h2)]; exact h2
        obtain ⟨xl1, xl2⟩ := unhide HX x (List.mem_of_getElem? hx)
        have hcall := fun W => zzFits3_any x.1 x.2 W xl1 xl2
        have HC := hide hcall
        have HXX := hide hx
        clear h1 h2 hcell hx hcall xl1 xl2
        go_wp2_with fail
        refine (unhide HC _).mono ?_
        rintro e w2 ⟨rfl, hb2⟩
        have hb3 : Below w.heap.size w w2 := bstep (balloc hb _) hb2
        cases hf : fitsH (x.1, x.2) with
        | true =>
          have HA2 : Hid (∀ (j : Nat) p, hs[j]? = some p → j < k + 1 → fitsH p = true) := by
            intro j p hp hjk
            by_cases e : j = k
            · subst e; rw [unhide HXX] at hp; cases hp; exact hf
            · exact unhide HA j p hp (by omega)
          clear hf hb2 hb HC
          go_wp2
          refine ⟨⟨k + 1, by omega, by go_num, hb3, HA2⟩, ?_⟩
          simp [intOf]; omega
        | false =>
          have HF := hide (fitsHs_at (unhide HXX) hf)
          clear hf hb2 hb HC
          go_wp2
          go_ret
          exact ⟨ret_bool (unhide HF).symm, hb3⟩
      · have HF := hide (fitsHs_all (by have := unhide HB; omega) (fun j l hl hj => unhide HA j l hl (by omega)))
        clear HA
        go_wp2
        go_ret
        exact ⟨ret_bool (unhide HF).symm, hb⟩

set_option maxRecDepth 100000 in
set_option maxHeartbeats 800000 in
theorem zzFits1_any (ty d : List UInt8) (hv bv : Value) (hs : Hdrs) (w : World) (hH : Hd w hv hs) (hS : Sl w bv d) (h1 : ty.length ≤ 9223372036854775807) (hn : hs.length ≤ 9223372036854775807) (hd : d.length ≤ 9223372036854775807) (hx : ∀ p ∈ hs, p.1.length ≤ 9223372036854775807 ∧ p.2.length ≤ 9223372036854775807) :
    Calls Tryz.prog 11 #[.agg #[.string (bs ty), hv, bv]] w fun e w' => e = .returned (.bool (fitsB ty hs d)) ∧ Below w.heap.size w w' := by
  have hb0 : Below w.heap.size w (w.alloc (.cells #[.string (bs ty), hv, bv] 25)) := balloc (Below.refl _ _) _
  have hcall := zzFits2_any hs hv _ (hH.below hb0) hn hx
  rw [World.size_alloc] at hcall
  have HC := hide hcall
  obtain ⟨p, cap, rfl, _⟩ := hH
  obtain ⟨q, bc, rfl, _⟩ := hS
  clear hcall hx hb0
  by_cases h2 : ty.length ≤ 2147483647
  · have i1 : ¬ (2147483647 : Int) < (ty.length : Int) := by omega
    go_enter Tryz.func11, Tryz.ntmps11
    go_wp2_with fail
    refine (unhide HC).mono ?_
    rintro e w2 ⟨rfl, hb2⟩
    have hb3 : Below w.heap.size w w2 := (balloc (Below.refl _ _) _).trans (hb2.mono (by omega))
    have hc2 : w2.cell? ⟨w.heap.size, 2, none⟩ = some (.slice q d.length bc) := by
      rw [hb2.cell (p := ⟨w.heap.size, 2, none⟩) (Nat.lt_succ_self _), cell_of_heap (heap_new w _)]; rfl
    cases hf : fitsHs hs with
    | true =>
      by_cases h3 : d.length ≤ 2147483647
      · have i3 : ¬ (2147483647 : Int) < (d.length : Int) := by omega
        have HF : Hid (fitsB ty hs d = true) := by show _ = _; unfold fitsB; simp [h2, h3, hf]
        clear hf hb2 HC h2 h3
        go_wp2
        go_ret
        exact ⟨ret_bool (unhide HF).symm, hb3⟩
      · have i3 : (2147483647 : Int) < (d.length : Int) := by omega
        have HF : Hid (fitsB ty hs d = false) := by show _ = _; unfold fitsB; simp [h3]
        clear hf hb2 HC h2 h3
        go_wp2
        go_ret
        exact ⟨ret_bool (unhide HF).symm, hb3⟩
    | false =>
      have HF : Hid (fitsB ty hs d = false) := by show _ = _; unfold fitsB; simp [hf]
      clear hf hb2 HC h2 hc2
      go_wp2
      go_ret
      exact ⟨ret_bool (unhide HF).symm, hb3⟩
  · have i1 : (2147483647 : Int) < (ty.length : Int) := by omega
    have HF : Hid (fitsB ty hs d = false) := by show _ = _; unfold fitsB; simp [h2]
    clear h2 HC
    go_enter Tryz.func11, Tryz.ntmps11
    go_wp2
    go_ret
    exact ⟨ret_bool (unhide HF).symm, balloc (Below.refl _ _) _⟩

theorem fits_ty {ty : List UInt8} {hs : Hdrs} {d : List UInt8} (h : fitsB ty hs d = true) : ty.length ≤ 2147483647 ∧ hs.length ≤ 2147483647 ∧ d.length ≤ 2147483647 ∧ ∀ p ∈ hs, p.1.length ≤ 2147483647 ∧ p.2.length ≤ 2147483647 := by
  unfold fitsB fitsHs fitsH at h
  simp only [Bool.and_eq_true, decide_eq_true_eq, List.all_eq_true] at h
  exact ⟨h.1.1, h.1.2.1, h.2, h.1.2.2⟩
end Go.Proofs.YtpjehmblndjknaaGreatDoor

namespace Go.Proofs.YtpjehmblndjknaaGreatDoor
open Go.RowKit Go.Maps
set_option linter.unusedSimpArgs false
set_option linter.unusedVariables false

def hcells (hs : Hdrs) : List Value := hs.flatMap fun p => [.string (bs p.1), .string (bs p.2)]
theorem hcells_len (hs : Hdrs) : (hcells hs).length = hs.length * 2 := by
  induction hs with
  | nil => rfl
  | cons p l ih => show ([_, _] ++ hcells l).length = _; rw [List.length_append, ih, List.length_cons]; simp; omega
theorem hcells_snoc (hs : Hdrs) (k v : List UInt8) : hcells (hs ++ [(k, v)]) = hcells hs ++ [.string (bs k), .string (bs v)] := by
  unfold hcells; rw [List.flatMap_append]; rfl
theorem hcells_one {hs : Hdrs} : ∀ u ∈ hcells hs, u.oneCell' = true := by
  intro u hu
  unfold hcells at hu
  rw [List.mem_flatMap] at hu
  obtain ⟨p, _, hp⟩ := hu
  simp only [List.mem_cons, List.not_mem_nil, or_false] at hp
  rcases hp with rfl | rfl <;> rfl
theorem hcells_even : ∀ (hs : Hdrs) (i : Nat), (hcells hs)[i * 2]? = (hs[i]?).map fun p => .string (bs p.1)
  | [], i => by simp [hcells]
  | p :: l, 0 => rfl
  | p :: l, i + 1 => by
    have e : (i + 1) * 2 = i * 2 + 1 + 1 := by omega
    rw [e]
    show (hcells l)[i * 2]? = _
    rw [hcells_even l i]; rfl
theorem hcells_odd : ∀ (hs : Hdrs) (i : Nat), (hcells hs)[i * 2 + 1]? = (hs[i]?).map fun p => .string (bs p.2)
  | [], i => by simp [hcells]
  | p :: l, 0 => rfl
  | p :: l, i + 1 => by
    have e : (i + 1) * 2 + 1 = i * 2 + 1 + 1 + 1 := by omega
    rw [e]
    show (hcells l)[i * 2 + 1]? = _
    rw [hcells_odd l i]; rfl

/-- What a slice of headers holds, cell by cell. -/
theorem Hd.cells {w : World} {v : Value} {hs : Hdrs} (h : Hd w v hs) : ∃ (p : Option Addr) (cap : Nat), v = .slice p hs.length cap ∧ ((p = none ∧ cap = 0 ∧ hs = []) ∨ ∃ a, p = some a ∧ ∀ (j : Nat) u, (hcells hs)[j]? = some u → w.cell? (a.add j) = some u) := by
  obtain ⟨p, cap, hv, ⟨hl, hn⟩, hc⟩ := h
  refine ⟨p, cap, hv, ?_⟩
  by_cases h0 : hs = []
  · cases p with
    | none => exact .inl ⟨rfl, hn rfl, h0⟩
    | some a => exact .inr ⟨a, rfl, fun j u hu => by rw [h0] at hu; simp [hcells] at hu⟩
  · obtain ⟨b, o, rfl, hcell⟩ := hc h0
    refine .inr ⟨_, rfl, fun j u hu => ?_⟩
    rw [addr_add]
    have hj : j < hs.length * 2 := by rw [← hcells_len]; exact (List.getElem?_eq_some_iff.1 hu).1
    have hi : j / 2 < hs.length := by omega
    obtain ⟨h1, h2⟩ := hcell (j / 2) _ (List.getElem?_eq_getElem hi)
    by_cases he : j % 2 = 0
    · have e : j = j / 2 * 2 := by omega
      have hu2 : (hcells hs)[j / 2 * 2]? = some u := by rw [← e]; exact hu
      rw [hcells_even, List.getElem?_eq_getElem hi] at hu2
      have e3 := Option.some.inj hu2
      rw [e, ← e3]; exact h1
    · have e : j = j / 2 * 2 + 1 := by omega
      have hu2 : (hcells hs)[j / 2 * 2 + 1]? = some u := by rw [← e]; exact hu
      rw [hcells_odd, List.getElem?_eq_getElem hi] at hu2
      have e3 := Option.some.inj hu2
      rw [e, ← e3, ← Nat.add_assoc]; exact h2
theorem Hd.of_owns {w : World} {base : Nat} {T : TypeId} {v : Value} {n : Nat} {hs : Hdrs} (h : w.ownsRow base T 2 v n (hcells hs)) : Hd w v hs := by
  obtain ⟨h1, h2⟩ := h
  have hn : n = hs.length := by rw [hcells_len] at h1; omega
  rcases h2 with ⟨rfl, h0⟩ | ⟨g, cap, cur, rfl, _, hg, hc, _, _, ht⟩
  · obtain rfl : hs = [] := List.eq_nil_of_length_eq_zero (by omega)
    exact Hd.nil w
  · subst hn
    refine ⟨_, cap, rfl, ⟨hc, fun h => by cases h⟩, fun _ => ⟨g, 0, rfl, fun i x hx => ?_⟩⟩
    have hi : i < hs.length := (List.getElem?_eq_some_iff.1 hx).1
    have key : ∀ (j : Nat) u, (hcells hs)[j]? = some u → w.cell? ⟨g, 0 + j, none⟩ = some u := by
      intro j u hu
      rw [cell_of_heap hg, Nat.zero_add, ← Array.getElem?_toList]
      rw [← ht, List.getElem?_take] at hu
      split at hu
      · exact hu
      · cases hu
    exact ⟨key (i * 2) _ (by rw [hcells_even, hx]; rfl), key (i * 2 + 1) _ (by rw [hcells_odd, hx]; rfl)⟩

theorem ownsRow_setCell {w : World} {base n size : Nat} {e : TypeId} {v : Value} {xs : List Value} (h : w.ownsRow base e size v n xs) {b : Nat} (hb : b < base) (i : Nat) (u : Value) : (w.setCell ⟨b, i, none⟩ u).ownsRow base e size v n xs := by
  refine ⟨h.1, ?_⟩
  rcases h.2 with h2 | ⟨g, cap, cur, rfl, hbase, hg, r⟩
  · exact .inl h2
  · exact .inr ⟨g, cap, cur, rfl, hbase, (Below.heap_setCell _ _ _ _ (fun e => by have e2 : g = b := e; omega)).trans hg, r⟩
theorem infoH : (Tryz.prog.info? 60).map (fun i => (i.zero, i.size, i.bytes)) = some (some (.agg #[.string ⟨#[]⟩, .string ⟨#[]⟩]), 2, 32) := by kernel_rfl
theorem infoG : (Tryz.prog.info? 62).map (fun i => (i.zero, i.size, i.bytes)) = some (some (.agg #[.string ⟨#[]⟩, .string ⟨#[]⟩]), 2, 32) := by kernel_rfl

/-- append(v0, u...), v0 of the call's own, u a slice of headers, from wherever. -/
theorem append_hd (t e : TypeId) (ht : Tryz.prog.underlying t = some (.slice e)) (he : (Tryz.prog.info? e).map (fun i => (i.zero, i.size, i.bytes)) = some (some (.agg #[.string ⟨#[]⟩, .string ⟨#[]⟩]), 2, 32)) (ty : TypeId) {w w0 : World} {base n0 : Nat} {v0 u : Value} {hs0 hs : Hdrs}
    (hown : w.ownsRow base e 2 v0 n0 (hcells hs0)) (hu : Hd w u hs) (hsz : n0 + hs.length ≤ 4294967297) (hbase : base ≤ w.heap.size) :
    ∃ v' w', (Builtin.append_ #[t, t] ty #[v0, u]).run Tryz.prog w = .ok v' w' ∧ w'.ownsRow base e 2 v' (n0 + hs.length) (hcells (hs0 ++ hs)) ∧ w.grownBy w' v0.ownBlock := by
  obtain ⟨i, hi, h1, h2, h3⟩ := info_parts he
  obtain ⟨p, cap, rfl, hc⟩ := hu.cells
  have happ : hcells (hs0 ++ hs) = hcells hs0 ++ hcells hs := by unfold hcells; rw [List.flatMap_append]
  rcases hc with ⟨rfl, rfl, rfl⟩ | ⟨a, rfl, hcell⟩
  · refine ⟨v0, w, run_append_owned_none w base t ty e i 2 ht hi v0 n0 _ hown, ?_, ⟨rfl, rfl, rfl, Nat.le_refl _, fun _ _ _ => rfl⟩⟩
    simpa using hown
  · obtain ⟨v', w', r1, r2, r3, _⟩ := run_append_own (P := Tryz.prog) (w := w) base t ty e i _ 2 32 ht hi h1 h2 h3 rfl (by decide) v0 n0 _ hown a hs.length cap (hcells hs) (hcells_len hs) hcell hcells_one (by unfold maxLen; omega) (by omega) hbase
    exact ⟨v', w', r1, by rw [happ]; exact r2, r3⟩
/-- append(v0, {k, v}): one header behind. -/
theorem append_hd1 (t e : TypeId) (ht : Tryz.prog.underlying t = some (.slice e)) (he : (Tryz.prog.info? e).map (fun i => (i.zero, i.size, i.bytes)) = some (some (.agg #[.string ⟨#[]⟩, .string ⟨#[]⟩]), 2, 32)) (ty : TypeId) {w : World} {base n0 : Nat} {v0 : Value} {hs0 : Hdrs} (k v : List UInt8)
    (hown : w.ownsRow base e 2 v0 n0 (hcells hs0)) (hsz : n0 + 1 ≤ 4294967297) (hbase : base ≤ w.heap.size) (T : TypeId) :
    ∃ v' w', (Builtin.append_ #[t, t] ty #[v0, .slice (some ⟨w.heap.size, 0, none⟩) 1 1]).run Tryz.prog (w.alloc (.cells #[.string (bs k), .string (bs v)] T)) = .ok v' w' ∧ w'.ownsRow base e 2 v' (n0 + 1) (hcells (hs0 ++ [(k, v)])) ∧ (w.alloc (.cells #[.string (bs k), .string (bs v)] T)).grownBy w' v0.ownBlock := by
  have hH : Hd (w.alloc (.cells #[.string (bs k), .string (bs v)] T)) (.slice (some ⟨w.heap.size, 0, none⟩) 1 1) [(k, v)] := by
    refine ⟨_, 1, rfl, ⟨Nat.le_refl _, fun h => by cases h⟩, fun _ => ⟨w.heap.size, 0, rfl, fun i x hx => ?_⟩⟩
    match i, hx with
    | 0, hx =>
      simp at hx
      subst hx
      exact ⟨by rw [cell_of_heap (heap_new w _)]; rfl, by rw [cell_of_heap (heap_new w _)]; rfl⟩
    | i + 1, hx => simp at hx
  exact append_hd (w0 := w) t e ht he ty (hown.alloc _) hH hsz (by rw [World.size_alloc]; omega)

/-- append as one step of a region that draws, its run known by an equation. -/
theorem step_append_run {P : Program} {ops : Array Oper} {o : Oper} {a : Act} {w : World} {K : Act → World → Prop} {Q : Exit → Act → World → Prop} {E : Prop}
    (hg : o.guard = none) (s x : Operand) (t : TypeId) (hop : o.op = Op.call { callee := Callee.builtin Builtin.append, args := #[s, x], argTypes := #[t, t] })
    (v u : Value) (hs : a.eval s = v) (hx : a.eval x = u) {v' : Value} {w' : World} (hr : (Builtin.append_ #[t, t] o.type #[v, u]).run P w = .ok v' w')
    (hK : K (a.put o.dst v') w') : if Region.wanted o (yielded ops a.tmps) = true then Oper.wp P o a w K Q else E := by
  have hw : Region.wanted o (yielded ops a.tmps) = true := by simp [Region.wanted, hg]
  rw [if_pos hw]
  unfold Oper.wp
  simp [execOp, hop, resolve, invoke, builtin, hs, hx, hr, Result.andThen]
  exact hK
end Go.Proofs.YtpjehmblndjknaaGreatDoor

namespace Go.Proofs.YtpjehmblndjknaaGreatDoor
open Go.RowKit Go.Maps
set_option linter.unusedSimpArgs false
set_option linter.unusedVariables false

set_option maxRecDepth 100000 in
set_option maxHeartbeats 1600000 in
theorem block_any (ty : List UInt8) (hv : Value) (hs : Hdrs) (q : Option Addr) (bl bc : Nat) (w : World) (hH : Hd w hv hs) (hnl : hs.length ≤ 4294967295) :
    Calls Tryz.prog 17 #[.agg #[.string (bs ty), hv, .slice q bl bc]] w fun e w' => ∃ hv', e = .returned (.agg #[.string (bs ty), hv', .slice q bl bc]) ∧ Hd w' hv' hs ∧ Below w.heap.size w w' := by
  obtain ⟨p, cap, rfl, hlc, hc⟩ := hH
  have HC := hide hc
  have hn63 : hs.length ≤ 9223372036854775807 := by omega
  have HNL := hide hnl
  clear hc hlc hnl
  go_enter Tryz.func17, Tryz.ntmps17
  go_wp2_with fail
  go_loopw [14] (fun vi wr => ∃ (k : Nat) (vk : Value), k ≤ hs.length ∧ vi = .int .i64 (k : Int) ∧ wr.heap[w.heap.size + 2]? = some (.cells #[.string (bs ty), vk, .slice q bl bc] 36 (0, 0)) ∧
     (∃ c1 : Array Value, wr.heap[w.heap.size + 1]? = some (.cells c1 36 (0, 0)) ∧ c1.size = 3) ∧ wr.ownsRow (w.heap.size + 3) 62 2 vk k (hcells (hs.take k)) ∧ Below w.heap.size w wr) (fun vi _ => hs.length - (intOf vi).toNat)
  case atStart =>
    have h2 := heap_new ((w.alloc (.cells #[.string (bs ty), .slice p hs.length cap, .slice q bl bc] 25)).alloc (.cells #[.string ⟨#[]⟩, .slice none 0 0, .slice none 0 0] 36)) (.cells #[.string (bs ty), .slice none 0 0, .slice q bl bc] 36)
    have h1 := heap_new (w.alloc (.cells #[.string (bs ty), .slice p hs.length cap, .slice q bl bc] 25)) (.cells #[.string ⟨#[]⟩, .slice none 0 0, .slice none 0 0] 36)
    rw [World.size_alloc] at h1 h2
    rw [World.size_alloc] at h2
    exact ⟨0, .slice none 0 0, Nat.zero_le _, rfl, h2, ⟨_, (Below.heap_alloc _ _ _ (by rw [World.size_alloc, World.size_alloc]; omega)).trans h1, rfl⟩, World.ownsRow_nil _ _ _ _, balloc (balloc (balloc (Below.refl _ _) _) _) _⟩
  case round =>
    obtain ⟨k, vk, hk, rfl, hout, hres, hown, hb⟩ := hrel
    have hsz : w.heap.size + 2 < wr.heap.size := lt_of_heap hout
    obtain ⟨pk, ck, rfl, _⟩ := Hd.of_owns hown
    have e0 : (hs.take k).length = k := by rw [List.length_take]; omega
    rw [e0] at hout hown
    by_cases hlt : k < hs.length
    · obtain ⟨x, hx⟩ : ∃ x, hs[k]? = some x := ⟨_, List.getElem?_eq_getElem hlt⟩
      obtain ⟨b, o, rfl, hcell⟩ := unhide HC (by rintro rfl; simp at hlt)
      obtain ⟨h1, h2⟩ := hcell k x hx
      have hk1 : wr.cell? ⟨b, o + k * 2, none⟩ = some (.string (bs x.1)) := by rw [hb.cell (p := ⟨b, _, none⟩) (World.block_lt_of_cell? w _ h1)]; exact h1
      have hk2 : wr.cell? ⟨b, o + k * 2 + 1, none⟩ = some (.string (bs x.2)) := by rw [hb.cell (p := ⟨b, _, none⟩) (World.block_lt_of_cell? w _ h2)]; exact h2
      have c1 : wr.cell? ⟨w.heap.size + 1 + 1, 1, none⟩ = some (.slice pk k ck) := by rw [cell_of_heap hout]; rfl
      obtain ⟨v2, w2, hr2, hown2, hg2⟩ := append_hd1 34 62 Tryz.underlying34 infoG 34 x.1 x.2 (hown.alloc (.cells #[.string (bs x.1), .string (bs x.2)] 60)) (by have := unhide HNL; omega) (by rw [World.size_alloc]; omega) 62
      rw [World.size_alloc] at hr2
      have hlt2 := (hown.alloc (.cells #[.string (bs x.1), .string (bs x.2)] 60)).lt
      have htk : hs.take k ++ [(x.1, x.2)] = hs.take (k + 1) := by rw [List.take_add_one, hx]; rfl
      rw [htk] at hown2
      have hkeep : ∀ (j : Nat) o, j < w.heap.size + 3 → wr.heap[j]? = some o → w2.heap[j]? = some o := by
        intro j o hj ho
        refine (hg2.block j (by rw [World.size_alloc, World.size_alloc]; omega) (fun e => ?_)).trans ((Below.heap_alloc _ _ _ (by rw [World.size_alloc]; omega)).trans ((Below.heap_alloc _ _ _ (by omega)).trans ho))
        have := (hlt2 _ e.symm).1
        omega
      have hout2 := hkeep _ _ (by omega) hout
      have hb2 : Below w.heap.size w w2 := (balloc (balloc hb _) _).grown hg2 (by rw [World.size_alloc, World.size_alloc]; omega) (fun j hj => by have := (hlt2 _ hj).1; omega)
      obtain ⟨cr, hcr, hcr3⟩ := hres
      have hres2 := hkeep _ _ (by omega) hcr
      obtain ⟨p2, c2, rfl, _⟩ := Hd.of_owns hown2
      have e1 : (hs.take (k + 1)).length = k + 1 := by rw [List.length_take]; omega
      rw [e1] at hr2 hown2
      have c21 : w2.cell? ⟨w.heap.size + 1 + 1, 1, none⟩ = some (.slice pk k ck) := by rw [cell_of_heap hout2]; rfl
      have f21 : w2.frozen? ⟨w.heap.size + 1 + 1, 1, none⟩ = false := frozen_of_heap hout2 _
      have hout3 := heap_set_same hout2 (i := 1) (.slice p2 (k + 1) c2)
      have hres3 : (w2.setCell ⟨w.heap.size + 1 + 1, 1, none⟩ (.slice p2 (k + 1) c2)).heap[w.heap.size + 1]? = _ := (Below.heap_setCell _ _ _ _ (fun e => by have e2 : w.heap.size + 1 = w.heap.size + 1 + 1 := e; omega)).trans hres2
      have hown3 := ownsRow_setCell hown2 (show w.heap.size + 1 + 1 < w.heap.size + 3 by omega) 1 (.slice p2 (k + 1) c2)
      have hb3 : Below w.heap.size w (w2.setCell ⟨w.heap.size + 1 + 1, 1, none⟩ (.slice p2 (k + 1) c2)) := hb2.setCell (Nat.le_trans (Nat.le_succ _) (Nat.le_succ _)) _
      have HN := hide (And.intro hout3 (And.intro hres3 (And.intro hown3 hb3)))
      clear h1 h2 hcell hx hkeep hout2 hb2 hcr hres2 hown2 hlt2 htk hg2 hout3 hres3 hown3 hb3 hout hown hb e0 e1
      go_wp2_with (first
        | (at_builtin; refine Lib.wpList_append_run_sl _ rfl _ _ 34 rfl _ _ rfl rfl hr2 ?_)
        | fail)
      obtain ⟨g1, g2, g3, g4⟩ := unhide HN
      refine ⟨⟨k + 1, _, by omega, by go_num, g1, ⟨cr, g2, hcr3⟩, g3, g4⟩, ?_⟩
      simp [intOf]; omega
    · have hke : k = hs.length := by omega
      rw [hke, List.take_length] at hown
      rw [hke] at hout
      obtain ⟨cr, hcr, hcr3⟩ := hres
      have co0 : wr.cell? ⟨w.heap.size + 1 + 1, 0, none⟩ = some (.string (bs ty)) := by rw [cell_of_heap hout]; rfl
      have co1 : wr.cell? ⟨w.heap.size + 1 + 1, 1, none⟩ = some (.slice pk hs.length ck) := by rw [cell_of_heap hout]; rfl
      have co2 : wr.cell? ⟨w.heap.size + 1 + 1, 2, none⟩ = some (.slice q bl bc) := by rw [cell_of_heap hout]; rfl
      have cr0 : wr.cell? ⟨w.heap.size + 1, 0, none⟩ = some (cr[0]'(by omega)) := by rw [cell_of_heap hcr]; exact Array.getElem?_eq_getElem _
      have cr1 : wr.cell? ⟨w.heap.size + 1, 1, none⟩ = some (cr[1]'(by omega)) := by rw [cell_of_heap hcr]; exact Array.getElem?_eq_getElem _
      have cr2 : wr.cell? ⟨w.heap.size + 1, 2, none⟩ = some (cr[2]'(by omega)) := by rw [cell_of_heap hcr]; exact Array.getElem?_eq_getElem _
      have fr : ∀ j, wr.frozen? ⟨w.heap.size + 1, j, none⟩ = false := fun j => frozen_of_heap hcr j
      have hlt' : ¬ ((k : Int) < (hs.length : Int)) := by omega
      have HN := hide (And.intro hown (And.intro hb hcr))
      clear hout hown hb hcr hlt hke e0
      go_wp2
      obtain ⟨hown, hb, hcr⟩ := unhide HN
      have s1 := heap_set_same hcr (i := 0) (.string (bs ty))
      have s2 := heap_set_same s1 (i := 1) (.slice pk hs.length ck)
      have s3 := heap_set_same s2 (i := 2) (.slice q bl bc)
      have hown3 := ownsRow_setCell (ownsRow_setCell (ownsRow_setCell hown (show w.heap.size + 1 < w.heap.size + 3 by omega) 0 (.string (bs ty))) (show w.heap.size + 1 < w.heap.size + 3 by omega) 1 (.slice pk hs.length ck)) (show w.heap.size + 1 < w.heap.size + 3 by omega) 2 (.slice q bl bc)
      have hb3 : Below w.heap.size w (((wr.setCell ⟨w.heap.size + 1, 0, none⟩ (.string (bs ty))).setCell ⟨w.heap.size + 1, 1, none⟩ (.slice pk hs.length ck)).setCell ⟨w.heap.size + 1, 2, none⟩ (.slice q bl bc)) :=
        ((hb.setCell (Nat.le_succ _) _).setCell (Nat.le_succ _) _).setCell (Nat.le_succ _) _
      generalize ((wr.setCell ⟨w.heap.size + 1, 0, none⟩ (.string (bs ty))).setCell ⟨w.heap.size + 1, 1, none⟩ (.slice pk hs.length ck)).setCell ⟨w.heap.size + 1, 2, none⟩ (.slice q bl bc) = W3 at s3 hown3 hb3 ⊢
      have d0 : W3.cell? ⟨w.heap.size + 1, 0, none⟩ = some (.string (bs ty)) := by rw [cell_of_heap s3]; simp [hcr3]
      have d1 : W3.cell? ⟨w.heap.size + 1, 1, none⟩ = some (.slice pk hs.length ck) := by rw [cell_of_heap s3]; simp [hcr3]
      have d2 : W3.cell? ⟨w.heap.size + 1, 2, none⟩ = some (.slice q bl bc) := by rw [cell_of_heap s3]; simp [hcr3]
      refine bodyPost_ret (v := .agg #[.string (bs ty), .slice pk hs.length ck, .slice q bl bc]) ?_ rfl ⟨_, rfl, Hd.of_owns hown3, hb3⟩
      simp [results, Tryz.results17, go_sem, d0, d1, d2]
end Go.Proofs.YtpjehmblndjknaaGreatDoor

namespace Go.Proofs.YtpjehmblndjknaaGreatDoor
open Go.RowKit Go.Maps
set_option linter.unusedSimpArgs false
set_option linter.unusedVariables false

theorem plainC_true {c : UInt8} (h : plainC c = true) : (97 ≤ (c.toNat : Int) ∧ (c.toNat : Int) ≤ 122) ∨ (65 ≤ (c.toNat : Int) ∧ (c.toNat : Int) ≤ 90) ∨ (48 ≤ (c.toNat : Int) ∧ (c.toNat : Int) ≤ 57) ∨ (c.toNat : Int) = 32 ∨ (c.toNat : Int) = 46 ∨ (c.toNat : Int) = 44 ∨ (c.toNat : Int) = 47 ∨ (c.toNat : Int) = 95 := by
  unfold plainC at h
  simp only [Bool.or_eq_true, Bool.and_eq_true, decide_eq_true_eq] at h
  omega
theorem plainC_false {c : UInt8} (h : plainC c = false) : ((c.toNat : Int) < 97 ∨ 122 < (c.toNat : Int)) ∧ ((c.toNat : Int) < 65 ∨ 90 < (c.toNat : Int)) ∧ ((c.toNat : Int) < 48 ∨ 57 < (c.toNat : Int)) ∧ (c.toNat : Int) ≠ 32 ∧ (c.toNat : Int) ≠ 46 ∧ (c.toNat : Int) ≠ 44 ∧ (c.toNat : Int) ≠ 47 ∧ (c.toNat : Int) ≠ 95 := by
  unfold plainC at h
  simp only [Bool.or_eq_false_iff, Bool.and_eq_false_iff, decide_eq_false_iff_not] at h
  omega

set_option maxRecDepth 100000 in
set_option maxHeartbeats 1600000 in
theorem plain_any (l : List UInt8) (w : World) (hm : l.length ≤ 9223372036854775807) :
    Calls Tryz.prog 21 #[.string (bs l)] w fun e w' => e = .returned (.bool (plainS l)) ∧ w = w' := by
  generalize hR : plainS l = R
  have HR := hide hR
  clear hR
  go_enter Tryz.func21, Tryz.ntmps21
  go_wp2
  go_loop [7] (fun vk => ∃ k : Nat, k ≤ l.length ∧ vk = .int .i64 (k : Int) ∧ Hid (∀ (j : Nat) c, l[j]? = some c → j < k → plainC c = true)) (fun vk => l.length - (intOf vk).toNat)
  case atStart => exact ⟨0, Nat.zero_le _, rfl, fun j c _ h => absurd h (by omega)⟩
  case round =>
    obtain ⟨k, hk, rfl, HA⟩ := hrel
    by_cases hlt : k < l.length
    · obtain ⟨c, hc⟩ : ∃ c, l[k] = c := ⟨_, rfl⟩
      have hb := bounds_byte c
      have HC : Hid (l[k]? = some c) := by rw [← hc]; exact List.getElem?_eq_getElem hlt
      cases hp : plainC c with
      | true =>
        have hcases := plainC_true hp
        have HA2 : Hid (∀ (j : Nat) c, l[j]? = some c → j < k + 1 → plainC c = true) := by
          intro j x hx hj
          by_cases e : j = k
          · subst e; rw [unhide HC] at hx; cases hx; exact hp
          · exact unhide HA j x hx (by omega)
        clear hp
        go_wp2
        all_goals (first
          | (refine ⟨⟨k + 1, by omega, by go_num, HA2⟩, ?_⟩; simp [intOf]; omega)
          | (exfalso; go_light; simp only [bne_iff_ne, ne_eq, bne_eq_false_iff_eq] at *; omega))
      | false =>
        have hcases := plainC_false hp
        obtain ⟨y1, y2, y3, y4, y5, y6, y7, y8⟩ := hcases
        have HF : Hid (R = false) := by
          rw [← unhide HR]
          show plainS l = false
          have : l.all plainC = false := by
            rw [List.all_eq_false]
            exact ⟨c, List.mem_of_getElem? (unhide HC), by simp [hp]⟩
          unfold plainS
          simp [this]
        clear hp
        go_wp2
        all_goals (first
          | (go_ret; exact ⟨ret_bool (unhide HF).symm, rfl⟩)
          | (exfalso; go_light; simp only [bne_iff_ne, ne_eq, bne_eq_false_iff_eq] at *; omega))
    · have hall : l.all plainC = true := by
        rw [List.all_eq_true]
        intro c hc
        obtain ⟨j, hj, rfl⟩ := List.getElem_of_mem hc
        exact unhide HA j _ (List.getElem?_eq_getElem hj) (by omega)
      by_cases h0 : l = []
      · subst h0
        have HF : Hid (R = false) := by rw [← unhide HR]; show plainS [] = false; decide
        clear hall HA HR
        go_wp2
        go_ret
        exact ⟨ret_bool (unhide HF).symm, rfl⟩
      · have hpos : 0 < l.length := List.length_pos_iff.2 h0
        obtain ⟨x, hx⟩ : ∃ x, l[0] = x := ⟨_, rfl⟩
        obtain ⟨y, hy⟩ : ∃ y, l[l.length - 1] = y := ⟨_, rfl⟩
        have hbx := bounds_byte x
        have hby := bounds_byte y
        have hR2 : R = (!decide (x = 32) && !decide (y = 32)) := by
          rw [← unhide HR]
          unfold plainS
          have e1 : l.isEmpty = false := by cases l <;> simp_all
          have e2 : l.head? = some x := by rw [← hx, List.head?_eq_getElem?, List.getElem?_eq_getElem hpos]
          have e3 : l.getLast? = some y := by rw [← hy, List.getLast?_eq_getElem?, List.getElem?_eq_getElem (by omega)]
          rw [hall, e1, e2, e3]
          simp
        have hx32 : (x = 32) ↔ (x.toNat : Int) = 32 := by rw [← UInt8.toNat_inj]; show x.toNat = 32 ↔ _; omega
        have hy32 : (y = 32) ↔ (y.toNat : Int) = 32 := by rw [← UInt8.toNat_inj]; show y.toNat = 32 ↔ _; omega
        have HF := hide hR2
        have HX := hide hx32
        have HY := hide hy32
        have hne : (l == []) = false := by simpa using h0
        have hne2 : (!l.isEmpty) = true := by simpa using h0
        clear hall HA HR hR2 hx32 hy32
        go_wp2
        all_goals (
          go_ret
          refine ⟨ret_bool ?_, rfl⟩
          rw [unhide HF]
          have g1 := unhide HX
          have g2 := unhide HY
          go_light
          clear HF HX HY
          by_cases e1 : (x.toNat : Int) = 32 <;> by_cases e2 : (y.toNat : Int) = 32 <;> simp_all)
end Go.Proofs.YtpjehmblndjknaaGreatDoor

namespace Go.Proofs.YtpjehmblndjknaaGreatDoor
open Go.RowKit Go.Maps
set_option linter.unusedSimpArgs false
set_option linter.unusedVariables false

theorem hdrsOK_nil : hdrsOK [] = true := rfl
theorem hdrsOK_snoc (hs : Hdrs) (x : List UInt8 × List UInt8) : hdrsOK (hs ++ [x]) = (hdrsOK hs && (plainS x.1 && plainS x.2) && decide (x.1 ∉ hs.map (·.1))) := by
  unfold hdrsOK
  rw [List.all_append, List.map_append]
  simp only [List.all_cons, List.all_nil, Bool.and_true, List.map_cons, List.map_nil]
  have e : decide (hs.map (·.1) ++ [x.1]).Nodup = (decide (hs.map (·.1)).Nodup && decide (x.1 ∉ hs.map (·.1))) := by
    rw [Bool.eq_iff_iff]
    simp only [decide_eq_true_eq, Bool.and_eq_true]
    rw [List.nodup_append]
    constructor
    · rintro ⟨h1, _, h3⟩
      exact ⟨h1, fun hx => h3 _ hx _ (by simp) rfl⟩
    · rintro ⟨h1, h2⟩
      exact ⟨h1, by simp, fun a ha b hb e => by simp at hb; subst hb; subst e; exact h2 ha⟩
  rw [e]
  cases hs.all (fun p => plainS p.1 && plainS p.2) <;> cases plainS x.1 <;> cases plainS x.2 <;> simp
theorem hdrsOK_take_false {hs : Hdrs} {k : Nat} (h : hdrsOK (hs.take k) = false) : hdrsOK hs = false := by
  have e : hs = hs.take k ++ hs.drop k := (List.take_append_drop _ _).symm
  unfold hdrsOK at h ⊢
  rw [Bool.and_eq_false_iff] at h ⊢
  rcases h with h | h
  · left
    rw [e, List.all_append, h]; rfl
  · right
    rw [decide_eq_false_iff_not] at h ⊢
    intro hn
    apply h
    rw [e, List.map_append] at hn
    exact (List.nodup_append.1 hn).1

set_option maxRecDepth 100000 in
set_option maxHeartbeats 4000000 in
theorem proper_any (ty d : List UInt8) (hv : Value) (hs : Hdrs) (q : Option Addr) (bc : Nat) (w : World) (hH : Hd w hv hs) (hnl : hs.length ≤ 4294967295) (hty : ty.length ≤ 4294967295) (hd : d.length ≤ 9223372036854775807)
   (hkl : ∀ p ∈ hs, p.1.length ≤ 4294967295 ∧ p.2.length ≤ 4294967295) :
    Calls Tryz.prog 26 #[.agg #[.string (bs ty), hv, .slice q d.length bc]] w fun e w' => e = .returned (.bool (properB ty hs d)) ∧ Below w.heap.size w w' := by
  obtain ⟨p, cap, rfl, hlc, hc⟩ := hH
  have HC := hide hc
  have hn63 : hs.length ≤ 9223372036854775807 := by omega
  have HK := hide hkl
  have hcap : hs.length ≤ cap := hlc.1
  have hplt := fun W => plain_any ty W (by omega)
  clear hc hkl hlc
  generalize hR : properB ty hs d = R
  have HR := hide hR
  clear hR
  by_cases hgood : plainS ty = true ∧ hs.length ≤ 50 ∧ d.length ≤ 5000
  · obtain ⟨g1, g2, g3⟩ := hgood
    have HRR : Hid (R = hdrsOK hs) := by
      rw [← unhide HR]; show properB ty hs d = _
      unfold properB; simp [g1, g2, g3]
    have i2 : ¬ (50 : Int) < (hs.length : Int) := by omega
    have i3 : ¬ (5000 : Int) < (d.length : Int) := by omega
    have HPT : Hid (∀ W, Calls Tryz.prog 21 #[.string (bs ty)] W fun e w' => e = .returned (.bool true) ∧ W = w') := by
      intro W; have := hplt W; rw [g1] at this; exact this
    clear hplt g1 HR
    go_enter Tryz.func26, Tryz.ntmps26
    go_wp2_with fail
    refine (unhide HPT _).mono ?_
    rintro e w' ⟨rfl, rfl⟩
    clear HPT
    go_wp2_with fail
    go_loopw [26] (fun vi wr => ∃ k : Nat, k ≤ hs.length ∧ vi = .int .i64 (k : Int) ∧ Below (w.heap.size + 1) (w.alloc (.cells #[.string (bs ty), .slice p hs.length cap, .slice q d.length bc] 36)) wr ∧ Hid (hdrsOK (hs.take k) = true)) (fun vi _ => hs.length - (intOf vi).toNat)
    case atStart =>
      refine ⟨0, Nat.zero_le _, rfl, Below.refl _ _, ?_⟩
      rw [List.take_zero]; exact hdrsOK_nil
    case round =>
      obtain ⟨k, hk, rfl, hb, HO⟩ := hrel
      obtain ⟨wo, hwo⟩ : ∃ wo : World, wo = wr := ⟨_, rfl⟩
      subst hwo
      by_cases hlt : k < hs.length
      · obtain ⟨x, hx⟩ : ∃ x, hs[k]? = some x := ⟨_, List.getElem?_eq_getElem hlt⟩
        obtain ⟨b, o, rfl, hcell⟩ := unhide HC (by rintro rfl; simp at hlt)
        have hcello : ∀ (i : Nat) x, hs[i]? = some x → wo.cell? ⟨b, o + i * 2, none⟩ = some (.string (bs x.1)) ∧ wo.cell? ⟨b, o + i * 2 + 1, none⟩ = some (.string (bs x.2)) := by
          intro i x hx
          obtain ⟨h1, h2⟩ := hcell i x hx
          have hbl : b < w.heap.size := World.block_lt_of_cell? w _ h1
          have hbk : wo.heap[b]? = w.heap[b]? := (hb.block b (Nat.lt_succ_of_lt hbl)).trans (Below.heap_alloc w _ b hbl)
          exact ⟨by rw [World.cell?_of_block (w := w) (a := ⟨b, _, none⟩) hbk]; exact h1, by rw [World.cell?_of_block (w := w) (a := ⟨b, _, none⟩) hbk]; exact h2⟩
        have hbox : wo.heap[w.heap.size]? = some (.cells #[.string (bs ty), .slice (some ⟨b, o, none⟩) hs.length cap, .slice q d.length bc] 36 (0, 0)) :=
          (hb.block _ (Nat.lt_succ_self _)).trans (heap_new w _)
        have cb1 : wo.cell? ⟨w.heap.size, 1, none⟩ = some (.slice (some ⟨b, o, none⟩) hs.length cap) := by rw [cell_of_heap hbox]; rfl
        obtain ⟨hk1, hk2⟩ := hcello k x hx
        obtain ⟨xl1, xl2⟩ := unhide HK x (List.mem_of_getElem? hx)
        have HP1 := hide (fun W => plain_any x.1 W (by omega))
        have HP2 := hide (fun W => plain_any x.2 W (by omega))
        have HCO := hide hcello
        have HX := hide hx
        have hbW : Below w.heap.size w wo := (balloc (Below.refl _ _) _).trans (hb.mono (Nat.le_succ _))
        have hszo : w.heap.size + 1 ≤ wo.heap.size := by have := hb.size; rw [World.size_alloc] at this; exact this
        clear hcell hcello hx xl1 xl2
        have HBW := hide hbW
        have hb1 : Below wo.heap.size wo (wo.alloc (.cells #[.string (bs x.1), .string (bs x.2)] 62)) := balloc (Below.refl _ _) _
        have HB1 := hide hb1
        clear hbW hb1
        have hfalse : hdrsOK (hs.take (k + 1)) = false → Hid (R = false) := fun h => (unhide HRR).trans (hdrsOK_take_false h)
        have hsn : hdrsOK (hs.take (k + 1)) = (hdrsOK (hs.take k) && (plainS x.1 && plainS x.2) && decide (x.1 ∉ (hs.take k).map (·.1))) := by
          rw [List.take_add_one, unhide HX]; exact hdrsOK_snoc _ _
        have HFA := hide hfalse
        have HSN := hide hsn
        clear hfalse hsn
        go_wp2_with fail
        refine (unhide HP1 _).mono ?_
        rintro e w' ⟨rfl, rfl⟩
        cases hp1 : plainS x.1 with
        | false =>
          have HF := unhide HFA (by rw [unhide HSN, hp1]; simp)
          clear hp1 HP1 HP2
          go_wp2_with fail
          go_ret
          exact ⟨ret_bool (unhide HF).symm, bstep (unhide HBW) (unhide HB1)⟩
        | true =>
          have HP1T := hide hp1
          clear hp1 HP1
          go_wp2_with fail
          refine (unhide HP2 _).mono ?_
          rintro e w' ⟨rfl, rfl⟩
          cases hp2 : plainS x.2 with
          | false =>
            have HF := unhide HFA (by rw [unhide HSN, hp2]; simp)
            clear hp2 HP2
            go_wp2_with fail
            go_ret
            exact ⟨ret_bool (unhide HF).symm, bstep (unhide HBW) (unhide HB1)⟩
          | true =>
            have HP2T := hide hp2
            clear hp2 HP2
            have cb2 : (wo.alloc (.cells #[.string (bs x.1), .string (bs x.2)] 62)).cell? ⟨w.heap.size, 1, none⟩ = some (.slice (some ⟨b, o, none⟩) hs.length cap) := by
              rw [World.cell?_of_block (w := wo) (Below.heap_alloc _ _ _ (show w.heap.size < wo.heap.size by omega))]; exact cb1
            have hkc : k ≤ cap := by omega
            have hkey1 : (wo.alloc (.cells #[.string (bs x.1), .string (bs x.2)] 62)).cell? ⟨wo.heap.size, 0, none⟩ = some (.string (bs x.1)) := by rw [cell_of_heap (heap_new wo _)]; rfl
            have hcells1 : ∀ (i : Nat) x', hs[i]? = some x' → (wo.alloc (.cells #[.string (bs x.1), .string (bs x.2)] 62)).cell? ⟨b, o + i * 2, none⟩ = some (.string (bs x'.1)) ∧ (wo.alloc (.cells #[.string (bs x.1), .string (bs x.2)] 62)).cell? ⟨b, o + i * 2 + 1, none⟩ = some (.string (bs x'.2)) := by
              intro i x' hx'
              obtain ⟨h1, h2⟩ := unhide HCO i x' hx'
              have hbl : b < wo.heap.size := World.block_lt_of_cell? wo _ h1
              have hbk := Below.heap_alloc wo (.cells #[.string (bs x.1), .string (bs x.2)] 62) b hbl
              exact ⟨by rw [World.cell?_of_block (w := wo) (a := ⟨b, _, none⟩) hbk]; exact h1, by rw [World.cell?_of_block (w := wo) (a := ⟨b, _, none⟩) hbk]; exact h2⟩
            have HCE := hide hcells1
            have HKE := hide hkey1
            have hsz1 : (wo.alloc (.cells #[.string (bs x.1), .string (bs x.2)] 62)).heap.size = wo.heap.size + 1 := World.size_alloc _ _
            have HSZ1 := hide hsz1
            clear hcells1 hkey1 hsz1 cb1 hk1 hk2
            go_wp2_with fail
            clear cb2
            generalize hWA : wo.alloc (.cells #[.string (bs x.1), .string (bs x.2)] 62) = wA at HCE HKE HSZ1 HB1 ⊢
            have HWA := hide hWA
            clear hWA
            go_loopw [46] (fun vj wr => ∃ j : Nat, j ≤ k ∧ vj = .int .i64 (j : Int) ∧ Below wA.heap.size wA wr ∧ Hid (∀ (i : Nat) x', hs[i]? = some x' → i < j → x'.1 ≠ x.1)) (fun vj _ => k - (intOf vj).toNat)
            case atStart => exact ⟨0, Nat.zero_le _, rfl, Below.refl _ _, fun i x' _ h => absurd h (by omega)⟩
            case round =>
              obtain ⟨j, hj, rfl, hbj, HNE⟩ := hrel
              have hkk : wr.cell? ⟨wo.heap.size, 0, none⟩ = some (.string (bs x.1)) := by
                rw [hbj.cell (p := ⟨wo.heap.size, 0, none⟩) (by have := unhide HSZ1; show wo.heap.size < _; omega)]; exact unhide HKE
              by_cases hjk : j < k
              · obtain ⟨y, hy⟩ : ∃ y, hs[j]? = some y := ⟨_, List.getElem?_eq_getElem (by omega)⟩
                obtain ⟨h1, h2⟩ := unhide HCE j y hy
                have hbl : b < wA.heap.size := World.block_lt_of_cell? wA _ h1
                have hy1 : wr.cell? ⟨b, o + j * 2, none⟩ = some (.string (bs y.1)) := by rw [hbj.cell (p := ⟨b, o + j * 2, none⟩) hbl]; exact h1
                have hy2 : wr.cell? ⟨b, o + j * 2 + 1, none⟩ = some (.string (bs y.2)) := by rw [hbj.cell (p := ⟨b, o + j * 2 + 1, none⟩) hbl]; exact h2
                have HY := hide hy
                have hbj2 : Below wA.heap.size wA (wr.alloc (.cells #[.string (bs y.1), .string (bs y.2)] 62)) := balloc hbj _
                have HBJ := hide hbj2
                clear h1 h2 hy hbj hbj2
                have hkk2 : (wr.alloc (.cells #[.string (bs y.1), .string (bs y.2)] 62)).cell? ⟨wo.heap.size, 0, none⟩ = some (.string (bs x.1)) := by
                  rw [World.cell?_of_block (w := wr) (Below.heap_alloc _ _ _ (World.block_lt_of_cell? _ _ hkk))]; exact hkk
                by_cases hyx : y.1 = x.1
                · have HF : Hid (R = false) := by
                    refine unhide HFA ?_
                    rw [unhide HSN]
                    have : x.1 ∈ (hs.take k).map (·.1) := by
                      rw [← hyx]
                      exact List.mem_map.2 ⟨y, List.mem_of_getElem? (by rw [List.getElem?_take, if_pos hjk]; exact unhide HY), rfl⟩
                    have e : decide (x.1 ∉ (hs.take k).map (·.1)) = false := decide_eq_false (not_not_intro this)
                    rw [e, Bool.and_false]
                  have hq : (y.1 == x.1) = true := by rw [hyx]; simp
                  clear hyx
                  go_wp2_with fail
                  go_ret
                  refine ⟨ret_bool (unhide HF).symm, ?_⟩
                  have hb9 : Below wo.heap.size wo wA := unhide HB1
                  exact bstep (bstep (unhide HBW) hb9) (unhide HBJ)
                · have hq : (y.1 == x.1) = false := by simpa using hyx
                  have HNE2 : Hid (∀ (i : Nat) x', hs[i]? = some x' → i < j + 1 → x'.1 ≠ x.1) := by
                    intro i x' hi hij
                    by_cases e : i = j
                    · subst e; rw [unhide HY] at hi; cases hi; exact hyx
                    · exact unhide HNE i x' hi (by omega)
                  clear hyx
                  go_wp2_with fail
                  refine ⟨⟨j + 1, by omega, by go_num, unhide HBJ, HNE2⟩, ?_⟩
                  simp [intOf]; omega
              · have hO2 : Hid (hdrsOK (hs.take (k + 1)) = true) := by
                  show _ = _
                  have hnm : x.1 ∉ (hs.take k).map (·.1) := by
                    intro hm
                    obtain ⟨z, hz, e⟩ := List.mem_map.1 hm
                    obtain ⟨i, hi, e2⟩ := List.getElem_of_mem hz
                    have hi2 : i < k := by rw [List.length_take] at hi; omega
                    have h3 : hs[i]? = some z := by
                      rw [← e2, List.getElem_take]; exact List.getElem?_eq_getElem (by omega)
                    exact unhide HNE i z h3 (by omega) e
                  rw [unhide HSN, unhide HO, unhide HP1T, unhide HP2T, decide_eq_true hnm]
                  rfl
                have hb9 : Below wo.heap.size wo wA := unhide HB1
                have hb10 : Below (w.heap.size + 1) (w.alloc (.cells #[.string (bs ty), .slice (some ⟨b, o, none⟩) hs.length cap, .slice q d.length bc] 36)) wr := (hb.trans (hb9.mono hszo)).trans (hbj.mono (Nat.le_trans hszo hb9.size))
                have HB10 := hide hb10
                clear hbj hb9 hb10 hkk
                go_wp2_with fail
                refine ⟨⟨k + 1, by omega, by go_num, unhide HB10, hO2⟩, ?_⟩
                simp [intOf]; omega
      · have hke : k = hs.length := by omega
        have HF : Hid (R = true) := by
          show R = true
          rw [unhide HRR]
          have := unhide HO
          rw [hke, List.take_length] at this
          exact this
        clear HO hke
        go_wp2
        go_ret
        exact ⟨ret_bool (unhide HF).symm, (balloc (Below.refl _ _) _).trans (hb.mono (Nat.le_succ _))⟩
  · have hor : plainS ty = false ∨ (plainS ty = true ∧ (50 : Int) < (hs.length : Int)) ∨ (plainS ty = true ∧ ¬ (50 : Int) < (hs.length : Int) ∧ (5000 : Int) < (d.length : Int)) := by
      cases hf : plainS ty with
      | false => exact .inl rfl
      | true =>
        right
        by_cases h1 : hs.length ≤ 50
        · right
          by_cases h2 : d.length ≤ 5000
          · exact absurd ⟨hf, h1, h2⟩ hgood
          · exact ⟨rfl, by omega, by omega⟩
        · left; exact ⟨rfl, by omega⟩
    have HF : Hid (R = false) := by
      rw [← unhide HR]; show properB ty hs d = false
      unfold properB
      rcases hor with h | ⟨h1, h2⟩ | ⟨h1, h2, h3⟩
      · simp [h]
      · have : decide (hs.length ≤ 50) = false := by simp; omega
        simp [this]
      · have : decide (d.length ≤ 5000) = false := by simp; omega
        simp [this]
    clear hgood HR HC HK
    rcases hor with k0 | ⟨k0, k1⟩ | ⟨k0, k1, k2⟩
    all_goals (
      have HPT : Hid (∀ W, Calls Tryz.prog 21 #[.string (bs ty)] W fun e w' => e = .returned (.bool (plainS ty)) ∧ W = w') := hplt
      have HK0 := hide k0
      clear hplt k0
      go_enter Tryz.func26, Tryz.ntmps26
      go_wp2_with fail
      refine (unhide HPT _).mono ?_
      rintro e w' ⟨rfl, rfl⟩
      rw [unhide HK0]
      clear HPT
      go_wp2
      go_ret
      exact ⟨ret_bool (unhide HF).symm, balloc (Below.refl _ _) _⟩)
end Go.Proofs.YtpjehmblndjknaaGreatDoor

namespace Go.Proofs.YtpjehmblndjknaaGreatDoor
open Go.RowKit Go.Maps
set_option linter.unusedSimpArgs false
set_option linter.unusedVariables false

theorem proper_noColon {ty d : List UInt8} {hs : Hdrs} (h : properB ty hs d = true) : anyColon hs = false := by
  unfold properB hdrsOK at h
  simp only [Bool.and_eq_true, List.all_eq_true] at h
  unfold anyColon
  rw [List.any_eq_false]
  intro p hp hc
  have := (h.2.1 p hp).1
  exact (plain_no this (of_decide_eq_true hc)).2.1 rfl

/-- What encoded gives. -/
def EncdPost (ty : List UInt8) (hs : Hdrs) (d : List UInt8) (w : World) (e : Ending) (w' : World) : Prop :=
  Below w.heap.size w w' ∧ ((properB ty hs d = true ∧ e = .returned (.tuple #[.string (bs (pemOut ty hs d)), .bool true])) ∨ (properB ty hs d = false ∧ ∃ s, e = .returned (.tuple #[.string (bs s), .bool false])))

set_option maxRecDepth 100000 in
set_option maxHeartbeats 2000000 in
theorem encoded_any (ty d : List UInt8) (hv : Value) (q : Option Addr) (bc : Nat) (hs : Hdrs) (w : World) (hH : Hd w hv hs) (hS : Sl w (.slice q d.length bc) d) (hbc : bc ≤ 9223372036854775807)
   (hkl : ∀ p ∈ hs, p.1.length ≤ 4294967295 ∧ p.2.length ≤ 4294967295) (hnl : hs.length ≤ 4294967295) (hty : ty.length ≤ 4294967295) (hsz : anyColon hs = false → (pemOut ty hs d).length + 8 * d.length ≤ 17592186044416) :
    Calls Tryz.prog 12 #[.agg #[.string (bs ty), hv, .slice q d.length bc]] w (EncdPost ty hs d w) := by
  have hdl : d.length ≤ 9223372036854775807 := by obtain ⟨_, _, e1, e2, _⟩ := hS; injection e1 with _ _ e3; omega
  have hb0 : Below w.heap.size w (w.alloc (.cells #[.string (bs ty), hv, .slice q d.length bc] 25)) := balloc (Below.refl _ _) _
  have hmem := mem_any ty d hv _ hs _ (hH.below hb0) (hS.below hb0) (fun p n c h => by injection h with _ _ h3; omega) (fun p hp => ⟨Nat.le_trans (hkl p hp).1 (by decide), Nat.le_trans (hkl p hp).2 (by decide)⟩) (by omega) hsz
  rw [World.size_alloc] at hmem
  have HM := hide hmem
  have HH := hide hH
  have HK := hide hkl
  obtain ⟨p, cap, rfl, _⟩ := hH
  clear hmem hS hb0 hkl hsz
  go_enter Tryz.func12, Tryz.ntmps12
  go_wp2_with fail
  refine (unhide HM).mono ?_
  rintro e w1 ⟨hb1, hcase⟩
  have HB1 : Hid (Below w.heap.size w w1) := (balloc (Below.refl _ _) _).trans (hb1.mono (by omega))
  have hblk : w1.heap[w.heap.size]? = some (.cells #[.string (bs ty), .slice p hs.length cap, .slice q d.length bc] 25 (0, 0)) := by
    rw [hb1.block _ (by omega)]; exact heap_new w _
  rcases hcase with ⟨hac, rfl⟩ | ⟨hac, v', rfl, hsl⟩
  · have hcv : ∀ W, (convert 23 9 (.slice none 0 0)).run Tryz.prog W = .ok (.string (bs [])) W := fun W => conv_sl2 (Sl.nil W) W (Below.refl _ _)
    have HF : Hid (properB ty hs d = false) := by
      cases h : properB ty hs d with
      | false => rfl
      | true => rw [proper_noColon h] at hac; cases hac
    clear hb1 HM hblk hac
    go_wp2_with fail
    go_quiet (fail)
    go_wp2
    go_ret2
    exact ⟨below_drewN (unhide HB1) _, .inr ⟨unhide HF, [], rfl⟩⟩
  · have c10 : w1.cell? ⟨w.heap.size, 0, none⟩ = some (.string (bs ty)) := by rw [cell_of_heap hblk]; rfl
    have c11 : w1.cell? ⟨w.heap.size, 1, none⟩ = some (.slice p hs.length cap) := by rw [cell_of_heap hblk]; rfl
    have c12 : w1.cell? ⟨w.heap.size, 2, none⟩ = some (.slice q d.length bc) := by rw [cell_of_heap hblk]; rfl
    obtain ⟨pv, cv, rfl, hvl, hvc⟩ := hsl
    have hsl : Sl w1 (.slice pv (pemOut ty hs d).length cv) (pemOut ty hs d) := ⟨pv, cv, rfl, hvl, hvc⟩
    have hk1 := conv_sl2 hsl
    have hd1 : Below w1.heap.size w1 w1.drew := drewN_below w1 1
    have hk0 := hk1 w1.drew hd1
    have hblkc := hide (block_any ty _ hs q d.length bc w1.drew (((unhide HH).below (unhide HB1)).below hd1) hnl)
    have HSL := hide hk1
    have HD1 := hide hd1
    have HAC := hide hac
    clear hb1 HM hblk hac hsl hvc hk1 hd1
    go_wp2_with fail
    go_region_with (first
      | (go_at_call 17; refine (unhide hblkc).mono ?_; rintro e w2 ⟨hv2, rfl, hH2, hb2⟩
         have hk2 := unhide HSL w2 (bstep (unhide HD1) hb2)
         have hprop := hide (proper_any ty d hv2 hs q bc w2 hH2 hnl hty hdl (unhide HK)))
      | (go_at_call 26; refine (unhide hprop).mono ?_; rintro e w3 ⟨rfl, hb3⟩
         have hk3 := unhide HSL w3 (bstep (bstep (unhide HD1) hb2) hb3)))
    all_goals (
      have HBF : Hid (Below w.heap.size w w3) := bstep (bstep (bstep (unhide HB1) (unhide HD1)) hb2) hb3
      clear hb2 hb3 hk0 hk2 hk3 hprop hblkc
      go_wp2_with fail
      go_ret2
      refine ⟨unhide HBF, ?_⟩
      cases hpr : properB ty hs d with
      | true => exact .inl ⟨rfl, rfl⟩
      | false => exact .inr ⟨rfl, _, rfl⟩)
end Go.Proofs.YtpjehmblndjknaaGreatDoor

namespace Go.Proofs.YtpjehmblndjknaaGreatDoor
open Go.RowKit Go.Maps
set_option linter.unusedSimpArgs false
set_option linter.unusedVariables false

theorem sameH_false {a b : Hdrs} {k : Nat} {x : List UInt8 × List UInt8} (hx : a[k]? = some x) (h : x ∉ b) : sameH a b = false := by
  unfold sameH
  rw [Bool.and_eq_false_iff]
  right
  rw [List.all_eq_false]
  exact ⟨x, List.mem_of_getElem? hx, by simpa using h⟩
theorem sameH_true {a b : Hdrs} (hl : a.length = b.length) (h : ∀ (j : Nat) x, a[j]? = some x → j < a.length → x ∈ b) : sameH a b = true := by
  unfold sameH
  rw [Bool.and_eq_true, List.all_eq_true]
  refine ⟨by simpa using hl, fun x hx => ?_⟩
  obtain ⟨j, hj, rfl⟩ := List.getElem_of_mem hx
  simpa using h j _ (List.getElem?_eq_getElem hj) hj

set_option maxRecDepth 100000 in
set_option maxHeartbeats 4000000 in
theorem same_any (as_ bs_ : Hdrs) (va vb : Value) (w : World) (hA : Hd w va as_) (hB : Hd w vb bs_) (hna : as_.length ≤ 4294967295) (hnb : bs_.length ≤ 4294967295) :
    Calls Tryz.prog 28 #[va, vb] w fun e w' => e = .returned (.bool (sameH as_ bs_)) ∧ Below w.heap.size w w' := by
  obtain ⟨pa, ca, rfl, hla, hca⟩ := hA
  obtain ⟨pb, cb, rfl, hlb, hcb⟩ := hB
  generalize hR : sameH as_ bs_ = R
  have HR := hide hR
  clear hR
  by_cases hl : as_.length = bs_.length
  · have hq : ((as_.length : Int) != (bs_.length : Int)) = false := by rw [hl]; simp
    have hql : (as_.length != bs_.length) = false := by rw [hl]; simp
    have HL := hide hl
    have HCA := hide hca
    have HCB := hide hcb
    have hl1 : as_.length ≤ bs_.length := by omega
    have hl2 : bs_.length ≤ as_.length := by omega
    clear hl hca hcb hla hlb
    go_enter Tryz.func28, Tryz.ntmps28
    go_wp2_with fail
    go_loopw [17] (fun vi wr => ∃ k : Nat, k ≤ as_.length ∧ vi = .int .i64 (k : Int) ∧ Below w.heap.size w wr ∧ Hid (∀ (j : Nat) x, as_[j]? = some x → j < k → x ∈ bs_)) (fun vi _ => as_.length - (intOf vi).toNat)
    case atStart => exact ⟨0, Nat.zero_le _, rfl, Below.refl _ _, fun j x _ h => absurd h (by omega)⟩
    case round =>
      obtain ⟨k, hk, rfl, hb, HA⟩ := hrel
      obtain ⟨wo, hwo⟩ : ∃ wo : World, wo = wr := ⟨_, rfl⟩
      subst hwo
      by_cases hlt : k < as_.length
      · obtain ⟨x, hx⟩ : ∃ x, as_[k]? = some x := ⟨_, List.getElem?_eq_getElem hlt⟩
        obtain ⟨b, o, rfl, hcell⟩ := unhide HCA (by rintro rfl; simp at hlt)
        obtain ⟨h1, h2⟩ := hcell k x hx
        have hk1 : wo.cell? ⟨b, o + k * 2, none⟩ = some (.string (bs x.1)) := by rw [hb.cell (p := ⟨b, o + k * 2, none⟩) (World.block_lt_of_cell? w _ h1)]; exact h1
        have hk2 : wo.cell? ⟨b, o + k * 2 + 1, none⟩ = some (.string (bs x.2)) := by rw [hb.cell (p := ⟨b, o + k * 2 + 1, none⟩) (World.block_lt_of_cell? w _ h2)]; exact h2
        have HX := hide hx
        have hbA : Below w.heap.size w (wo.alloc (.cells #[.string (bs x.1), .string (bs x.2)] 62)) := balloc hb _
        have hc1 : (wo.alloc (.cells #[.string (bs x.1), .string (bs x.2)] 62)).cell? ⟨wo.heap.size, 0, none⟩ = some (.string (bs x.1)) := by rw [cell_of_heap (heap_new wo _)]; rfl
        have hc2 : (wo.alloc (.cells #[.string (bs x.1), .string (bs x.2)] 62)).cell? ⟨wo.heap.size, 1, none⟩ = some (.string (bs x.2)) := by rw [cell_of_heap (heap_new wo _)]; rfl
        have hszA : wo.heap.size < (wo.alloc (.cells #[.string (bs x.1), .string (bs x.2)] 62)).heap.size := by rw [World.size_alloc]; omega
        have HAll := hide (And.intro hbA (And.intro hc1 (And.intro hc2 hszA)))
        clear h1 h2 hcell hx hbA hc1 hc2 hszA
        go_wp2_with fail
        generalize hWA : wo.alloc (.cells #[.string (bs x.1), .string (bs x.2)] 62) = wA at HAll ⊢
        clear hWA hk1 hk2
        obtain ⟨hbA, hc1, hc2, hszA⟩ := unhide HAll
        clear HAll
        have HC12 := hide (And.intro hc1 (And.intro hc2 hszA))
        clear hc1 hc2
        go_loopw [7, 23] (fun vf vj wr => ∃ j : Nat, j ≤ bs_.length ∧ vj = .int .i64 (j : Int) ∧ vf = .bool (decide (x ∈ bs_.take j)) ∧ Below wA.heap.size wA wr) (fun _ vj _ => bs_.length - (intOf vj).toNat)
        case atStart => exact ⟨0, Nat.zero_le _, rfl, rfl, Below.refl _ _⟩
        case round =>
          obtain ⟨j, hj, rfl, rfl, hbj⟩ := hrel
          have hx1 : wr.cell? ⟨wo.heap.size, 0, none⟩ = some (.string (bs x.1)) := by rw [hbj.cell (p := ⟨wo.heap.size, 0, none⟩) hszA]; exact (unhide HC12).1
          have hx2 : wr.cell? ⟨wo.heap.size, 1, none⟩ = some (.string (bs x.2)) := by rw [hbj.cell (p := ⟨wo.heap.size, 1, none⟩) hszA]; exact (unhide HC12).2.1
          by_cases hjl : j < bs_.length
          · obtain ⟨y, hy⟩ : ∃ y, bs_[j]? = some y := ⟨_, List.getElem?_eq_getElem hjl⟩
            obtain ⟨b2, o2, rfl, hcell2⟩ := unhide HCB (by rintro rfl; simp at hjl)
            obtain ⟨h1, h2⟩ := hcell2 j y hy
            have hbw : Below w.heap.size w wr := bstep hbA hbj
            have hy1 : wr.cell? ⟨b2, o2 + j * 2, none⟩ = some (.string (bs y.1)) := by rw [hbw.cell (p := ⟨b2, o2 + j * 2, none⟩) (World.block_lt_of_cell? w _ h1)]; exact h1
            have hy2 : wr.cell? ⟨b2, o2 + j * 2 + 1, none⟩ = some (.string (bs y.2)) := by rw [hbw.cell (p := ⟨b2, o2 + j * 2 + 1, none⟩) (World.block_lt_of_cell? w _ h2)]; exact h2
            have htk : bs_.take (j + 1) = bs_.take j ++ [y] := by rw [List.take_add_one, hy]; rfl
            have hbn : Below wA.heap.size wA (wr.alloc (.cells #[.string (bs y.1), .string (bs y.2)] 62)) := balloc hbj _
            have HBN := hide hbn
            have HTK := hide htk
            have hxa : (wr.alloc (.cells #[.string (bs y.1), .string (bs y.2)] 62)).cell? ⟨wo.heap.size, 0, none⟩ = some (.string (bs x.1)) := by
              rw [World.cell?_of_block (w := wr) (Below.heap_alloc _ _ _ (World.block_lt_of_cell? _ _ hx1))]; exact hx1
            have hxb : (wr.alloc (.cells #[.string (bs y.1), .string (bs y.2)] 62)).cell? ⟨wo.heap.size, 1, none⟩ = some (.string (bs x.2)) := by
              rw [World.cell?_of_block (w := wr) (Below.heap_alloc _ _ _ (World.block_lt_of_cell? _ _ hx2))]; exact hx2
            clear h1 h2 hcell2 hy hbw htk hbn hbj
            cases hfound : decide (x ∈ bs_.take j) with
            | true =>
              have hnew : Hid (decide (x ∈ bs_.take (j + 1)) = true) := by
                show _ = _
                rw [unhide HTK]; exact decide_eq_true (List.mem_append_left _ (of_decide_eq_true hfound))
              clear hfound
              go_wp2_with fail
              refine ⟨⟨j + 1, by omega, by go_num, by rw [unhide hnew], unhide HBN⟩, ?_⟩
              simp [intOf]; omega
            | false =>
              have hnew : Hid (decide (x ∈ bs_.take (j + 1)) = decide (x = y)) := by
                show _ = _
                rw [unhide HTK, Bool.eq_iff_iff, decide_eq_true_iff, decide_eq_true_iff, List.mem_append, List.mem_singleton]
                exact ⟨fun h => h.elim (fun h => absurd h (of_decide_eq_false hfound)) id, .inr⟩
              clear hfound
              by_cases e1 : x.1 = y.1
              · have q1 : (x.1 == y.1) = true := by rw [e1]; simp
                by_cases e2 : x.2 = y.2
                · have q2 : (x.2 == y.2) = true := by rw [e2]; simp
                  have hxy : Hid (decide (x = y) = true) := decide_eq_true (Prod.ext e1 e2)
                  clear e1 e2
                  go_wp2_with fail
                  refine ⟨⟨j + 1, by omega, by go_num, by rw [unhide hnew, unhide hxy], unhide HBN⟩, ?_⟩
                  simp [intOf]; omega
                · have q2 : (x.2 == y.2) = false := by simpa using e2
                  have hxy : Hid (decide (x = y) = false) := decide_eq_false (fun e => e2 (by rw [e]))
                  clear e1 e2
                  go_wp2_with fail
                  refine ⟨⟨j + 1, by omega, by go_num, by rw [unhide hnew, unhide hxy], unhide HBN⟩, ?_⟩
                  simp [intOf]; omega
              · have q1 : (x.1 == y.1) = false := by simpa using e1
                have hxy : Hid (decide (x = y) = false) := decide_eq_false (fun e => e1 (by rw [e]))
                clear e1
                go_wp2_with fail
                refine ⟨⟨j + 1, by omega, by go_num, by rw [unhide hnew, unhide hxy], unhide HBN⟩, ?_⟩
                simp [intOf]; omega
          · have hje : j = bs_.length := by omega
            have htk : bs_.take j = bs_ := by rw [hje, List.take_length]
            have hbw : Below w.heap.size w wr := bstep hbA hbj
            have HBW := hide hbw
            cases hfound : decide (x ∈ bs_.take j) with
            | true =>
              have hm : x ∈ bs_ := by rw [htk] at hfound; exact of_decide_eq_true hfound
              have HA2 : Hid (∀ (i : Nat) z, as_[i]? = some z → i < k + 1 → z ∈ bs_) := by
                intro i z hz hi
                by_cases e : i = k
                · subst e; rw [unhide HX] at hz; cases hz; exact hm
                · exact unhide HA i z hz (by omega)
              clear hfound hm htk hje hbw hbj
              go_wp2_with fail
              refine ⟨⟨k + 1, by omega, by go_num, unhide HBW, HA2⟩, ?_⟩
              simp [intOf]; omega
            | false =>
              have hm : x ∉ bs_ := by rw [htk] at hfound; exact of_decide_eq_false hfound
              have HF : Hid (R = false) := (unhide HR).symm.trans (sameH_false (unhide HX) hm)
              clear hfound hm htk hje hbw hbj
              go_wp2_with fail
              go_ret
              exact ⟨ret_bool (unhide HF).symm, unhide HBW⟩
      · have hke : k = as_.length := by omega
        have HF : Hid (R = true) := (unhide HR).symm.trans (sameH_true (unhide HL) (fun j x hx hj => unhide HA j x hx (by omega)))
        clear HA hke
        go_wp2
        go_ret
        exact ⟨ret_bool (unhide HF).symm, hb⟩
  · have hq : ((as_.length : Int) != (bs_.length : Int)) = true := by rw [bne_iff_ne]; omega
    have HF : Hid (R = false) := by
      rw [← unhide HR]; show sameH as_ bs_ = false
      unfold sameH
      simp [hl]
    clear hl hca hcb hla hlb
    go_enter Tryz.func28, Tryz.ntmps28
    go_wp2
    go_ret
    exact ⟨ret_bool (unhide HF).symm, Below.refl _ _⟩
end Go.Proofs.YtpjehmblndjknaaGreatDoor

namespace Go.Proofs.YtpjehmblndjknaaGreatDoor
open Go.RowKit Go.Maps
set_option linter.unusedSimpArgs false
set_option linter.unusedVariables false

set_option maxRecDepth 100000 in
set_option maxHeartbeats 4000000 in
theorem sameB_any (ty d : List UInt8) (va vb : Value) (qa qb : Option Addr) (ca cb : Nat) (as_ bs_ : Hdrs) (w : World) (hA : Hd w va as_) (hB : Hd w vb bs_) (hSa : Sl w (.slice qa d.length ca) d) (hSb : Sl w (.slice qb d.length cb) d)
   (hna : as_.length ≤ 4294967295) (hnb : bs_.length ≤ 4294967295) (hs : sameH as_ bs_ = true) :
    Calls Tryz.prog 16 #[.agg #[.string (bs ty), va, .slice qa d.length ca], .agg #[.string (bs ty), vb, .slice qb d.length cb]] w fun e w' => e = .returned (.bool true) ∧ Below w.heap.size w w' := by
  obtain ⟨wA, hwA⟩ : ∃ wA, wA = (w.alloc (.cells #[.string (bs ty), va, .slice qa d.length ca] 36)).alloc (.cells #[.string (bs ty), vb, .slice qb d.length cb] 36) := ⟨_, rfl⟩
  have hb0 : Below w.heap.size w wA := by rw [hwA]; exact balloc (balloc (Below.refl _ _) _) _
  have hsm := same_any as_ bs_ va vb wA (hA.below hb0) (hB.below hb0) hna hnb
  rw [hs, hwA] at hsm
  have HSM := hide hsm
  have hk1 := conv_sl2 hSa
  have hk2 := conv_sl2 hSb
  have q1 := hk1 _ (show Below w.heap.size w ((w.alloc (.cells #[.string (bs ty), va, .slice qa d.length ca] 36)).alloc (.cells #[.string (bs ty), vb, .slice qb d.length cb] 36)) by rw [← hwA]; exact hb0)
  have q2 := hk2 _ (show Below w.heap.size w ((w.alloc (.cells #[.string (bs ty), va, .slice qa d.length ca] 36)).alloc (.cells #[.string (bs ty), vb, .slice qb d.length cb] 36)) by rw [← hwA]; exact hb0)
  have HB0 := hide hb0
  rw [hwA] at HB0
  obtain ⟨pa, xa, rfl, -⟩ := hA
  obtain ⟨pb, xb, rfl, -⟩ := hB
  clear hsm hk1 hk2 hb0 hwA hSa hSb
  go_enter Tryz.func16, Tryz.ntmps16
  go_wp2_with fail
  refine (unhide HSM).mono ?_
  rintro e w2 ⟨rfl, hb2⟩
  have HB := hide (bstep (unhide HB0) hb2)
  clear hb2 HSM HB0
  go_wp2
  go_ret
  exact ⟨rfl, unhide HB⟩
end Go.Proofs.YtpjehmblndjknaaGreatDoor

namespace Go.Proofs.YtpjehmblndjknaaGreatDoor
set_option linter.unusedSimpArgs false
set_option linter.unusedVariables false

/-- ls: the headers of a map that was filled from hs, in whatever order. -/
def OfMap (hs ls : Hdrs) : Prop := (ls.map (·.1)).Nodup ∧ ∀ p, p ∈ ls ↔ hget hs p.1 = some p.2
theorem OfMap.mem {hs ls : Hdrs} (h : OfMap hs ls) {p : List UInt8 × List UInt8} (hp : p ∈ ls) : p ∈ hs := hget_mem ((h.2 p).1 hp)
theorem OfMap.perm {hs ls : Hdrs} (h : OfMap hs ls) (hn : (hs.map (·.1)).Nodup) : ls.Perm hs := by
  refine (List.perm_ext_iff_of_nodup (nodup_of_map h.1) (nodup_of_map hn)).2 fun p => ?_
  rw [h.2 p]
  exact ⟨fun e => hget_mem e, fun e => hget_of_nodup hn (by cases p; exact e)⟩
theorem OfMap.wperm {hs ls : Hdrs} (h : OfMap (wlist hs) ls) (hn : (hs.map (·.1)).Nodup) : ls.Perm hs := (h.perm (wlist_keys_nodup hs)).trans (wlist_perm hn)
theorem OfMap.same {hs ls : Hdrs} (h : OfMap (wlist hs) ls) (hn : (hs.map (·.1)).Nodup) : sameH ls hs = true := sameH_perm (h.wperm hn)
theorem OfMap.len {hs ls : Hdrs} (h : OfMap hs ls) : ls.length ≤ hs.length := by
  have h1 : (ls.map (·.1)).Perm (hkeys hs) := (List.perm_ext_iff_of_nodup h.1 (hkeys_nodup hs)).2 fun k => by
    rw [hkeys_mem]
    constructor
    · intro hk
      obtain ⟨p, hp, rfl⟩ := List.mem_map.1 hk
      exact List.mem_map.2 ⟨p, h.mem hp, rfl⟩
    · intro hk
      obtain ⟨v, hv⟩ := Option.isSome_iff_exists.1 (hget_isSome.2 hk)
      exact List.mem_map.2 ⟨(k, v), (h.2 (k, v)).2 hv, rfl⟩
  have h2 := h1.length_eq
  rw [List.length_map] at h2
  rw [h2]; exact hkeys_len hs
theorem plainH_of {ty d : List UInt8} {hs : Hdrs} (h : properB ty hs d = true) : plainS ty = true ∧ PlainH (wlist hs) ∧ (hs.map (·.1)).Nodup := by
  unfold properB hdrsOK at h
  simp only [Bool.and_eq_true, List.all_eq_true, decide_eq_true_eq] at h
  obtain ⟨⟨⟨h1, _⟩, _⟩, h4, h5⟩ := h
  exact ⟨h1, fun p hp => h4 p ((wlist_perm h5).mem_iff.1 hp), h5⟩

/-! ### Lengths by the bulk -/
theorem bulk_perm {a b : Hdrs} (h : a.Perm b) : bulk a = bulk b := by
  induction h with
  | nil => rfl
  | cons x _ ih => rw [bulk, bulk, ih]
  | swap x y l => simp only [bulk]; omega
  | trans _ _ h1 h2 => exact h1.trans h2
theorem bulk_sub : ∀ (ls hs : Hdrs), ls.Nodup → (∀ p ∈ ls, p ∈ hs) → bulk ls ≤ bulk hs
  | [], hs, _, _ => Nat.zero_le _
  | p :: l, hs, hn, h => by
    have h1 := List.perm_cons_erase (h p (List.mem_cons_self ..))
    rw [bulk_perm h1, bulk, bulk]
    have h2 := bulk_sub l (hs.erase p) (List.nodup_cons.1 hn).2 (fun q hq => by
      have h3 : q ≠ p := by rintro rfl; exact (List.nodup_cons.1 hn).1 hq
      exact (List.mem_erase_of_ne h3).2 (h q (List.mem_cons_of_mem _ hq)))
    omega
theorem ofMap_bulk {hs ls : Hdrs} (h : OfMap hs ls) : bulk ls ≤ bulk hs := bulk_sub ls hs (nodup_of_map h.1) (fun _ hp => h.mem hp)
theorem hlinesL_bulk : ∀ ls : Hdrs, (hlinesL ls).length ≤ 3 * bulk ls
  | [] => by simp [hlinesL]
  | p :: l => by
    have h1 := hlinesL_bulk l
    have e : hlinesL (p :: l) = headLine p.1 p.2 ++ hlinesL l := rfl
    have hll : (headLine p.1 p.2).length = p.1.length + (p.2.length + 3) := by unfold headLine; simp
    rw [e, List.length_append, hll, bulk]
    omega
theorem written_bulk {ty d : List UInt8} {ls : Hdrs} : (writtenP ty ls d).length ≤ 2 * ty.length + 3 * bulk ls + 4 * d.length + 60 := by
  have h1 := hlinesL_bulk ls
  have h2 := lines64_length _ (b64 d) (Nat.le_refl _)
  have e : writtenP ty ls d = begP ++ ty ++ (dashP ++ [10]) ++ hlinesL ls ++ (if ls = [] then [] else [10]) ++ lines64 (b64 d) ++ endP ++ ty ++ (dashP ++ [10]) := rfl
  have h3 : (if ls = [] then ([] : List UInt8) else [10]).length ≤ 1 := by split <;> simp
  have e1 : begP.length = 11 := rfl
  have e2 : endP.length = 9 := rfl
  have e3 : (dashP ++ [10]).length = 6 := rfl
  rw [b64_length] at h2
  rw [e]
  simp only [List.length_append] at e3 ⊢
  simp only [List.length_append, e1, e2]
  omega
theorem pemOut_bulk {ty d : List UInt8} {hs : Hdrs} : (pemOut ty hs d).length ≤ 2 * ty.length + 3 * bulk hs + 4 * d.length + 60 := by
  rw [pemOut_written]
  have h1 : bulk (wlist hs) ≤ bulk hs := bulk_sub _ _ (nodup_of_map (wlist_keys_nodup hs)) (fun _ hp => wlist_sub hp)
  have h2 := written_bulk (ty := ty) (d := d) (ls := wlist hs)
  omega
end Go.Proofs.YtpjehmblndjknaaGreatDoor

namespace Go.Proofs.YtpjehmblndjknaaGreatDoor
open Go.RowKit Go.Maps
set_option linter.unusedSimpArgs false
set_option linter.unusedVariables false

/-- What impl.Decode leaves. -/
def DecodePost (data : List UInt8) (v : Value) (w : World) (e : Ending) (w' : World) : Prop :=
  Below w.heap.size w w' ∧ ((Dec data none ∧ e = .returned (.tuple #[.agg #[.string ⟨#[]⟩, .slice none 0 0, .slice none 0 0], .bool false, v])) ∨
   ∃ (r : Res) (ls : Hdrs) (hv rv : Value) (q : Option Addr) (bc : Nat), Dec data (some r) ∧ e = .returned (.tuple #[.agg #[.string (bs r.ty), hv, .slice q r.by_.length bc], .bool true, rv]) ∧ OfMap r.hs ls ∧ Hd w' hv ls ∧ Sl w' (.slice q r.by_.length bc) r.by_ ∧ Sl w' rv r.rest ∧ bc ≤ 9223372036854775807)
def PemOK : Prop := ∀ (v : Value) (data : List UInt8) (w : World), Sl w v data → data.length ≤ 140737488351232 → Tabs w → Calls Tryz.prog 27 #[v] w (DecPost data v w)

/-- What has been collected: each header of the map that has come. -/
def Coll (D : DataW Unit) (hs : Hdrs) (left : Lit → Bool) (ls : Hdrs) : Prop := Collected D left (ls.map (·.1)) ∧ ∀ p ∈ ls, hget hs p.1 = some p.2
theorem Coll.start (D : DataW Unit) (hs : Hdrs) : Coll D hs (has D) [] := ⟨Collected.start D, fun _ h => by cases h⟩
theorem Coll.ofMap {D : DataW Unit} {hs ls : Hdrs} {left : Lit → Bool} (h : Coll D hs left ls) (hD : MapIs D hs) (hl : ∀ kl, left kl = false) : OfMap hs ls := by
  have hp := collected_keys hD h.1 hl
  refine ⟨hp.nodup_iff.2 (hkeys_nodup hs), fun p => ⟨h.2 p, fun hg => ?_⟩⟩
  have h1 : p.1 ∈ hkeys hs := hkeys_mem.2 (hget_isSome.1 (by rw [hg]; rfl))
  obtain ⟨q, hq, e⟩ := List.mem_map.1 (hp.mem_iff.2 h1)
  have h2 := h.2 q hq
  rw [e, hg] at h2
  have : q = p := Prod.ext e (Option.some.inj h2).symm
  rw [← this]; exact hq

/-- A struct of three cells is stored. -/
theorem store3 {w : World} {b : Nat} {x0 x1 x2 : Value} {T : TypeId} (h : w.heap[b]? = some (.cells #[x0, x1, x2] T (0, 0))) (y0 y1 y2 : Value) :
    (((w.setCell ⟨b, 0, none⟩ y0).setCell ⟨b, 1, none⟩ y1).setCell ⟨b, 2, none⟩ y2).heap[b]? = some (.cells #[y0, y1, y2] T (0, 0)) := by
  have s1 := heap_set_same h (i := 0) y0
  have s2 := heap_set_same s1 (i := 1) y1
  have s3 := heap_set_same s2 (i := 2) y2
  exact s3
theorem store3_below {B b : Nat} {w a : World} (h : Below B w a) (hb : B ≤ b) (y0 y1 y2 : Value) : Below B w (((a.setCell ⟨b, 0, none⟩ y0).setCell ⟨b, 1, none⟩ y1).setCell ⟨b, 2, none⟩ y2) :=
  ((h.setCell hb _).setCell hb _).setCell hb _
theorem store3_other {b k : Nat} {a : World} (hk : k ≠ b) (y0 y1 y2 : Value) : (((a.setCell ⟨b, 0, none⟩ y0).setCell ⟨b, 1, none⟩ y1).setCell ⟨b, 2, none⟩ y2).heap[k]? = a.heap[k]? :=
  (Below.heap_setCell _ _ _ _ hk).trans ((Below.heap_setCell _ _ _ _ hk).trans (Below.heap_setCell _ _ _ _ hk))
theorem cells3 {w : World} {b : Nat} {x0 x1 x2 : Value} {T : TypeId} (h : w.heap[b]? = some (.cells #[x0, x1, x2] T (0, 0))) : w.cell? ⟨b, 0, none⟩ = some x0 ∧ w.cell? ⟨b, 1, none⟩ = some x1 ∧ w.cell? ⟨b, 2, none⟩ = some x2 ∧ ∀ j, w.frozen? ⟨b, j, none⟩ = false :=
  ⟨by rw [cell_of_heap h]; rfl, by rw [cell_of_heap h]; rfl, by rw [cell_of_heap h]; rfl, fun j => frozen_of_heap h j⟩
/-- Bytes do not lie in a block whose cells are none. -/
theorem Sl.off {w w' : World} {v : Value} {l : List UInt8} {b : Nat} {x0 x1 x2 : Value} {T : TypeId} (h : Sl w v l) (hb : w.heap[b]? = some (.cells #[x0, x1, x2] T (0, 0))) (hx : (∀ z, x0 ≠ .int .u8 z) ∧ (∀ z, x1 ≠ .int .u8 z) ∧ ∀ z, x2 ≠ .int .u8 z) (hk : ∀ k, k < w.heap.size → k ≠ b → w'.heap[k]? = w.heap[k]?) : Sl w' v l := by
  obtain ⟨p, cap, hv, hl, hc⟩ := h
  refine ⟨p, cap, hv, hl, fun hne => ?_⟩
  obtain ⟨b', o, hp, hc⟩ := hc hne
  refine ⟨b', o, hp, fun i x hx2 => ?_⟩
  have h1 := hc i x hx2
  have hne2 : b' ≠ b := by
    rintro rfl
    rw [cell_of_heap hb] at h1
    match hq : o + i, h1 with
    | 0, h1 => exact hx.1 _ (Option.some.inj h1)
    | 1, h1 => exact hx.2.1 _ (Option.some.inj h1)
    | 2, h1 => exact hx.2.2 _ (Option.some.inj h1)
    | n + 3, h1 => cases h1
  rw [World.cell?_of_block (hk b' (World.block_lt_of_cell? w _ h1) hne2)]
  exact h1

set_option maxRecDepth 100000 in
set_option maxHeartbeats 4000000 in
theorem decode_any (hpem : PemOK) (v : Value) (data : List UInt8) (w : World) (hs : Sl w v data) (hl : data.length ≤ 140737488351232) (hT : Tabs w) (hH : ∀ r, Dec data (some r) → r.hs.length ≤ 4294967295) :
    Calls Tryz.prog 15 #[v] w (DecodePost data v w) := by
  have hb0 : Below w.heap.size w (w.alloc (.cells #[.string ⟨#[]⟩, .slice none 0 0, .slice none 0 0] 25)) := balloc (Below.refl _ _) _
  have HP := hide (hpem v data _ (hs.below hb0) hl (hT.below hb0))
  have HB0 := hide hb0
  have HHL := hide hH
  clear hs hT hb0 hH
  go_enter Tryz.func15, Tryz.ntmps15
  go_wp2_with fail
  refine (unhide HP).mono ?_
  rintro e w1 ⟨hb1, hcase⟩
  have HB1 : Hid (Below w.heap.size w w1) := (unhide HB0).trans (hb1.mono (by rw [World.size_alloc]; omega))
  have hblk : w1.heap[w.heap.size]? = some (.cells #[.string ⟨#[]⟩, .slice none 0 0, .slice none 0 0] 25 (0, 0)) := by
    rw [hb1.block _ (by rw [World.size_alloc]; omega)]; exact heap_new w _
  have hz1 : w.heap.size < w1.heap.size := lt_of_heap hblk
  clear hb1 HB0 HP
  rcases hcase with ⟨hd, rfl⟩ | ⟨r, pb, mb, bv, rv, hd, rfl, hP, hM, hS, hR, hcap⟩
  · have c0 : w1.cell? ⟨w.heap.size, 0, none⟩ = some (.string ⟨#[]⟩) := by rw [cell_of_heap hblk]; rfl
    have c1 : w1.cell? ⟨w.heap.size, 1, none⟩ = some (.slice none 0 0) := by rw [cell_of_heap hblk]; rfl
    have c2 : w1.cell? ⟨w.heap.size, 2, none⟩ = some (.slice none 0 0) := by rw [cell_of_heap hblk]; rfl
    have f0 : ∀ j, w1.frozen? ⟨w.heap.size, j, none⟩ = false := fun j => frozen_of_heap hblk j
    have HD := hide hd
    have HK := hide hblk
    clear hd hblk
    go_wp2_with fail
    have s3 := store3 (unhide HK) (.string ⟨#[]⟩) (.slice none 0 0) (.slice none 0 0)
    have hb3 := store3_below (unhide HB1) (Nat.le_refl w.heap.size) (.string ⟨#[]⟩) (.slice none 0 0) (.slice none 0 0)
    generalize ((w1.setCell ⟨w.heap.size, 0, none⟩ (.string ⟨#[]⟩)).setCell ⟨w.heap.size, 1, none⟩ (.slice none 0 0)).setCell ⟨w.heap.size, 2, none⟩ (.slice none 0 0) = W3 at s3 hb3 ⊢
    obtain ⟨d0, d1, d2, -⟩ := cells3 s3
    refine bodyPost_ret (v := .tuple #[.agg #[.string ⟨#[]⟩, .slice none 0 0, .slice none 0 0], .bool false, v]) ?_ rfl ⟨hb3, .inl ⟨unhide HD, rfl⟩⟩
    simp [results, Tryz.results15, go_sem, d0, d1, d2]
  · obtain ⟨p, bc, rfl, hlc, hcell⟩ := hS
    have hS : Sl w1 (.slice p r.by_.length bc) r.by_ := ⟨p, bc, rfl, hlc, hcell⟩
    have HX := hide (And.intro hd (And.intro hS (And.intro hR (hcap _ _ _ rfl))))
    obtain ⟨n, D, hn, hown, hD⟩ := hM
    have HD := hide hD
    have hDn : Maps.size D ≤ 4294967295 := by rw [hD.2.2.2]; exact Nat.le_trans (hkeys_len _) (unhide HHL r hd)
    have c0 := hP.c0
    have c1 := hP.c1
    have c2 := hP.c2
    have HPB := hide hP
    clear hd hS hR hcap hcell hlc hP hD
    obtain ⟨b0, b1, b2, f0⟩ := cells3 hblk
    have HK := hide hblk
    clear hblk
    go_upto_region 4 with (fail)
    go_still_tail 9, (by kernel_rfl)
    change wpList _ _ _ _ _ w1.drew
    go_upto_region 5 with (fail)
    have s4 := store3 (unhide HK) (.string (bs r.ty)) (.slice none 0 0) (.slice p r.by_.length bc)
    have hb4 := below_drewN (store3_below (unhide HB1) (Nat.le_refl w.heap.size) (.string (bs r.ty)) (.slice none 0 0) (.slice p r.by_.length bc)) 1
    have k4 : ∀ k, k ≠ w.heap.size → (((w1.setCell ⟨w.heap.size, 0, none⟩ (.string (bs r.ty))).setCell ⟨w.heap.size, 1, none⟩ (.slice none 0 0)).setCell ⟨w.heap.size, 2, none⟩ (.slice p r.by_.length bc)).drew.heap[k]? = w1.heap[k]? := fun k hk => store3_other hk _ _ _
    have s4 : (((w1.setCell ⟨w.heap.size, 0, none⟩ (.string (bs r.ty))).setCell ⟨w.heap.size, 1, none⟩ (.slice none 0 0)).setCell ⟨w.heap.size, 2, none⟩ (.slice p r.by_.length bc)).drew.heap[w.heap.size]? = _ := s4
    have hb4 : Below w.heap.size w (((w1.setCell ⟨w.heap.size, 0, none⟩ (.string (bs r.ty))).setCell ⟨w.heap.size, 1, none⟩ (.slice none 0 0)).setCell ⟨w.heap.size, 2, none⟩ (.slice p r.by_.length bc)).drew := hb4
    generalize (((w1.setCell ⟨w.heap.size, 0, none⟩ (.string (bs r.ty))).setCell ⟨w.heap.size, 1, none⟩ (.slice none 0 0)).setCell ⟨w.heap.size, 2, none⟩ (.slice p r.by_.length bc)).drew = W4 at s4 hb4 k4 ⊢
    have hpb : pb ≠ w.heap.size := by
      rintro rfl
      have h1 := (unhide HPB).symm.trans (unhide HK)
      simp at h1
    have hmb : mb ≠ w.heap.size := by
      rintro rfl
      obtain ⟨es, c, hb2, _⟩ := hown
      have h1 := hb2.symm.trans (unhide HK)
      cases h1
    have hP4 : PB W4 pb r.ty mb (.slice p r.by_.length bc) := (k4 pb hpb).trans (unhide HPB)
    have hown4 := ownsMap_heap hown (fun es c hb2 => (k4 mb hmb).trans hb2)
    have hx0 : (∀ z, (Value.string ⟨#[]⟩) ≠ .int .u8 z) ∧ (∀ z, (Value.slice none 0 0) ≠ .int .u8 z) ∧ ∀ z, (Value.slice none 0 0) ≠ .int .u8 z := ⟨by simp, by simp, by simp⟩
    have hSb := (unhide HX).2.1.off (unhide HK) hx0 (fun k _ hk => k4 k hk)
    have hSr := (unhide HX).2.2.1.off (unhide HK) hx0 (fun k _ hk => k4 k hk)
    have H4 := hide (And.intro hb4 (And.intro hSb hSr))
    have S4 := hide s4
    have hlt4 : w.heap.size < W4.heap.size := lt_of_heap s4
    have hmlt : mb < W4.heap.size := hown4.lt
    have c14 : W4.cell? ⟨pb, 1, none⟩ = some (.map (some mb)) := hP4.c1
    clear k4 hb4 s4 hSb hSr hP4 c0 c1 c2 b0 b1 b2 f0 hown HPB HK HB1 hx0 hpb hz1
    go_wp2_with (first
      | (at_range; refine wpList_range_own _ rfl _ 56 rfl 9 9 lawS Tryz.underlying56 _ mb n D rfl hown4 ?_; intro w0 hrg0 hg0 hs0)
      | fail)
    go_frame
    have hb0 : Below W4.heap.size W4 w0 := (Below.refl _ _).grown hg0 (Nat.le_refl _) (fun j hj => by cases hj)
    have hz0 : W4.heap.size < w0.heap.size := by
      obtain ⟨_, _, _, _, _, _, _, _, _, hit, _⟩ := hrg0
      exact lt_of_heap hit
    clear hs0 hg0 c14 hown4
    go_loopw [6, 7] (fun _ _ wr => ∃ (left : Lit → Bool) (cnt : Nat) (ls : Hdrs) (vk : Value), wr.ranges Tryz.prog 9 (plainElem Tryz.prog 9) mb W4.heap.size n D left cnt ∧ ls.length + cnt ≤ Maps.size D ∧ wr.heap[w.heap.size]? = some (.cells #[.string (bs r.ty), vk, .slice p r.by_.length bc] 25 (0, 0)) ∧
       wr.ownsRow (W4.heap.size + 1) 60 2 vk ls.length (hcells ls) ∧ W4.heap.size < wr.heap.size ∧ Hid (Coll D r.hs left ls) ∧ Hid (Below w.heap.size w wr ∧ ∀ k, k < W4.heap.size → k ≠ w.heap.size → wr.heap[k]? = W4.heap[k]?)) (fun _ _ wr => wr.rangeLeft mb W4.heap.size)
    case atStart =>
      refine ⟨_, _, [], _, hrg0, by simp, (hb0.block _ hlt4).trans (unhide S4), World.ownsRow_nil _ _ _ _, hz0, Coll.start D r.hs, bstep (unhide H4).1 hb0, fun k hk _ => hb0.block k hk⟩
    case round =>
      clear hrg0 hb0 hz0
      obtain ⟨left, cnt, ls, vk, hrg, hcnt, hbk, hrow, hwz, HC, HW⟩ := hrel
      go_wp2_with (first
        | (at_next; refine wpList_next_ranges _ rfl _ rfl 9 lawS (plainElem Tryz.prog 9) Go.Proofs.encStr Value.string invK invV mb W4.heap.size n _ _ _ rfl hrg ?_ ?_)
        | fail)
      · intro hc0 hl0
        obtain ⟨pk, ck, rfl, hkc⟩ := Hd.of_owns hrow
        clear hkc
        obtain ⟨b0, b1, b2, f0⟩ := cells3 hbk
        have HBK := hide hbk
        have HD2 := hide ((unhide HC).ofMap (unhide HD) hl0)
        have HROW := hide hrow
        clear hc0 hl0 hrg hcnt hrow HC hbk
        go_wp2_with fail
        have s5 := store3 (unhide HBK) (.string (bs r.ty)) (.slice pk ls.length ck) (.slice p r.by_.length bc)
        have hb5 := store3_below (unhide HW).1 (Nat.le_refl w.heap.size) (.string (bs r.ty)) (.slice pk ls.length ck) (.slice p r.by_.length bc)
        have k5 : ∀ k, k ≠ w.heap.size → (((wr.setCell ⟨w.heap.size, 0, none⟩ (.string (bs r.ty))).setCell ⟨w.heap.size, 1, none⟩ (.slice pk ls.length ck)).setCell ⟨w.heap.size, 2, none⟩ (.slice p r.by_.length bc)).heap[k]? = wr.heap[k]? := fun k hk => store3_other hk _ _ _
        generalize ((wr.setCell ⟨w.heap.size, 0, none⟩ (.string (bs r.ty))).setCell ⟨w.heap.size, 1, none⟩ (.slice pk ls.length ck)).setCell ⟨w.heap.size, 2, none⟩ (.slice p r.by_.length bc) = W5 at s5 hb5 k5 ⊢
        obtain ⟨d0, d1, d2, -⟩ := cells3 s5
        have hx5 : (∀ z, (Value.string (bs r.ty)) ≠ .int .u8 z) ∧ (∀ z, (Value.slice none 0 0) ≠ .int .u8 z) ∧ ∀ z, (Value.slice p r.by_.length bc) ≠ .int .u8 z := ⟨by simp, by simp, by simp⟩
        have hSb := (unhide H4).2.1.off (unhide S4) hx5 (fun k h1 h2 => (k5 k h2).trans ((unhide HW).2 k h1 h2))
        have hSr := (unhide H4).2.2.off (unhide S4) hx5 (fun k h1 h2 => (k5 k h2).trans ((unhide HW).2 k h1 h2))
        have hrow5 : W5.ownsRow (W4.heap.size + 1) 60 2 (.slice pk ls.length ck) ls.length (hcells ls) := by
          refine ⟨(unhide HROW).1, ?_⟩
          rcases (unhide HROW).2 with h2 | ⟨g, cap, cur, e0, hbase, hg, rr⟩
          · exact .inl h2
          · exact .inr ⟨g, cap, cur, e0, hbase, (k5 g (by omega)).trans hg, rr⟩
        have hHd : Hd W5 (.slice pk ls.length ck) ls := Hd.of_owns hrow5
        refine bodyPost_ret (v := .tuple #[.agg #[.string (bs r.ty), .slice pk ls.length ck, .slice p r.by_.length bc], .bool true, rv]) ?_ rfl ⟨hb5, .inr ⟨r, ls, _, _, _, _, (unhide HX).1, rfl, unhide HD2, hHd, hSb, hSr, (unhide HX).2.2.2⟩⟩
        simp [results, Tryz.results15, go_sem, d0, d1, d2]
      · intro x c kl yd yp w2 cnt2 hkey hlk hv hat hrg2 hlt hg2 hs2 hen
        obtain ⟨x', ex, rfl, hxl⟩ := Maps.keyOf_str Tryz.underlying9 hkey
        obtain rfl : x = x' := encStr_inj ex
        obtain ⟨vx, hvx, hyd⟩ := collected_at (unhide HD) hat
        obtain ⟨sx, hsx, hyy, _⟩ := plainElem_string_inv Tryz.underlying9 hv
        have hcv : c = bs vx := by
          have e1 : yd = .lit (.string sx.data.toList) := congrArg Prod.fst hyy
          rw [hyd] at e1
          simp only [DataW.lit.injEq, Lit.string.injEq] at e1
          injection hsx with e2
          rw [e2, e1]; rfl
        subst hcv
        have hrow2 := hrow.kept hg2 (Or.inr (fun e0 => by have := (hrow.lt _ e0).1; omega))
        have hbk2 : w2.heap[w.heap.size]? = _ := (hg2.block w.heap.size (lt_of_heap hbk) (by simp; omega)).trans hbk
        have hb2 : Below w.heap.size w w2 := (unhide HW).1.grown hg2 (unhide HW).1.size (fun j hj => by cases hj; omega)
        obtain ⟨pk, ck, rfl, hkc⟩ := Hd.of_owns hrow
        obtain ⟨v3, w3, hr3, hown3, hg3⟩ := append_hd1 22 60 Tryz.underlying22 infoH 22 x vx hrow2 (by omega) (by have := hg2.size; omega) 60
        have hwz2 : W4.heap.size < w2.heap.size := by have := hg2.size; omega
        have hrowA := hrow2.alloc (.cells #[.string (bs x), .string (bs vx)] 60)
        have hltA := hrowA.lt
        have hlen1 : (ls ++ [(x, vx)]).length = ls.length + 1 := by simp
        have hkeep : ∀ (j : Nat) o, j < W4.heap.size + 1 → w2.heap[j]? = some o → w3.heap[j]? = some o := fun j o hj ho =>
          (hg3.block j (by rw [World.size_alloc]; have := lt_of_heap ho; omega) (fun e0 => by have := (hltA _ e0.symm).1; omega)).trans ((Below.heap_alloc _ _ _ (lt_of_heap ho)).trans ho)
        have hbk3 := hkeep _ _ (by omega) hbk2
        have hrg3 := (hrg2.alloc (.cells #[.string (bs x), .string (bs vx)] 60)).kept hg3 (fun e0 => by have := (hltA _ e0.symm).1; omega) (fun e0 => by have := (hltA _ e0.symm).1; omega)
        have hb3 : Below w.heap.size w w3 := (balloc hb2 _).grown hg3 (by rw [World.size_alloc]; have := hb2.size; omega) (fun j hj => by have := (hltA _ hj).1; omega)
        obtain ⟨p3, c3, rfl, hk3⟩ := Hd.of_owns hown3
        rw [hlen1] at hr3 hown3
        have hrg4 := hrg3.kept (grown_set (⟨rfl, rfl, rfl, Nat.le_refl _, fun _ _ _ => rfl⟩ : w3.grownBy w3 (some w.heap.size)) 1 (.slice p3 (ls.length + 1) c3)) (by simpa using hmb) (by simp; omega)
        have hrow4 := ownsRow_setCell hown3 (show w.heap.size < W4.heap.size + 1 by omega) 1 (.slice p3 (ls.length + 1) c3)
        have hbk4 := heap_set_same hbk3 (i := 1) (.slice p3 (ls.length + 1) c3)
        have hb4 : Below w.heap.size w (w3.setCell ⟨w.heap.size, 1, none⟩ (.slice p3 (ls.length + 1) c3)) := hb3.setCell (Nat.le_refl w.heap.size) _
        have hk4 : ∀ k, k < W4.heap.size → k ≠ w.heap.size → (w3.setCell ⟨w.heap.size, 1, none⟩ (.slice p3 (ls.length + 1) c3)).heap[k]? = W4.heap[k]? := by
          intro k h1 h2
          rw [Below.heap_setCell _ _ _ _ h2, ← (unhide HW).2 k h1 h2]
          have h3 : w2.heap[k]? = wr.heap[k]? := hg2.block k (by omega) (by simp; omega)
          obtain ⟨o, ho⟩ : ∃ o, wr.heap[k]? = some o := ⟨_, Array.getElem?_eq_getElem (by omega)⟩
          rw [ho]; exact hkeep k o (by omega) (h3.trans ho)
        have hcoll : Coll D r.hs (fun z => left z && !z.sameKey (Lit.string x)) (ls ++ [(x, vx)]) := by
          refine ⟨?_, fun q hq => ?_⟩
          · rw [List.map_append]; exact (unhide HC).1.step hlk hat
          · rcases List.mem_append.1 hq with h1 | h1
            · exact (unhide HC).2 q h1
            · rw [List.mem_singleton.1 h1]; exact hvx
        have c21 : w2.cell? ⟨w.heap.size, 1, none⟩ = some (.slice pk ls.length ck) := by rw [cell_of_heap hbk2]; rfl
        have c31 : w3.cell? ⟨w.heap.size, 1, none⟩ = some (.slice pk ls.length ck) := by rw [cell_of_heap hbk3]; rfl
        have f31 : w3.frozen? ⟨w.heap.size, 1, none⟩ = false := frozen_of_heap hbk3 1
        have hwz4 : W4.heap.size < w3.heap.size := by have := hg3.size; rw [World.size_alloc] at this; omega
        have HN := hide (And.intro hrg4 (And.intro hrow4 (And.intro hbk4 (And.intro hb4 (And.intro hk4 (And.intro hcoll (And.intro hwz4 (And.intro hrg.left_eq (And.intro hrg4.left_eq hlt)))))))))
        rw [encStr_bs] at hen
        clear hrg hrg2 hrg3 hrg4 hrow hrow2 hrowA hrow4 hown3 hbk hbk2 hbk3 hbk4 hb2 hb3 hb4 hk4 hcoll hlt hg2 hs2 hkey hlk hv hat ex hxl hvx hyd hsx hyy hk3 hkc hltA hkeep hg3 hwz2 hwz4 hlen1 HC HW
        go_wp2_with (first
          | (at_builtin; refine Lib.wpList_append_run_sl _ rfl _ _ 22 rfl _ _ rfl rfl hr3 ?_)
          | fail)
        obtain ⟨g1, g2, g3, g4, g5, g6, g7, g8, g9, g10⟩ := unhide HN
        refine ⟨⟨_, cnt2, ls ++ [(x, vx)], .slice p3 (ls.length + 1) c3, g1, by simp; omega, g3, by rw [List.length_append]; exact g2, by simp; omega, g6, g4, g5⟩, ?_⟩
        rw [g8, g9]; exact g10
end Go.Proofs.YtpjehmblndjknaaGreatDoor

namespace Go.Proofs.YtpjehmblndjknaaGreatDoor
open Go.RowKit
set_option linter.unusedSimpArgs false
set_option linter.unusedVariables false

/-- v holds the bytes l, in a block from B on, and there is room up to its capacity; or it is nil. -/
def Apd (w : World) (B : Nat) (v : Value) (l : List UInt8) : Prop :=
  (v = .slice none 0 0 ∧ l = []) ∨ ∃ g cap : Nat, v = .slice (some ⟨g, 0, none⟩) l.length cap ∧ B ≤ g ∧ g < w.heap.size ∧ l.length ≤ cap ∧
   (∀ (i : Nat) (x : UInt8), l[i]? = some x → w.cell? ⟨g, i, none⟩ = some (bv x)) ∧ ∀ j, j < cap → (w.cell? ⟨g, j, none⟩).isSome = true ∧ w.frozen? ⟨g, j, none⟩ = false
theorem Apd.nil (w : World) (B : Nat) : Apd w B (.slice none 0 0) [] := .inl ⟨rfl, rfl⟩
theorem Apd.sl {w : World} {B : Nat} {v : Value} {l : List UInt8} (h : Apd w B v l) : Sl w v l := by
  rcases h with ⟨rfl, rfl⟩ | ⟨g, cap, rfl, _, _, hl, hc, _⟩
  · exact Sl.nil w
  · exact Sl.mk' rfl hl (fun i x hx => by rw [Nat.zero_add]; exact hc i x hx)
theorem Apd.below {w w' : World} {B : Nat} {v : Value} {l : List UInt8} (h : Apd w B v l) (hb : Below w.heap.size w w') : Apd w' B v l := by
  rcases h with h | ⟨g, cap, rfl, h1, h2, hl, hc, hr⟩
  · exact .inl h
  · refine .inr ⟨g, cap, rfl, h1, Nat.lt_of_lt_of_le h2 hb.size, hl, fun i x hx => ?_, fun j hj => ?_⟩
    · rw [hb.cell (p := ⟨g, i, none⟩) h2]; exact hc i x hx
    · rw [hb.cell (p := ⟨g, j, none⟩) h2, hb.frozen (p := ⟨g, j, none⟩) h2]; exact hr j hj
theorem Apd.drewN {w : World} {B : Nat} {v : Value} {l : List UInt8} (h : Apd w B v l) (n : Nat) : Apd (w.drewN n) B v l := h
theorem Apd.mono {w : World} {B B' : Nat} {v : Value} {l : List UInt8} (h : Apd w B v l) (hB : B' ≤ B) : Apd w B' v l := by
  rcases h with h | ⟨g, cap, h0, h1, h2⟩
  · exact .inl h
  · exact .inr ⟨g, cap, h0, Nat.le_trans hB h1, h2⟩
/-- []byte(s) -/
theorem Apd.conv (w : World) (l : List UInt8) : Apd (Lib.bytesWorld w 5 (bs l)) w.heap.size (.slice (some ⟨w.heap.size, 0, none⟩) l.length (grownCap w l.length 0 5)) l := by
  have hn := Lib.bytesWorld_at_new w 5 (bs l)
  refine .inr ⟨w.heap.size, _, rfl, Nat.le_refl _, by rw [Lib.bytesWorld_size]; omega, grownCap_ge _ _ _ _, fun i x hx => ?_, fun j hj => ?_⟩
  · have hi : i < l.length := (List.getElem?_eq_some_iff.1 hx).1
    rw [Lib.bytesWorld_cell _ _ _ _ (by rw [bs_size]; exact hi), bs_toList, List.getD_eq_getElem?_getD, hx]; rfl
  · have hsz : (Lib.bytesCells w 5 (bs l)).size = grownCap w l.length 0 5 := by
      have := grownCap_ge w l.length 0 5
      unfold Lib.bytesCells
      simp [bs_size, Builtin.zeroCells]
      omega
    rw [cell_of_heap hn]
    refine ⟨by rw [Array.getElem?_eq_getElem (by omega)]; rfl, ?_⟩
    simp [World.frozen?, hn]
    omega
theorem below_setCells {B g : Nat} (hB : B ≤ g) (W : World) : ∀ (vs : List Value) (o : Nat) (w : World), Below B W w → Below B W (w.setCells g o vs)
  | [], _, _, h => h
  | v :: r, o, w, h => below_setCells hB W r (o + 1) _ (h.setCell hB _)
theorem src_sl {w : World} {u : Value} {r : List UInt8} (h : Sl w u r) : Go.Src Tryz.prog 1 23 u r.length (r.map bv) w := by
  have h1 : ∀ x ∈ r.map bv, x.oneCell' = true := by
    intro x hx
    obtain ⟨y, _, rfl⟩ := List.mem_map.1 hx
    rfl
  obtain ⟨p, cap, rfl, _, hc⟩ := h
  by_cases h0 : r = []
  · subst h0
    cases p with
    | none => exact Go.Src.ofNil w Tryz.underlying23 cap
    | some a => exact Go.Src.ofSlice w Tryz.underlying23 a 0 cap [] rfl (fun j u hu => by simp at hu) (fun x hx => by cases hx)
  · obtain ⟨b, o, rfl, hcell⟩ := hc h0
    refine Go.Src.ofSlice w Tryz.underlying23 ⟨b, o, none⟩ r.length cap (r.map bv) (by simp) (fun j u hu => ?_) h1
    rw [List.getElem?_map] at hu
    obtain ⟨x, hx, rfl⟩ := Option.map_eq_some_iff.1 hu
    rw [addr_add]; exact hcell j x hx
theorem src_str (w : World) (r : List UInt8) : Go.Src Tryz.prog 1 9 (.string (bs r)) r.length (r.map bv) w := by
  have h := Go.Src.ofString (P := Tryz.prog) w Tryz.underlying9 (bs r)
  rw [bs_size] at h
  exact h
theorem firstCells_apd {w : World} {g n cap : Nat} {l : List UInt8} (hn : n = l.length) (hc : ∀ (i : Nat) (x : UInt8), l[i]? = some x → w.cell? ⟨g, i, none⟩ = some (bv x)) : (Builtin.firstCells 1 n (.slice (some ⟨g, 0, none⟩) n cap)).run Tryz.prog w = .ok (l.map bv).toArray w := by
  subst hn
  refine run_firstCells_some w 1 l.length ⟨g, 0, none⟩ l.length cap (l.map bv) (by simp) (fun j u hu => ?_)
  rw [List.getElem?_map] at hu
  obtain ⟨x, hx, rfl⟩ := Option.map_eq_some_iff.1 hu
  rw [addr_add, Nat.zero_add]; exact hc j x hx
theorem grown_apd {w : World} {B n m cap0 : Nat} {l r : List UInt8} (hn : n = l.length) (hm : m = r.length) (hB : B ≤ w.heap.size) :
    Apd (w.drew.alloc (.cells ((l.map bv ++ r.map bv).toArray ++ Builtin.zeroCells (Value.int .u8 0).cells (grownCap w (n + m) cap0 5 - (n + m))) 5)) B (.slice (some ⟨w.heap.size, 0, none⟩) (n + m) (grownCap w (n + m) cap0 5)) (l ++ r) := by
  have hge := grownCap_ge w (n + m) cap0 5
  have hnew : (w.drew.alloc (.cells ((l.map bv ++ r.map bv).toArray ++ Builtin.zeroCells (Value.int .u8 0).cells (grownCap w (n + m) cap0 5 - (n + m))) 5)).heap[w.heap.size]? = _ := heap_new w.drew _
  have hlen : (l ++ r).length = n + m := by rw [List.length_append, hn, hm]
  have hz : (Builtin.zeroCells (Value.int .u8 0).cells (grownCap w (n + m) cap0 5 - (n + m))).size = grownCap w (n + m) cap0 5 - (n + m) := by simp [Builtin.zeroCells, Value.cells]
  refine .inr ⟨w.heap.size, _, by rw [hlen], hB, by rw [World.size_alloc]; exact Nat.lt_succ_self _, by rw [hlen]; exact hge, fun i x hx => ?_, fun j hj => ?_⟩
  · have hi : i < n + m := by rw [← hlen]; exact (List.getElem?_eq_some_iff.1 hx).1
    rw [cell_of_heap hnew, Array.getElem?_append_left (by simp; omega), List.getElem?_toArray, ← List.map_append, List.getElem?_map, hx]; rfl
  · rw [cell_of_heap hnew]
    refine ⟨by rw [Array.getElem?_eq_getElem (by rw [Array.size_append, hz]; simp; omega)]; rfl, frozen_of_heap hnew j⟩
/-- append(v, u...) -/
theorem append_apd {w : World} {B : Nat} {v u : Value} {l r : List UInt8} {tx : TypeId} (ty : TypeId) (h : Apd w B v l) (hs : Go.Src Tryz.prog 1 tx u r.length (r.map bv) w) (hB : B ≤ w.heap.size) (hsz : l.length + r.length ≤ 140737488351232) :
    ∃ v' w', (Builtin.append_ #[23, tx] ty #[v, u]).run Tryz.prog w = .ok v' w' ∧ Apd w' B v' (l ++ r) ∧ Below B w w' := by
  obtain ⟨i0, hi, hz0, hz1, hz2⟩ := info_parts info_u8
  have hs' : Go.Src Tryz.prog i0.size tx u r.length (r.map bv) w := by rw [hz1]; exact hs
  have hgrown : ∀ (cs : Array Value), Below B w (w.drew.alloc (.cells cs 5)) := fun cs => (show Below B w w.drew from ⟨rfl, rfl, rfl, Nat.le_refl _, fun _ _ => rfl⟩).alloc hB _
  rcases h with ⟨rfl, rfl⟩ | ⟨g, cap, rfl, h1, h2, hl, hc, hr⟩
  · by_cases h0 : r = []
    · subst h0
      have hrun := run_append_nothing (P := Tryz.prog) w 23 tx ty 5 i0 Tryz.underlying23 hi none 0 0 (Nat.le_refl _) u hs'
      exact ⟨_, _, hrun, .inl ⟨rfl, rfl⟩, ⟨rfl, rfl, rfl, Nat.le_refl _, fun _ _ => rfl⟩⟩
    · have hpos := List.length_pos_iff.2 h0
      have hrun := run_append_grow_src (P := Tryz.prog) w 23 tx ty 5 i0 _ Tryz.underlying23 hi hz0 none 0 0 [] (by rw [hz1]; exact run_firstCells_none _ _ _ _ _) u r.length _ hs' (by omega) (by simp at hsz ⊢; omega) (by rw [hz2]; exact growslice_fits (by omega) (by simp at hsz ⊢; omega))
      exact ⟨_, _, hrun, grown_apd (l := []) rfl rfl hB, hgrown _⟩
  · by_cases hroom : l.length + r.length ≤ cap
    · have hrun := run_append_room_src (P := Tryz.prog) w 23 tx ty 5 i0 Tryz.underlying23 hi g 0 l.length cap u r.length _ hs' hroom (fun j hj => by rw [hz1, Nat.zero_add, Nat.mul_one]; rw [List.length_map] at hj; exact (hr _ (by omega)).1) (fun j hj => by rw [hz1, Nat.zero_add, Nat.mul_one]; rw [List.length_map] at hj; exact (hr _ (by omega)).2)
      rw [hz1, Nat.zero_add, Nat.mul_one] at hrun
      refine ⟨_, _, hrun, .inr ⟨g, cap, by rw [List.length_append], h1, ?_, by rw [List.length_append]; exact hroom, fun i x hx => ?_, fun j hj => ⟨?_, ?_⟩⟩, below_setCells h1 w _ _ w ⟨rfl, rfl, rfl, Nat.le_refl _, fun _ _ => rfl⟩⟩
      · have := (below_setCells (Nat.zero_le g) w (r.map bv) l.length w ⟨rfl, rfl, rfl, Nat.le_refl _, fun _ _ => rfl⟩).size
        omega
      · rcases Nat.lt_or_ge i l.length with hi2 | hi2
        · rw [World.cell?_setCells_out _ _ _ _ _ (fun _ _ => .inl hi2)]
          rw [List.getElem?_append_left hi2] at hx
          exact hc i x hx
        · rw [List.getElem?_append_right hi2] at hx
          have hlt : i - l.length < r.length := (List.getElem?_eq_some_iff.1 hx).1
          have h3 := World.cell?_setCells_in g (r.map bv) l.length w (fun j hj => by rw [List.length_map] at hj; exact (hr _ (by omega)).1) (i - l.length) (by rw [List.length_map]; exact hlt)
          rw [show l.length + (i - l.length) = i by omega] at h3
          rw [h3, List.getElem_map]
          rw [List.getElem?_eq_getElem hlt] at hx
          rw [Option.some.inj hx]
      · exact World.isSome_setCells _ _ _ _ _ (hr j hj).1
      · rw [World.frozen?_setCells]; exact (hr j hj).2
    · have hrun := run_append_grow_src (P := Tryz.prog) w 23 tx ty 5 i0 _ Tryz.underlying23 hi hz0 (some ⟨g, 0, none⟩) l.length cap (l.map bv) (by rw [hz1]; exact firstCells_apd (w := w.drew) rfl hc) u r.length _ hs' (by omega) (by omega) (by rw [hz2]; exact growslice_fits (by omega) (by omega))
      exact ⟨_, _, hrun, grown_apd rfl rfl hB, hgrown _⟩
end Go.Proofs.YtpjehmblndjknaaGreatDoor

namespace Go.Proofs.YtpjehmblndjknaaGreatDoor
open Go.RowKit Go.Maps
set_option linter.unusedSimpArgs false
set_option linter.unusedVariables false

/-- The block is found: the same type, bytes, and headers in some order. -/
def FoundPost (ty : List UInt8) (hs : Hdrs) (d rest : List UInt8) (w : World) (e : Ending) (w' : World) : Prop :=
  Below w.heap.size w w' ∧ ∃ (hv rv : Value) (q : Option Addr) (bc : Nat) (ls : Hdrs), e = .returned (.tuple #[.agg #[.string (bs ty), hv, .slice q d.length bc], .bool true, rv]) ∧ Hd w' hv ls ∧ sameH ls hs = true ∧ Sl w' (.slice q d.length bc) d ∧ Sl w' rv rest ∧ bc ≤ 9223372036854775807
/-- None is found. -/
def NonePost (v : Value) (w : World) (e : Ending) (w' : World) : Prop :=
  Below w.heap.size w w' ∧ e = .returned (.tuple #[.agg #[.string ⟨#[]⟩, .slice none 0 0, .slice none 0 0], .bool false, v])

theorem decode_found (hpem : PemOK) (v : Value) (data : List UInt8) (w : World) (hs : Sl w v data) (hl : data.length ≤ 140737488351232) (hT : Tabs w) {ty d rest : List UInt8} {hd : Hdrs} (hn : (hd.map (·.1)).Nodup) (hm : hd.length ≤ 4294967290)
   (hlaw : ∀ o, Dec data o → o = some ⟨ty, wlist hd, d, rest⟩) : Calls Tryz.prog 15 #[v] w (FoundPost ty hd d rest w) := by
  refine (decode_any hpem v data w hs hl hT (fun r hr => ?_)).mono ?_
  · have h1 := Option.some.inj (hlaw _ hr)
    subst h1
    have := wlist_len hd
    show (wlist hd).length ≤ _
    omega
  · rintro e w' ⟨hb, h⟩
    rcases h with ⟨h1, _⟩ | ⟨r, ls, hv, rv, q, bc, h1, rfl, h2, h3, h4, h5, h6⟩
    · cases hlaw _ h1
    · have h7 := Option.some.inj (hlaw _ h1)
      subst h7
      exact ⟨hb, hv, rv, q, bc, ls, rfl, h3, h2.same hn, h4, h5, h6⟩
theorem decode_no (hpem : PemOK) (v : Value) (data : List UInt8) (w : World) (hs : Sl w v data) (hl : data.length ≤ 140737488351232) (hT : Tabs w)
   (hlaw : ∀ o, Dec data o → o = none) : Calls Tryz.prog 15 #[v] w (NonePost v w) := by
  refine (decode_any hpem v data w hs hl hT (fun r hr => by cases hlaw _ hr)).mono ?_
  rintro e w' ⟨hb, h⟩
  rcases h with ⟨_, h1⟩ | ⟨r, ls, hv, rv, q, bc, h1, _⟩
  · exact ⟨hb, h1⟩
  · cases hlaw _ h1
theorem conv_bl (l : List UInt8) (W : World) : (convert 9 23 (.string (bs l))).run Tryz.prog W = .ok (.slice (some ⟨W.heap.size, 0, none⟩) l.length (grownCap W l.length 0 5)) (Lib.bytesWorld W 5 (bs l)) := by
  have h := Lib.run_convert_string_bytes (P := Tryz.prog) W _ _ _ (bs l) Tryz.underlying9 Tryz.underlying23 Tryz.underlying5
  rw [bs_size] at h
  exact h
theorem sameH_len {a b : Hdrs} (h : sameH a b = true) : a.length = b.length := by
  unfold sameH at h
  simp only [Bool.and_eq_true, decide_eq_true_eq] at h
  exact h.1
end Go.Proofs.YtpjehmblndjknaaGreatDoor

namespace Go.Proofs.YtpjehmblndjknaaGreatDoor
open Go.RowKit Go.Maps
set_option linter.unusedSimpArgs false
set_option linter.unusedVariables false

theorem fits_sm {ty d : List UInt8} {hs : Hdrs} (h1 : ty.length ≤ 1048576) (hn : hs.length ≤ 1048576) (hx : ∀ p ∈ hs, p.1.length ≤ 1048576 ∧ p.2.length ≤ 1048576) (hd : d.length ≤ 1048576) : fitsB ty hs d = true := by
  unfold fitsB fitsHs
  simp only [Bool.and_eq_true, decide_eq_true_eq, List.all_eq_true]
  refine ⟨⟨by omega, by omega, fun p hp => ?_⟩, by omega⟩
  have := hx p hp
  unfold fitsH
  simp only [Bool.and_eq_true, decide_eq_true_eq]
  omega

set_option maxRecDepth 100000 in
set_option maxHeartbeats 4000000 in
theorem fnBack_walk (hpem : PemOK) (ty d rest : List UInt8) (hv : Value) (q qr : Option Addr) (bc rc : Nat) (hs : Hdrs) (w : World) (hT : Tabs w) (hH : Hd w hv hs) (hS : Sl w (.slice q d.length bc) d) (hbc : bc ≤ 9223372036854775807) (hR : Sl w (.slice qr rest.length rc) rest)
   (h1 : ty.length ≤ 1048576) (hn : hs.length ≤ 1048576) (hx : ∀ p ∈ hs, p.1.length ≤ 1048576 ∧ p.2.length ≤ 1048576) (hd : d.length ≤ 1048576) (hr : rest.length ≤ 1048576) :
    Calls Tryz.prog 5 #[.agg #[.string (bs ty), hv, .slice q d.length bc], .slice qr rest.length rc] w fun e w' => e = .returned (.bool true) ∧ Below w.heap.size w w' := by
  have hb0 : Below w.heap.size w (w.alloc (.cells #[.string (bs ty), hv, .slice q d.length bc] 25)) := balloc (Below.refl _ _) _
  have hfit := zzFits1_any ty d hv _ hs _ (hH.below hb0) (hS.below hb0) (by omega) (by omega) (by omega) (fun p hp => by have := hx p hp; omega)
  rw [World.size_alloc, fits_sm h1 hn hx hd] at hfit
  have HF := hide hfit
  have HH := hide hH
  have HS := hide hS
  have HR := hide hR
  have HX := hide hx
  have HT := hide hT
  have hpl := pemOut_bound h1 (by omega) hd hx
  obtain ⟨p, cap, rfl, _⟩ := hH
  clear hfit hb0 hS hx hR hT
  go_enter Tryz.func5, Tryz.ntmps5
  go_wp2_with fail
  refine (unhide HF).mono ?_
  rintro e w1 ⟨rfl, hb1⟩
  have HB1 : Hid (Below w.heap.size w w1) := (balloc (Below.refl _ _) _).trans (hb1.mono (by omega))
  have hz1 : w.heap.size < w1.heap.size := by have := hb1.size; rw [World.size_alloc] at this; omega
  have hblk1 : w1.heap[w.heap.size]? = some (.cells #[.string (bs ty), .slice p hs.length cap, .slice q d.length bc] 25 (0, 0)) := by
    rw [hb1.block _ (by omega)]; exact heap_new w _
  obtain ⟨c10, c11, c12, -⟩ := cells3 hblk1
  have henc := hide (encoded_any ty d (.slice p hs.length cap) q bc hs w1 ((unhide HH).below (unhide HB1)) ((unhide HS).below (unhide HB1)) hbc (fun p hp => by have := unhide HX p hp; omega) (by omega) (by omega) (fun _ => by omega))
  have HBLK1 := hide hblk1
  clear hb1 HF hblk1
  go_wp2_with fail
  refine (unhide henc).mono ?_
  rintro e w2 ⟨hb2, hcase⟩
  have HB2 : Hid (Below w.heap.size w w2) := bstep (unhide HB1) hb2
  have hblk2 := (hb2.block _ hz1).trans (unhide HBLK1)
  have hz2 : w.heap.size < w2.heap.size := lt_of_heap hblk2
  have HBLK2 := hide hblk2
  clear henc hb2 hblk2 HBLK1 c10 c11 c12
  rcases hcase with ⟨hpr, rfl⟩ | ⟨hpr, s, rfl⟩
  rotate_left
  · have hwk := hide (works_any w2)
    clear hpr
    go_wp2_with fail
    refine (unhide hwk).mono ?_
    rintro e w7 ⟨rfl, hb7⟩
    have HB7 : Hid (Below w.heap.size w w7) := bstep (unhide HB2) hb7
    clear hb7 hwk
    go_wp2
    go_ret
    exact ⟨rfl, unhide HB7⟩
  · obtain ⟨hty, hph, hnd⟩ := plainH_of hpr
    have hB12 : Below w.heap.size w (Lib.bytesWorld w2 5 (bs (pemOut ty hs d))) := bstep (unhide HB2) (bytesWorld_below w2 5 (bs (pemOut ty hs d)))
    obtain ⟨v4, w4, hr4, ha4, hb4⟩ := append_apd 23 (Apd.conv w2 (pemOut ty hs d)) (src_sl ((unhide HR).below hB12)) (by rw [Lib.bytesWorld_size]; omega) (by omega)
    have hcv := conv_bl (pemOut ty hs d) w2
    have hb24 : Below w2.heap.size w2 w4 := (bytesWorld_below w2 5 (bs (pemOut ty hs d))).trans hb4
    have HB4 : Hid (Below w.heap.size w w4) := bstep (unhide HB2) hb24
    have hblk4 := (hb24.block _ hz2).trans (unhide HBLK2)
    have HBLK4 := hide hblk4
    have hdec := hide (decode_found hpem v4 _ w4 ha4.sl (by rw [List.length_append]; omega) ((unhide HT).below (unhide HB4)) (ty := ty) (d := d) (rest := rest) hnd (by omega) (fun o ho => law_back hty hph (by rw [← pemOut_written]; exact ho)))
    generalize pemOut ty hs d = X at *
    clear ha4 hb4 hb24 hblk4 hB12 hpr hty hph hnd HBLK2
    go_wp2_with (first
      | (at_builtin; refine Lib.wpList_append_run_sl _ rfl _ _ 23 rfl _ _ rfl rfl hr4 ?_)
      | fail)
    refine (unhide hdec).mono ?_
    rintro e w5 ⟨hb5, hv5, rv, q5, bc5, ls, rfl, g1, g2, g3, g4, g5⟩
    clear hdec hcv hr4
    obtain ⟨p5, cap5, rfl, hc5⟩ := g1
    have g1 : Hd w5 (.slice p5 ls.length cap5) ls := ⟨p5, cap5, rfl, hc5⟩
    clear hc5
    have hblk5 := (hb5.block _ (lt_of_heap (unhide HBLK4))).trans (unhide HBLK4)
    have hb56 : Below w5.heap.size w5 (w5.alloc (.cells #[.string (bs ty), .slice p5 ls.length cap5, .slice q5 d.length bc5] 25)) := balloc (Below.refl _ _) _
    have hblk6 := (hb56.block _ (lt_of_heap hblk5)).trans hblk5
    have hgot6 := heap_new w5 (.cells #[.string (bs ty), .slice p5 ls.length cap5, .slice q5 d.length bc5] 25)
    have HB6 : Hid (Below w.heap.size w (w5.alloc (.cells #[.string (bs ty), .slice p5 ls.length cap5, .slice q5 d.length bc5] 25))) := bstep (bstep (unhide HB4) hb5) hb56
    have hg1 := g1.below hb56
    have hg3 := g3.below hb56
    have hg4 := g4.below hb56
    have hH6 := (unhide HH).below (unhide HB6)
    have hS6 := (unhide HS).below (unhide HB6)
    have hR6 := (unhide HR).below (unhide HB6)
    clear hblk5 hb56 hb5 g1 g3 g4 HBLK4
    go_upto_region 7 with (fail)
    generalize hw6 : w5.alloc (.cells #[.string (bs ty), .slice p5 ls.length cap5, .slice q5 d.length bc5] 25) = w6 at HB6 hg1 hg3 hg4 hH6 hS6 hR6 hblk6 hgot6 ⊢
    clear hw6
    generalize w5.heap.size = g at hgot6 ⊢
    have HKP : Hid (∀ W, Below w6.heap.size w6 W → W.heap[g]? = some (.cells #[.string (bs ty), .slice p5 ls.length cap5, .slice q5 d.length bc5] 25 (0, 0)) ∧ W.heap[w.heap.size]? = some (.cells #[.string (bs ty), .slice p hs.length cap, .slice q d.length bc] 25 (0, 0))) := fun W hW => ⟨(hW.block _ (lt_of_heap hgot6)).trans hgot6, (hW.block _ (lt_of_heap hblk6)).trans hblk6⟩
    have HG6 := hide (And.intro hg1 (And.intro hg3 (And.intro hg4 (And.intro hH6 (And.intro hS6 hR6)))))
    have G2 := hide g2
    clear hg1 hg3 hg4 hH6 hS6 hR6 hblk6 hgot6 g2
    go_cut [4] (fun v4 w' => v4 = .bool true ∧ Hid (Below w.heap.size w w'))
    case first =>
      have HSP : ∀ W, Below w6.heap.size w6 W → W.cell? ⟨g, 0, none⟩ = some (.string (bs ty)) ∧ W.cell? ⟨g, 1, none⟩ = some (.slice p5 ls.length cap5) ∧ W.cell? ⟨g, 2, none⟩ = some (.slice q5 d.length bc5) ∧ W.cell? ⟨w.heap.size, 0, none⟩ = some (.string (bs ty)) ∧ W.cell? ⟨w.heap.size, 1, none⟩ = some (.slice p hs.length cap) ∧ W.cell? ⟨w.heap.size, 2, none⟩ = some (.slice q d.length bc) ∧ (convert 23 9 rv).run Tryz.prog W = .ok (.string (bs rest)) W ∧ (convert 23 9 (.slice qr rest.length rc)).run Tryz.prog W = .ok (.string (bs rest)) W := fun W hW => by
        obtain ⟨k1, k2⟩ := unhide HKP W hW
        obtain ⟨c0, c1, c2, -⟩ := cells3 k1
        obtain ⟨e0, e1, e2, -⟩ := cells3 k2
        exact ⟨c0, c1, c2, e0, e1, e2, conv_sl2 (unhide HG6).2.2.1 W hW, conv_sl2 (unhide HG6).2.2.2.2.2 W hW⟩
      have HSP' := hide HSP
      obtain ⟨c0, c1, c2, e0, e1, e2, k1, k2⟩ := HSP _ (Below.refl _ _)
      have hlsn : ls.length ≤ 4294967295 := by rw [sameH_len (unhide G2)]; omega
      clear HSP HKP
      go_region_held3 (fun w' => w'.cell? ⟨g, 0, none⟩ = some (.string (bs ty)) ∧ w'.cell? ⟨g, 1, none⟩ = some (.slice p5 ls.length cap5) ∧ w'.cell? ⟨g, 2, none⟩ = some (.slice q5 d.length bc5) ∧ w'.cell? ⟨w.heap.size, 0, none⟩ = some (.string (bs ty)) ∧ w'.cell? ⟨w.heap.size, 1, none⟩ = some (.slice p hs.length cap) ∧ w'.cell? ⟨w.heap.size, 2, none⟩ = some (.slice q d.length bc) ∧ (convert 23 9 rv).run Tryz.prog w' = .ok (.string (bs rest)) w' ∧ (convert 23 9 (.slice qr rest.length rc)).run Tryz.prog w' = .ok (.string (bs rest)) w')
        (first | exact unhide HSP' _ (unhide HBc) | exact unhide HSP' _ (unhide HBb) | exact unhide HSP' _ (unhide HBa) | exact unhide HSP' _ (drewN_below w6 1) | go_keep)
        (first
          | (go_at_call_of 17 (Value.slice p5 ls.length cap5)
             refine (block_any ty _ ls q5 d.length bc5 _ ((unhide HG6).1.below (by first | exact drewN_below w6 1 | exact unhide HBb)) hlsn).mono ?_
             rintro e wA ⟨vA, rfl, hA, hbA⟩
             have HBa : Hid (Below w6.heap.size w6 wA) := by first | exact bstep (drewN_below w6 1) hbA | exact bstep (unhide HBb) hbA
             have HA := hide hA
             have HBA := hide hbA
             clear hA hbA)
          | (go_at_call_of 17 (Value.slice p hs.length cap)
             refine (block_any ty _ hs q d.length bc _ ((unhide HG6).2.2.2.1.below (by first | exact drewN_below w6 1 | exact unhide HBa)) (by omega)).mono ?_
             rintro e wB ⟨vB, rfl, hB, hbB⟩
             have HBb : Hid (Below w6.heap.size w6 wB) := by first | exact bstep (drewN_below w6 1) hbB | exact bstep (unhide HBa) hbB
             have HB := hide hB
             have HBB := hide hbB
             clear hB hbB)
          | (go_at_call 16
             refine (sameB_any ty d vA vB q5 q bc5 bc ls hs _ (by first | exact unhide HA | exact (unhide HA).below (unhide HBB)) (by first | exact unhide HB | exact (unhide HB).below (unhide HBA)) ((unhide HG6).2.1.below (by first | exact unhide HBa | exact unhide HBb)) ((unhide HG6).2.2.2.2.1.below (by first | exact unhide HBa | exact unhide HBb)) hlsn (by omega) (unhide G2)).mono ?_
             rintro e wC ⟨rfl, hbC⟩
             have HBc : Hid (Below w6.heap.size w6 wC) := by first | exact bstep (unhide HBb) hbC | exact bstep (unhide HBa) hbC
             clear hbC))
      all_goals (
        have HF := hide (bstep (unhide HB6) (unhide HBc))
        go_wp2_with fail
        go_meet
        exact ⟨rfl, unhide HF⟩)
    case rest =>
      obtain ⟨rfl, HF⟩ := hcut
      go_wp2_with fail
      go_ret
      exact ⟨rfl, unhide HF⟩
end Go.Proofs.YtpjehmblndjknaaGreatDoor

namespace Go.Proofs.YtpjehmblndjknaaGreatDoor
open Go.RowKit Go.Maps Go.ChangeShapes Go.WideShapes Go.ChangeAt Go.Joins
set_option linter.unusedSimpArgs false
set_option linter.unusedVariables false

theorem byte_wf2 {n : Int} (h : (Lit.int .u8 n).wf = true) : ((UInt8.ofNat n.toNat).toNat : Int) = n := by
  have hx : 0 ≤ n ∧ n ≤ 255 := by simpa [Lit.wf, IntKind.min, IntKind.max, IntKind.signed, IntKind.bits] using h
  rw [UInt8.toNat_ofNat']
  omega

section
variable {H : Type} {enc : TypeId × Value → H} {W : World} {base : Nat} {held : Bool} {fuel : Nat}

/-- A slice of bytes. -/
theorem open_bytes {cs : List Value} {x : DataW H × List MemPlace} (h : DataW.trod enc Tryz.prog W base (fun _ => true) held fuel 23 cs = some x) :
    ∃ (q : Option Addr) (bc : Nat) (d : List UInt8), cs = [.slice q d.length bc] ∧ Sl W (.slice q d.length bc) d ∧ bc ≤ 9223372036854775807 ∧ (q = none → bc = 0) ∧ d.length ≤ bc := by
  rcases open_ints Tryz.underlying23 Tryz.underlying5 (by kernel_rfl) h with ⟨rfl, _⟩ | ⟨a, len, cap, zs, rfl, _, hl, hm, hz, _, hcell, hwf⟩
  · exact ⟨none, 0, [], rfl, Sl.nil W, by omega, fun _ => rfl, Nat.le_refl _⟩
  · have hz2 : zs.length = cap := by simpa using hz
    have hlen : (Lib.bytesOf (zs.take len)).length = len := by rw [Lib.bytesOf_length, List.length_take]; omega
    unfold maxLen at hm
    refine ⟨some a, cap, Lib.bytesOf (zs.take len), by rw [hlen], ⟨some a, cap, rfl, by rw [hlen]; exact hl, fun hne => ?_⟩, hm, fun h => by (cases h), by rw [hlen]; exact hl⟩
    have hpos : 0 < len := by rw [← hlen]; exact List.length_pos_iff.2 hne
    obtain ⟨b, o, spot⟩ := a
    have h0 := hcell 0 (by omega)
    have hsp : spot = none := by simpa [Addr.add] using World.cell?_spot h0
    subst hsp
    refine ⟨b, o, rfl, fun i x hx => ?_⟩
    have hi : i < len := by rw [← hlen]; exact (List.getElem?_eq_some_iff.1 hx).1
    have h1 := hcell i (by omega)
    rw [addr_add] at h1
    rw [h1]
    unfold Lib.bytesOf at hx
    rw [List.getElem?_map, List.getElem?_take, if_pos hi] at hx
    obtain ⟨n, hn1, rfl⟩ := Option.map_eq_some_iff.1 hx
    rw [byte_wf2 (hwf n (List.mem_of_getElem? hn1))]
    simp [List.getD, hn1]

/-- A slice of headers. -/
theorem open_hdrs {cs : List Value} {x : DataW H × List MemPlace} (h : DataW.trod enc Tryz.prog W base (fun _ => true) held fuel 22 cs = some x) :
    ∃ (v : Value) (hs : Hdrs), cs = [v] ∧ Hd W v hs ∧ hs.length ≤ 9223372036854775807 ∧ ∀ p ∈ hs, p.1.length ≤ 9223372036854775807 ∧ p.2.length ≤ 9223372036854775807 := by
  rcases Deep.open_slice_pairs Tryz.underlying22 Tryz.underlying60 (by kernel_rfl) (by kernel_rfl) (by kernel_rfl) (by kernel_rfl) (by kernel_rfl) h with ⟨rfl, _⟩ | ⟨a, len, cap, m, n, V0, V1, D0, D1, P0, P1, rfl, _, hl, hm, hmm, _, hcell⟩
  · exact ⟨_, [], rfl, Hd.nil W, by simp, fun p hp => by (cases hp)⟩
  · have hmc : m = cap := by simpa using hmm
    subst hmc
    unfold maxLen at hm
    have each : ∀ i, i < m → ∃ q : ByteArray × ByteArray, W.cell? (a.add (i * 2)) = some (.string q.1) ∧ W.cell? (a.add (i * 2 + 1)) = some (.string q.2) ∧ q.1.size ≤ maxLen ∧ q.2.size ≤ maxLen := by
      intro i hi
      obtain ⟨h1, h2, h3, h4⟩ := hcell i hi
      obtain ⟨s1, e1, _, l1⟩ := DataW.trod_string Tryz.underlying9 h3
      obtain ⟨s2, e2, _, l2⟩ := DataW.trod_string Tryz.underlying9 h4
      simp at e1 e2
      exact ⟨(s1, s2), by rw [h1, e1], by rw [h2, e2], l1, l2⟩
    obtain ⟨q, hq⟩ := Deep.choose_lt each
    refine ⟨_, (List.range len).map fun i => ((q i).1.data.toList, (q i).2.data.toList), rfl, ⟨some a, m, by simp, ⟨by simpa using hl, fun h => by (cases h)⟩, fun hne => ?_⟩, by simp; omega, fun p hp => ?_⟩
    · have hpos : 0 < len := by
        rcases Nat.eq_zero_or_pos len with h0 | h0
        · subst h0; simp at hne
        · exact h0
      obtain ⟨b, o, spot⟩ := a
      have h0 := (hq 0 (by omega)).1
      have hsp : spot = none := by simpa [Addr.add] using World.cell?_spot h0
      subst hsp
      refine ⟨b, o, rfl, fun i x hx => ?_⟩
      have hi : i < len := by
        have := (List.getElem?_eq_some_iff.1 hx).1
        simpa using this
      obtain ⟨h1, h2, _⟩ := hq i (by omega)
      rw [addr_add] at h1 h2
      have hx2 : x = ((q i).1.data.toList, (q i).2.data.toList) := by
        rw [List.getElem?_map, List.getElem?_range hi] at hx
        simpa using hx.symm
      subst hx2
      exact ⟨by rw [h1, bs_of], by rw [← Nat.add_assoc] at h2; rw [h2, bs_of]⟩
    · obtain ⟨i, hi, rfl⟩ := List.mem_map.1 hp
      rw [List.mem_range] at hi
      obtain ⟨_, _, l1, l2⟩ := hq i (by omega)
      unfold maxLen at l1 l2
      exact ⟨by rw [len_of]; exact l1, by rw [len_of]; exact l2⟩


set_option maxRecDepth 100000 in
theorem open_block {r : Reach} {b0 : Nat} {v : Value} {d : DataW H} {p : List MemPlace} (hv : Value.okWide Tryz.prog W r b0 25 v) (h : DataW.Trod enc Tryz.prog W base (fun _ => true) held 25 v d p) :
    ∃ (ty by_ : List UInt8) (hv : Value) (q : Option Addr) (bc : Nat) (hs : Hdrs), v = .agg #[.string (bs ty), hv, .slice q by_.length bc] ∧ Hd W hv hs ∧ Sl W (.slice q by_.length bc) by_ ∧ bc ≤ 9223372036854775807 ∧
      ty.length ≤ 9223372036854775807 ∧ hs.length ≤ 9223372036854775807 ∧ by_.length ≤ 9223372036854775807 ∧ ∀ p ∈ hs, p.1.length ≤ 9223372036854775807 ∧ p.2.length ≤ 9223372036854775807 := by
  obtain ⟨v0, v1, v2, y0, y1, y2, n, rfl, _, _, t0, t1, t2⟩ := open_agg3 Tryz.underlying25 (by kernel_rfl) (by kernel_rfl) hv h
  obtain ⟨s, e0, _, l0⟩ := DataW.trod_string Tryz.underlying9 t0
  obtain ⟨hv, hs, e1, hH, hn, hx⟩ := open_hdrs t1
  obtain ⟨q, bc, by_, e2, hS, hbc, _, hdl⟩ := open_bytes t2
  simp at e0 e1 e2
  subst e0; subst e1; subst e2
  have l0 : s.size ≤ 9223372036854775807 := l0
  exact ⟨s.data.toList, by_, v1, q, bc, hs, by rw [bs_of], hH, hS, hbc, (by rw [len_of]; exact l0), hn, Nat.le_trans hdl hbc, hx⟩
end
end Go.Proofs.YtpjehmblndjknaaGreatDoor

namespace Go.Proofs.YtpjehmblndjknaaGreatDoor
open Go.RowKit Go.Maps Go.ChangeShapes Go.WideShapes Go.ChangeAt Go.Joins
set_option linter.unusedSimpArgs false
set_option linter.unusedVariables false

theorem bulk_pos {H : Type} (d : DataW H) : 1 ≤ Rows.uptoBulk d := by
  cases d with
  | lit l => cases l <;> simp [Rows.uptoBulk]
  | _ => simp [Rows.uptoBulk]
theorem bulk_part {H : Type} {d : DataW H} {l : List (DataW H)} (h : d ∈ l) : Rows.uptoBulk d ≤ Rows.uptoBulkAll l := by
  induction l with
  | nil => cases h
  | cons x r ih =>
    rw [Rows.uptoBulkAll]
    rcases List.mem_cons.1 h with e | e
    · subst e; omega
    · have := ih e; omega
theorem ubulk_len {H : Type} (l : List (DataW H)) : l.length ≤ Rows.uptoBulkAll l := by
  induction l with
  | nil => simp
  | cons x r ih => rw [Rows.uptoBulkAll, List.length_cons]; have := bulk_pos x; omega
theorem bulk_str {H : Type} (l : List UInt8) : Rows.uptoBulk (DataW.lit (H := H) (.string l)) = l.length + 1 := by rw [Rows.uptoBulk]
theorem bulk_elems {H : Type} (a b : List (DataW H)) : Rows.uptoBulkAll a ≤ Rows.uptoBulk (.slice a b) := by rw [Rows.uptoBulk]; omega
theorem bulk_agg {H : Type} (a : List (DataW H)) : Rows.uptoBulkAll a ≤ Rows.uptoBulk (.agg a) := by rw [Rows.uptoBulk]; omega

section
variable {H : Type} {enc : TypeId × Value → H} {W : World} {base : Nat} {held : Bool} {fuel : Nat}

theorem open_bytes_u {cs : List Value} {x : DataW H × List MemPlace} (h : DataW.trod enc Tryz.prog W base (fun _ => true) held fuel 23 cs = some x) :
    ∃ (q : Option Addr) (bc : Nat) (d : List UInt8), cs = [.slice q d.length bc] ∧ Sl W (.slice q d.length bc) d ∧ bc ≤ 9223372036854775807 ∧ (q = none → bc = 0) ∧ d.length ≤ bc ∧ d.length ≤ Rows.uptoBulk x.1 := by
  obtain ⟨q, bc, d, rfl, hS, hb, hq, hl⟩ := open_bytes h
  refine ⟨q, bc, d, rfl, hS, hb, hq, hl, ?_⟩
  rcases open_ints Tryz.underlying23 Tryz.underlying5 (by kernel_rfl) h with ⟨e, _⟩ | ⟨a, len, cap, zs, e, _, hl2, hm, hz, hx, _⟩
  · simp at e
    rw [e.2.1]; exact Nat.zero_le _
  · simp at e
    obtain ⟨-, e2, -⟩ := e
    rw [hx, e2]
    refine Nat.le_trans ?_ (bulk_elems _ _)
    refine Nat.le_trans ?_ (ubulk_len _)
    have hz2 : zs.length = cap := by simpa using hz
    unfold lits
    rw [List.length_map, List.length_take]
    omega

theorem open_hdrs_u {cs : List Value} {x : DataW H × List MemPlace} (h : DataW.trod enc Tryz.prog W base (fun _ => true) held fuel 22 cs = some x) :
    ∃ (v : Value) (hs : Hdrs), cs = [v] ∧ Hd W v hs ∧ hs.length ≤ Rows.uptoBulk x.1 ∧ ∀ p ∈ hs, p.1.length ≤ Rows.uptoBulk x.1 ∧ p.2.length ≤ Rows.uptoBulk x.1 := by
  rcases Deep.open_slice_pairs Tryz.underlying22 Tryz.underlying60 (by kernel_rfl) (by kernel_rfl) (by kernel_rfl) (by kernel_rfl) (by kernel_rfl) h with ⟨rfl, _⟩ | ⟨a, len, cap, m, n, V0, V1, D0, D1, P0, P1, rfl, _, hl, hm, hmm, hxx, hcell⟩
  · exact ⟨_, [], rfl, Hd.nil W, by simp, fun p hp => by (cases hp)⟩
  · have hmc : m = cap := by simpa using hmm
    subst hmc
    have each : ∀ i, i < m → ∃ q : ByteArray × ByteArray, W.cell? (a.add (i * 2)) = some (.string q.1) ∧ W.cell? (a.add (i * 2 + 1)) = some (.string q.2) ∧ D0 i = .lit (.string q.1.data.toList) ∧ D1 i = .lit (.string q.2.data.toList) := by
      intro i hi
      obtain ⟨h1, h2, h3, h4⟩ := hcell i hi
      obtain ⟨s1, e1, x1, l1⟩ := DataW.trod_string Tryz.underlying9 h3
      obtain ⟨s2, e2, x2, l2⟩ := DataW.trod_string Tryz.underlying9 h4
      simp at e1 e2
      exact ⟨(s1, s2), by rw [h1, e1], by rw [h2, e2], congrArg Prod.fst x1, congrArg Prod.fst x2⟩
    obtain ⟨q, hq⟩ := Deep.choose_lt each
    refine ⟨_, (List.range len).map fun i => ((q i).1.data.toList, (q i).2.data.toList), rfl, ⟨some a, m, by simp, ⟨by simpa using hl, fun h => by (cases h)⟩, fun hne => ?_⟩, ?_, fun p hp => ?_⟩
    · have hpos : 0 < len := by
        rcases Nat.eq_zero_or_pos len with h0 | h0
        · subst h0; simp at hne
        · exact h0
      obtain ⟨b, o, spot⟩ := a
      have h0 := (hq 0 (by omega)).1
      have hsp : spot = none := by simpa [Addr.add] using World.cell?_spot h0
      subst hsp
      refine ⟨b, o, rfl, fun i x hx => ?_⟩
      have hi : i < len := by
        have := (List.getElem?_eq_some_iff.1 hx).1
        simpa using this
      obtain ⟨h1, h2, _⟩ := hq i (by omega)
      rw [addr_add] at h1 h2
      have hx2 : x = ((q i).1.data.toList, (q i).2.data.toList) := by
        rw [List.getElem?_map, List.getElem?_range hi] at hx
        simpa using hx.symm
      subst hx2
      exact ⟨by rw [h1, bs_of], by rw [← Nat.add_assoc] at h2; rw [h2, bs_of]⟩
    · rw [hxx]
      refine Nat.le_trans ?_ (Nat.le_trans (ubulk_len _) (bulk_elems _ _))
      simp
    · obtain ⟨i, hi, rfl⟩ := List.mem_map.1 hp
      rw [List.mem_range] at hi
      obtain ⟨_, _, x1, x2⟩ := hq i (by omega)
      have hmem : (DataW.agg [D0 i, D1 i]) ∈ (List.range len).map fun i => DataW.agg [D0 i, D1 i] := List.mem_map.2 ⟨i, List.mem_range.2 hi, rfl⟩
      have hle := Nat.le_trans (bulk_part hmem) (bulk_elems _ ((List.range (m - len)).map fun j => .agg [D0 (len + j), D1 (len + j)]))
      have hle2 := Nat.le_trans (bulk_agg _) hle
      rw [hxx]
      rw [x1, x2] at hle2
      simp only [Rows.uptoBulkAll, bulk_str] at hle2
      simp only
      constructor <;> omega

set_option maxRecDepth 100000 in
theorem open_block_u {r : Reach} {b0 : Nat} {v : Value} {d : DataW H} {p : List MemPlace} (hv : Value.okWide Tryz.prog W r b0 25 v) (h : DataW.Trod enc Tryz.prog W base (fun _ => true) held 25 v d p) :
    ∃ (ty by_ : List UInt8) (hv : Value) (q : Option Addr) (bc : Nat) (hs : Hdrs), v = .agg #[.string (bs ty), hv, .slice q by_.length bc] ∧ Hd W hv hs ∧ Sl W (.slice q by_.length bc) by_ ∧ bc ≤ 9223372036854775807 ∧
      ty.length ≤ Rows.uptoBulk d ∧ hs.length ≤ Rows.uptoBulk d ∧ by_.length ≤ Rows.uptoBulk d ∧ ∀ p ∈ hs, p.1.length ≤ Rows.uptoBulk d ∧ p.2.length ≤ Rows.uptoBulk d := by
  obtain ⟨v0, v1, v2, y0, y1, y2, n, rfl, hd, _, t0, t1, t2⟩ := open_agg3 Tryz.underlying25 (by kernel_rfl) (by kernel_rfl) hv h
  obtain ⟨s, e0, x0, l0⟩ := DataW.trod_string Tryz.underlying9 t0
  obtain ⟨hv, hs, e1, hH, hn, hx⟩ := open_hdrs_u t1
  obtain ⟨q, bc, by_, e2, hS, hbc, _, _, hdl⟩ := open_bytes_u t2
  simp at e0 e1 e2
  subst e0; subst e1; subst e2
  have hx0 : y0.1 = .lit (.string s.data.toList) := congrArg Prod.fst x0
  have hall : Rows.uptoBulk y0.1 + (Rows.uptoBulk y1.1 + (Rows.uptoBulk y2.1 + 0)) ≤ Rows.uptoBulk d := by
    have h3 := bulk_agg [y0.1, y1.1, y2.1]
    simp only [Rows.uptoBulkAll] at h3
    rw [hd]; exact h3
  have hs0 : s.data.toList.length ≤ Rows.uptoBulk y0.1 := by rw [hx0, bulk_str]; omega
  refine ⟨s.data.toList, by_, v1, q, bc, hs, by rw [bs_of], hH, hS, hbc, by omega, by omega, by omega, fun p hp => ?_⟩
  have := hx p hp
  omega
end
end Go.Proofs.YtpjehmblndjknaaGreatDoor

namespace Go.Proofs.YtpjehmblndjknaaGreatDoor
open Go.RowKit Go.Maps Go.ChangeShapes Go.WideShapes Go.ChangeAt Go.Joins
set_option linter.unusedSimpArgs false
set_option linter.unusedVariables false
section
variable {H : Type} {enc : TypeId × Value → H} {W : World} {base : Nat} {held : Bool}
set_option maxRecDepth 100000 in
theorem open_bytes_arg {r : Reach} {b0 : Nat} {v : Value} {d : DataW H} {p : List MemPlace} (hv : Value.okWide Tryz.prog W r b0 23 v) (h : DataW.Trod enc Tryz.prog W base (fun _ => true) held 23 v d p) :
    ∃ (q : Option Addr) (bc : Nat) (l : List UInt8), v = .slice q l.length bc ∧ Sl W (.slice q l.length bc) l ∧ l.length ≤ Rows.uptoBulk d ∧ bc ≤ 9223372036854775807 ∧ l.length ≤ bc := by
  obtain ⟨a, len, cap, rfl⟩ := okWide_slice Tryz.underlying23 hv
  obtain ⟨fuel, hf⟩ := h
  obtain ⟨q, bc, l, hcs, hS, h63, _, hl, hb⟩ := open_bytes_u hf
  simp [Value.cells] at hcs
  obtain ⟨rfl, rfl, rfl⟩ := hcs
  exact ⟨a, cap, l, rfl, hS, hb, h63, hl⟩
set_option maxRecDepth 100000 in
theorem open_str_arg {r : Reach} {b0 : Nat} {v : Value} {d : DataW H} {p : List MemPlace} (hv : Value.okWide Tryz.prog W r b0 9 v) (h : DataW.Trod enc Tryz.prog W base (fun _ => true) held 9 v d p) :
    ∃ l : List UInt8, v = .string (bs l) ∧ l.length ≤ Rows.uptoBulk d ∧ l.length ≤ 9223372036854775807 := by
  obtain ⟨s, rfl, e1, e2, w0⟩ := Go.ChangeMaps.open_string Tryz.underlying9 hv h
  refine ⟨s.data.toList, by rw [bs_of], ?_, ?_⟩
  · rw [e1, bulk_str]; omega
  · rw [len_of]; unfold maxLen at w0; omega
end
end Go.Proofs.YtpjehmblndjknaaGreatDoor

namespace Go.Proofs.YtpjehmblndjknaaGreatDoor
open Go.RowKit
set_option linter.unusedSimpArgs false
set_option linter.unusedVariables false

def u8ren : Go.Shelf.Ren := ⟨fun n => n, fun | 5 => 5 | 119 => 92 | 138 => 181 | 139 => 182 | n => n, fun | 3 => 3 | 4 => 4 | n => n⟩
theorem u8types : U8Types Tryz.prog u8ren := ⟨Tryz.underlying5, Tryz.underlying92, Tryz.underlying181, Tryz.underlying182⟩
theorem u8extra : U8Extra Tryz.prog u8ren := ⟨by kernel_rfl, by kernel_rfl, by kernel_rfl, by kernel_rfl, by kernel_rfl, by kernel_rfl, by kernel_rfl⟩
theorem whiteExtra : WhiteExtra Tryz.prog Tryz.lays199_ren := ⟨by kernel_rfl, by kernel_rfl, by kernel_rfl, by kernel_rfl, by kernel_rfl, by kernel_rfl, by kernel_rfl, by kernel_rfl⟩
theorem first_is : Rows.laid_unicode_utf8_first = Lib.firstData := by kernel_rfl
theorem accept_is : (Rows.laid_unicode_utf8_acceptRanges : DataW Unit) = Lib.acceptData := by kernel_rfl
theorem white_is : (Rows.laid_unicode_White_Space : DataW Unit) = Lib.whiteData := by kernel_rfl
def ascTab : List Int := (List.range 256).map fun c => if Lib.isSp (UInt8.ofNat c) then 1 else 0
theorem asc_is : (Rows.laid_bytes_asciiSpace : DataW Unit) = Lib.tabData .u8 ascTab := by kernel_rfl
theorem asc_name : Tryz.prog.globalNamed "bytes.asciiSpace" = some 0 := by kernel_rfl
theorem asc_type : (Tryz.prog.globals[0]?).map (·.type) = some 92 := by kernel_rfl
theorem asc_of {w : World} (h : Lib.VarReads Tryz.prog w "bytes.asciiSpace" (Lib.tabData .u8 ascTab)) : Asc w := by
  obtain ⟨g, t, cs, fuel, p, hg, hty, hvar, hd⟩ := h
  obtain rfl := Option.some.inj (asc_name.symm.trans hg)
  obtain rfl := Option.some.inj (asc_type.symm.trans hty)
  have hcs := Lib.cells_of_tab Tryz.underlying92 Tryz.underlying5 (by kernel_rfl) (by kernel_rfl) hd
  intro c
  rw [World.var?_cell hg hvar c.toNat, ← Array.getElem?_toList, hcs]
  have hc := c.toNat_lt
  have hc2 : c.toNat < 256 := hc
  unfold ascTab
  rw [List.getElem?_map, List.getElem?_map, List.getElem?_range hc2]
  simp
/-- What the rows list. -/
def laidL : List (String × DataW Unit) := [("unicode/utf8.acceptRanges", Rows.laid_unicode_utf8_acceptRanges), ("unicode.White_Space", Rows.laid_unicode_White_Space), ("bytes.asciiSpace", Rows.laid_bytes_asciiSpace), ("unicode/utf8.first", Rows.laid_unicode_utf8_first)]
theorem laidL_plain : (laidL.filter fun x => x.2.handleName?.isSome).isEmpty = true := by kernel_rfl
theorem tabs_of {w : World} (h : laidMetH Tryz.prog laidL w) : Tabs w := by
  have h2 : laidMet Tryz.prog laidL w := by
    unfold laidMetH at h
    have e : (laidL.filter fun x => x.2.handleName?.isSome) = [] := List.isEmpty_iff.1 laidL_plain
    rw [e] at h
    exact h
  have m1 := Lib.laidMet.reads h2 (n := "unicode/utf8.acceptRanges") (d := Rows.laid_unicode_utf8_acceptRanges) (by unfold laidL; simp)
  have m2 := Lib.laidMet.reads h2 (n := "unicode.White_Space") (d := Rows.laid_unicode_White_Space) (by unfold laidL; simp)
  have m3 := Lib.laidMet.reads h2 (n := "bytes.asciiSpace") (d := Rows.laid_bytes_asciiSpace) (by unfold laidL; simp)
  have m4 := Lib.laidMet.reads h2 (n := "unicode/utf8.first") (d := Rows.laid_unicode_utf8_first) (by unfold laidL; simp)
  rw [accept_is] at m1
  rw [white_is] at m2
  rw [asc_is] at m3
  rw [first_is] at m4
  exact ⟨asc_of m3, whiteTab_of_reads Tryz.lays199 whiteExtra m2, utf8Tabs_of_readsT u8types u8extra m4 m1⟩
end Go.Proofs.YtpjehmblndjknaaGreatDoor

namespace Go.Proofs.YtpjehmblndjknaaGreatDoor
open Go.RowKit
set_option linter.unusedSimpArgs false
set_option linter.unusedVariables false

/-- Where the two blocks behind the table of blanks lie. -/
def wsBlock : Nat := 12
def wsCells : List Value := (List.range 7).flatMap fun i => [.int .u16 (Lib.whiteT.getD (3 * i) 0 : Nat), .int .u16 (Lib.whiteT.getD (3 * i + 1) 0 : Nat), .int .u16 (Lib.whiteT.getD (3 * i + 2) 0 : Nat)]
noncomputable def laidWorld (os : Os) : World :=
  let w0 := World.holding Tryz.prog os ⟨#[], #[], []⟩
  let put (h : Array Obj) (g : Nat) (cs : Array Value) : Array Obj := h.modify g fun
    | .cells _ t frozen => .cells cs t frozen
    | o => o
  let h1 := put w0.heap 3 (Lib.firstTab.map fun z => Value.int .u8 z).toArray
  let h2 := put h1 4 ((List.range 16).flatMap fun i => [Value.int .u8 (Lib.accLo i), Value.int .u8 (Lib.accHi i)]).toArray
  let h3 := put h2 0 (ascTab.map fun z => Value.int .u8 z).toArray
  let h4 := put h3 2 #[.pointer (some ⟨wsBlock + 1, 0, none⟩)]
  { w0 with heap := (h4.push (.cells wsCells.toArray 157)).push (.cells #[.slice (some ⟨wsBlock, 0, none⟩) 7 7, .slice none 0 0, .int .i64 2] 154) }
theorem laid_met (os : Os) (args : Array Value) : laidMet Tryz.prog laidL ((laidWorld os).forCall (fun _ _ => 0) ⟨#[], args, []⟩).memory :=
  (LaidIn.of_run (l := laidL) [3, 4, 0, 2, wsBlock, wsBlock + 1] 8 (by kernel_rfl) (by kernel_rfl) (by kernel_rfl) (by kernel_rfl)).met
theorem laid_vars (os : Os) : ((laidWorld os).forCall (fun _ _ => 0) ⟨#[], #[], []⟩).variablesRefB Tryz.prog = true := by kernel_rfl
end Go.Proofs.YtpjehmblndjknaaGreatDoor
