/-
  Walks: impl.of, pem.EncodeToMemory, impl.EncodeToMemory.
-/
import Derived.Test.YtpjehmblndjknaaEncode
import Derived.Test.YtpjehmblndjknaaBuf
namespace Go.Proofs.Ytpjehmblndjknaa
open Go.RowKit Go.Maps
set_option linter.unusedSimpArgs false
set_option linter.unusedVariables false

theorem sortOK : SortOK := Try.slices_Sort_string

/-- A slice of headers (of the thin package, or of the reference): two cells each. -/
def Hd (w : World) (v : Value) (hs : Hdrs) : Prop :=
  ∃ (p : Option Addr) (cap : Nat), v = .slice p hs.length cap ∧ (hs.length ≤ cap ∧ (p = none → cap = 0)) ∧ (hs ≠ [] → ∃ b o, p = some ⟨b, o, none⟩ ∧
    ∀ (i : Nat) (x : List UInt8 × List UInt8), hs[i]? = some x → w.cell? ⟨b, o + i * 2, none⟩ = some (.string (bs x.1)) ∧ w.cell? ⟨b, o + i * 2 + 1, none⟩ = some (.string (bs x.2)))
theorem Hd.keep {w w' : World} {v : Value} {hs : Hdrs} (h : Hd w v hs) (hk : ∀ b o, (∃ x, w.cell? ⟨b, o, none⟩ = some x) → w'.cell? ⟨b, o, none⟩ = w.cell? ⟨b, o, none⟩) : Hd w' v hs := by
  obtain ⟨p, cap, hv, hl, hc⟩ := h
  refine ⟨p, cap, hv, hl, fun hne => ?_⟩
  obtain ⟨b, o, hp, hc⟩ := hc hne
  refine ⟨b, o, hp, fun i x hx => ?_⟩
  obtain ⟨h1, h2⟩ := hc i x hx
  exact ⟨by rw [hk b _ ⟨_, h1⟩]; exact h1, by rw [hk b _ ⟨_, h2⟩]; exact h2⟩
theorem Hd.below {w w' : World} {v : Value} {hs : Hdrs} (h : Hd w v hs) (hb : Below w.heap.size w w') : Hd w' v hs :=
  h.keep fun b o ⟨_, hx⟩ => hb.cell (p := ⟨b, o, none⟩) (World.block_lt_of_cell? w _ hx)
theorem Hd.nil (w : World) : Hd w (.slice none 0 0) [] := ⟨none, 0, rfl, ⟨Nat.le_refl _, fun _ => rfl⟩, fun h => absurd rfl h⟩

theorem PB.setMap {w w' : World} {pb mb : Nat} {ty : List UInt8} {v : Value} (h : PB w pb ty mb v) (hg : w.grownBy w' (some mb)) (hne : pb ≠ mb) : PB w' pb ty mb v :=
  (hg.block pb (lt_of_heap h) (by simpa using hne)).trans h

set_option maxRecDepth 100000 in
set_option maxHeartbeats 1600000 in
theorem of_any (ty : List UInt8) (hv : Value) (hs : Hdrs) (q : Option Addr) (bl bc : Nat) (w : World) (hH : Hd w hv hs) (hnl : hs.length ≤ 4294967296) (hkl : ∀ p ∈ hs, p.1.length ≤ 140737488355328 ∧ p.2.length ≤ 140737488355328) :
    Calls Try.prog 32 #[.agg #[.string (bs ty), hv, .slice q bl bc]] w fun e w' => e = .returned (.pointer (some ⟨w.heap.size + 2, 0, none⟩)) ∧ PB w' (w.heap.size + 2) ty (w.heap.size + 1) (.slice q bl bc) ∧ HM w' (w.heap.size + 1) hs ∧ Below w.heap.size w w' := by
  have hmm := @run_makeMap Try.prog
  obtain ⟨p, cap, rfl, hlc, hc⟩ := hH
  have HC := hide hc
  have HK := hide hkl
  have hn63 : hs.length ≤ 9223372036854775807 := by omega
  have HNL := hide hnl
  clear hc hkl hlc hnl
  have H0 : Hid ((((w.alloc (.cells #[.string (bs ty), .slice p hs.length cap, .slice q bl bc] 31)).alloc (.map #[] 0)).alloc (.cells #[.string (bs ty), .map (some (w.heap.size + 1)), .slice q bl bc] 89)).ownsMap Try.prog 9 (plainElem (H := Unit) Try.prog 9) (w.heap.size + 1) 0 (.map []) ∧
      PB (((w.alloc (.cells #[.string (bs ty), .slice p hs.length cap, .slice q bl bc] 31)).alloc (.map #[] 0)).alloc (.cells #[.string (bs ty), .map (some (w.heap.size + 1)), .slice q bl bc] 89)) (w.heap.size + 2) ty (w.heap.size + 1) (.slice q bl bc) ∧
      Below w.heap.size w (((w.alloc (.cells #[.string (bs ty), .slice p hs.length cap, .slice q bl bc] 31)).alloc (.map #[] 0)).alloc (.cells #[.string (bs ty), .map (some (w.heap.size + 1)), .slice q bl bc] 89))) := by
    refine ⟨?_, ?_, balloc (balloc (balloc (Below.refl _ _) _) _) _⟩
    · have h := World.ownsMap_made (w.alloc (.cells #[.string (bs ty), .slice p hs.length cap, .slice q bl bc] 31)) Try.prog 9 (plainElem (H := Unit) Try.prog 9)
      rw [World.size_alloc] at h
      exact h.alloc _
    · have h := heap_new ((w.alloc (.cells #[.string (bs ty), .slice p hs.length cap, .slice q bl bc] 31)).alloc (.map #[] 0)) (.cells #[.string (bs ty), .map (some (w.heap.size + 1)), .slice q bl bc] 89)
      rw [World.size_alloc, World.size_alloc] at h
      exact h
  go_enter Try.func32, Try.ntmps32
  go_wp2_with fail
  go_loopw [16] (fun vi wr => ∃ (k : Nat) (D : DataW Unit), k ≤ hs.length ∧ vi = .int .i64 (k : Int) ∧ wr.ownsMap Try.prog 9 (plainElem Try.prog 9) (w.heap.size + 1) k D ∧ Hid (MapIs D (hs.take k)) ∧ PB wr (w.heap.size + 2) ty (w.heap.size + 1) (.slice q bl bc) ∧ Below w.heap.size w wr) (fun vi _ => hs.length - (intOf vi).toNat)
  case atStart => exact ⟨0, _, Nat.zero_le _, rfl, (unhide H0).1, mapIs_empty, (unhide H0).2.1, (unhide H0).2.2⟩
  case round =>
    clear H0
    obtain ⟨k, D, hk, rfl, hown, HD, hP, hb⟩ := hrel
    have c1 : wr.cell? ⟨w.heap.size + 1 + 1, 1, none⟩ = some (.map (some (w.heap.size + 1))) := hP.c1
    by_cases hlt : k < hs.length
    · obtain ⟨x, hx⟩ : ∃ x, hs[k]? = some x := ⟨_, List.getElem?_eq_getElem hlt⟩
      obtain ⟨b, o, rfl, hcell⟩ := unhide HC (by rintro rfl; simp at hlt)
      obtain ⟨h1, h2⟩ := hcell k x hx
      have hk1 : wr.cell? ⟨b, o + k * 2, none⟩ = some (.string (bs x.1)) := by rw [hb.cell (p := ⟨b, _, none⟩) (World.block_lt_of_cell? w _ h1)]; exact h1
      have hk2 : wr.cell? ⟨b, o + k * 2 + 1, none⟩ = some (.string (bs x.2)) := by rw [hb.cell (p := ⟨b, _, none⟩) (World.block_lt_of_cell? w _ h2)]; exact h2
      obtain ⟨xl1, xl2⟩ := unhide HK x (List.mem_of_getElem? hx)
      have hkey := key_bs (l := x.1) (by unfold maxLen; omega)
      have HX := hide hx
      clear h1 h2 hcell hx
      have hkm : k < maxLen := by unfold maxLen; omega
      have hval := plainElem_string (H := Unit) Try.underlying9 (s := bs x.2) (by rw [bs_size]; unfold maxLen; omega)
      have HB := hide (And.intro hP hb)
      have hA1 : (wr.alloc (.cells #[.string (bs x.1), .string (bs x.2)] 46)).cell? ⟨w.heap.size + 1 + 1, 1, none⟩ = some (.map (some (w.heap.size + 1))) := by
        rw [World.cell?_of_block (w := wr) (Below.heap_alloc _ _ _ (World.block_lt_of_cell? _ _ c1))]; exact c1
      have hA2 : (wr.alloc (.cells #[.string (bs x.1), .string (bs x.2)] 46)).cell? ⟨wr.heap.size, 0, none⟩ = some (.string (bs x.1)) := by rw [cell_of_heap (heap_new wr _)]; rfl
      have hA3 : (wr.alloc (.cells #[.string (bs x.1), .string (bs x.2)] 46)).cell? ⟨wr.heap.size, 1, none⟩ = some (.string (bs x.2)) := by rw [cell_of_heap (heap_new wr _)]; rfl
      have hownA : (wr.alloc (.cells #[.string (bs x.1), .string (bs x.2)] 46)).ownsMap Try.prog 9 (plainElem Try.prog 9) (w.heap.size + 1) k D := hown.alloc _
      have hPA : PB (wr.alloc (.cells #[.string (bs x.1), .string (bs x.2)] 46)) (w.heap.size + 2) ty (w.heap.size + 1) (.slice q bl bc) := hP.below (balloc (Below.refl _ _) _)
      have hbA : Below w.heap.size w (wr.alloc (.cells #[.string (bs x.1), .string (bs x.2)] 46)) := balloc hb _
      clear hP hb xl1 xl2 c1 hown
      go_wp2_with fail
      generalize hWA : wr.alloc (.cells #[.string (bs x.1), .string (bs x.2)] 46) = wA at hA1 hA2 hA3 hownA hPA hbA ⊢
      clear hWA
      have HB := hide (And.intro hPA hbA)
      clear hPA hbA
      go_still_tail 8, (by kernel_rfl)
      change wpList _ _ _ _ _ wA.drew
      go_wp2_with (first
        | (at_mapUpdate; refine wpList_mapUpdate_own _ rfl _ _ _ 87 rfl 9 9 lawS Try.underlying87 _ (w.heap.size + 1) k D rfl hownA.drew hkm _ _ (.string x.1) rfl rfl hkey _ [] hval ?_; intro w1 hown1 hgrow1)
        | fail)
      have hD2 : MapIs (D.put (.string x.1) (.lit (.string x.2))) (hs.take (k + 1)) := by
        rw [List.take_add_one, unhide HX]
        exact (unhide HD).put x.1 x.2
      have hown2 : w1.ownsMap Try.prog 9 (plainElem Try.prog 9) (w.heap.size + 1) (k + 1) (D.put (.string x.1) (.lit (.string x.2))) := hown1
      have hP2 : PB w1 (w.heap.size + 2) ty (w.heap.size + 1) (.slice q bl bc) := PB.setMap (w := wA.drew) (unhide HB).1 hgrow1 (by omega)
      have hb2 : Below w.heap.size w w1 := (below_drewN (unhide HB).2 1).grown hgrow1 (unhide HB).2.size (fun j hj => by cases hj; omega)
      refine ⟨⟨k + 1, _, by omega, by go_num, hown2, hD2, hP2, hb2⟩, ?_⟩
      simp [intOf]; omega
    · have hke : k = hs.length := by omega
      subst hke
      have HR : Hid (PB wr (w.heap.size + 2) ty (w.heap.size + 1) (.slice q bl bc) ∧ HM wr (w.heap.size + 1) hs ∧ Below w.heap.size w wr) := by
        have hD := unhide HD
        rw [List.take_length] at hD
        exact ⟨hP, ⟨_, D, Nat.le_refl _, hown, hD⟩, hb⟩
      clear hown HD hP hb hlt
      go_wp2
      go_ret
      exact ⟨rfl, unhide HR⟩

theorem noColon_iff (hs : Hdrs) : anyColon hs = false ↔ ∀ k ∈ hkeys hs, hasColon k = false := by
  unfold anyColon
  rw [List.any_eq_false]
  constructor
  · intro h k hk
    obtain ⟨p, hp, e⟩ := List.mem_map.1 (hkeys_mem.1 hk)
    have := h p hp
    unfold hasColon
    rw [← e]
    simpa using this
  · intro h p hp
    have := h p.1 (hkeys_mem.2 (List.mem_map.2 ⟨p, hp, rfl⟩))
    unfold hasColon at this
    simpa using this

theorem buf_ahead (b : Nat) (w : World) : (nilAhead methFuel 75 (.pointer (some ⟨b, 0, none⟩)) "Write").run Try.prog w = .ok (some false) w := by kernel_rfl

/-- What EncodeToMemory gives. -/
def MemPost (ty : List UInt8) (hs : Hdrs) (d : List UInt8) (w : World) (e : Ending) (w' : World) : Prop :=
  Below w.heap.size w w' ∧ ((anyColon hs = true ∧ e = .returned (.slice none 0 0)) ∨ (anyColon hs = false ∧ ∃ g cap : Nat, e = .returned (.slice (some ⟨g, 0, none⟩) (pemOut ty hs d).length cap) ∧ Sl w' (.slice (some ⟨g, 0, none⟩) (pemOut ty hs d).length cap) (pemOut ty hs d)))

theorem pemOut_ne (ty : List UInt8) (hs : Hdrs) (d : List UInt8) : 0 < (pemOut ty hs d).length := by
  have := part_lens ty hs d; omega

set_option maxRecDepth 100000 in
set_option maxHeartbeats 1600000 in
theorem pemMem_any (pb mb bc : Nat) (p : Option Addr) (ty d : List UInt8) (hs : Hdrs) (w : World) (hP : PB w pb ty mb (.slice p d.length bc)) (hM : HM w mb hs) (hS : Sl w (.slice p d.length bc) d)
   (hbc : bc ≤ 9223372036854775807) (hkl : ∀ p ∈ hs, p.1.length ≤ 140737488355328) (hnl : hs.length ≤ 4294967296) (hsz : anyColon hs = false → (pemOut ty hs d).length + 8 * d.length ≤ 17592186044416) :
    Calls Try.prog 31 #[.pointer (some ⟨pb, 0, none⟩)] w (MemPost ty hs d w) := by
  have hlp : pb < w.heap.size := lt_of_heap hP
  have hlm := hM.lt
  have hb1 : Below w.heap.size w (w.alloc (.cells #[.slice none 0 0, .int .i64 0, .int .i8 0] 74)) := balloc (Below.refl _ _) _
  have hP1 := hP.below hb1
  have hM1 := hM.below hb1
  have hS1 := hS.below hb1
  have HB1 := hide hb1
  cases hc : anyColon hs with
  | true =>
    have hcol : ∃ k ∈ hkeys hs, hasColon k = true := by
      rcases Classical.em (∃ k ∈ hkeys hs, hasColon k = true) with h | h
      · exact h
      · have : anyColon hs = false := (noColon_iff hs).2 (fun k hk => by
          cases hq : hasColon k with
          | false => rfl
          | true => exact absurd ⟨k, hk, hq⟩ h)
        rw [this] at hc; cases hc
    have hcall := hide (encode_colon 75 (.pointer (some ⟨w.heap.size, 0, none⟩)) pb mb ty _ hs _ hP1 hM1 hkl hcol)
    have HC := hide hc
    clear hP1 hM1 hS1 hcol hc hsz hkl hS hP hM hb1
    go_enter Try.func31, Try.ntmps31
    go_wp2_with fail
    refine (unhide hcall).mono ?_
    rintro e w2 ⟨b, rfl, hb2⟩
    have HB2 : Hid (Below w.heap.size w w2) := bstep (unhide HB1) hb2
    clear hb2 hcall HB1
    go_wp2_with fail
    go_ret
    exact ⟨unhide HB2, .inl ⟨unhide HC, rfl⟩⟩
  | false =>
    have hx : ∃ sb so, (d ≠ [] → p = some ⟨sb, so, none⟩) ∧ Src w sb so d ∧ sb < w.heap.size ∧ d.length ≤ bc := by
      obtain ⟨q, cap, e1, e2, e3⟩ := hS
      injection e1 with e4 e5 e6
      subst e4; subst e6
      by_cases h0 : d = []
      · exact ⟨pb, 0, fun h => absurd h0 h, by rw [h0]; exact Src.nil _ _ _, hlp, e2⟩
      · obtain ⟨sb, so, rfl, hcell⟩ := e3 h0
        obtain ⟨x, hx0⟩ : ∃ x, d[0]? = some x := ⟨_, List.getElem?_eq_getElem (List.length_pos_iff.2 h0)⟩
        exact ⟨sb, so, fun _ => rfl, hcell, World.block_lt_of_cell? w _ (hcell 0 x hx0), e2⟩
    obtain ⟨sb, so, x1, x2, x3, x4⟩ := hx
    have hW := bufOK w.heap.size w.heap.size (Nat.le_refl _)
    have hI : (bufWr w.heap.size w.heap.size).Inv [] (w.alloc (.cells #[.slice none 0 0, .int .i64 0, .int .i8 0] 74)) := Lib.fresh_isBuffer 74 5 w
    have hcall := hide (encode_main sortOK (bufWr w.heap.size w.heap.size) hW (buf_ahead _) pb mb sb so bc p ty [] d hs _ hI hP1 hM1 (by show pb ≠ w.heap.size; omega) (by show mb ≠ w.heap.size; omega) x1 (x2.below hb1 x3) x3 x4 hbc hkl hnl ((noColon_iff hs).1 hc) (by have := hsz hc; simp; omega))
    have HC := hide hc
    have hpos := hide (pemOut_ne ty hs d)
    have HSZ := hide (hsz hc)
    clear hP1 hM1 hS1 hc hsz hkl hS hP hM hb1 x1 x2 x3 x4 hI hW
    go_enter Try.func31, Try.ntmps31
    go_wp2_with fail
    refine (unhide hcall).mono ?_
    rintro e w2 ⟨ev, rfl, hF2, hR2⟩
    rcases hR2 with ⟨-, rfl, hI2⟩ | ⟨hno, -⟩
    · have HB2 : Hid (Below w.heap.size w w2) := (unhide HB1).trans hF2.1
      rw [List.nil_append] at hI2
      have hI3 : Lib.IsBuffer 74 5 w.heap.size w.heap.size ((pemOut ty hs d).map bv) w2 := hI2
      have hby := hide (Try.Buffer_Bytes w.heap.size w.heap.size ((pemOut ty hs d).map bv) w2 hI3)
      clear hI3 hI2 hF2 hcall HB1
      go_wp2_with fail
      refine (unhide hby).mono ?_
      rintro e w3 ⟨v3, rfl, hown, n3, rfl⟩
      have hfin : Hid (∃ g cap : Nat, v3 = .slice (some ⟨g, 0, none⟩) (pemOut ty hs d).length cap ∧ Sl (w2.drewN n3) v3 (pemOut ty hs d)) := by
        have hsl := Sl.of_owns hown
        rcases hown.2 with ⟨rfl, h0⟩ | ⟨g, cap, cur, rfl, _, hg, hc, _, _, ht⟩
        · have := unhide hpos
          rw [List.length_map] at h0; omega
        · refine ⟨g, cap, ?_, hsl⟩
          rw [List.length_map]
      have HB3 := hide (below_drewN (unhide HB2) n3)
      clear hown HB2 hby
      obtain ⟨g, cap, rfl, e2⟩ := unhide hfin
      have HE2 := hide e2
      clear e2 hfin
      go_wp2
      go_ret
      exact ⟨unhide HB3, .inr ⟨unhide HC, g, cap, rfl, unhide HE2⟩⟩
    · exact absurd (fun m hm => by cases hm) hno

set_option maxRecDepth 100000 in
set_option maxHeartbeats 1600000 in
theorem mem_any (ty d : List UInt8) (hv bv : Value) (hs : Hdrs) (w : World) (hH : Hd w hv hs) (hS : Sl w bv d) (hbc : ∀ p n c, bv = .slice p n c → c ≤ 9223372036854775807)
   (hkl : ∀ p ∈ hs, p.1.length ≤ 140737488355328 ∧ p.2.length ≤ 140737488355328) (hnl : hs.length ≤ 4294967296) (hsz : anyColon hs = false → (pemOut ty hs d).length + 8 * d.length ≤ 17592186044416) :
    Calls Try.prog 23 #[.agg #[.string (bs ty), hv, bv]] w fun e w' => Below w.heap.size w w' ∧ ((anyColon hs = true ∧ e = .returned (.tuple #[.slice none 0 0, .bool true])) ∨ (anyColon hs = false ∧ ∃ v', e = .returned (.tuple #[v', .bool false]) ∧ Sl w' v' (pemOut ty hs d))) := by
  obtain ⟨q, bc, rfl, hlc, hcell⟩ := hS
  have hS : Sl w (.slice q d.length bc) d := ⟨q, bc, rfl, hlc, hcell⟩
  have hbc := hbc _ _ _ rfl
  have hb0 : Below w.heap.size w (w.alloc (.cells #[.string (bs ty), hv, .slice q d.length bc] 31)) := balloc (Below.refl _ _) _
  have hof := hide (of_any ty hv hs q d.length bc _ (hH.below hb0) hnl hkl)
  obtain ⟨p0, cap0, rfl, _⟩ := hH
  have HS := hide hS
  have HB0 := hide hb0
  have HK := hide hkl
  have HSZ := hide hsz
  have HNL := hide hnl
  have q22 : ∀ (w : World) (a : Option Addr) (n c n' c' : Nat), (binOp .eql 22 (.slice a n c) (.slice none n' c')).run Try.prog w = .ok (.bool a.isNone) w := fun w a n c n' c' => Lib.run_eql_slice_nil w _ _ a n c n' c' Try.underlying22
  clear hS hb0 hkl hsz hcell hlc hnl
  go_enter Try.func23, Try.ntmps23
  go_wp2_with fail
  rw [World.size_alloc] at hof
  refine (unhide hof).mono ?_
  rintro e w1 ⟨rfl, hP, hM, hb1⟩
  have hS1 := ((unhide HS).below (unhide HB0)).below (w' := w1) (by rw [World.size_alloc]; exact hb1)
  have HB1 : Hid (Below w.heap.size w w1) := (unhide HB0).trans (hb1.mono (by omega))
  have hmem := hide (pemMem_any _ _ bc q ty d hs w1 hP hM hS1 hbc (fun p hp => (unhide HK p hp).1) (unhide HNL) (unhide HSZ))
  clear hP hM hb1 hS1 hof HB0 HS HK HSZ HNL
  go_wp2_with fail
  refine (unhide hmem).mono ?_
  rintro e w2 ⟨hb2, hcase⟩
  have HB2 : Hid (Below w.heap.size w w2) := bstep (unhide HB1) hb2
  rcases hcase with ⟨hc, rfl⟩ | ⟨hc, g, cap, rfl, hsl⟩
  · have HC := hide hc
    clear hc hb2 hmem HB1
    go_wp2_with fail
    go_ret2
    exact ⟨unhide HB2, .inl ⟨unhide HC, rfl⟩⟩
  · have HC := hide hc
    have HSL := hide hsl
    clear hc hb2 hmem HB1 hsl
    go_wp2_with fail
    go_ret2
    exact ⟨unhide HB2, .inr ⟨unhide HC, _, rfl, unhide HSL⟩⟩
end Go.Proofs.Ytpjehmblndjknaa
