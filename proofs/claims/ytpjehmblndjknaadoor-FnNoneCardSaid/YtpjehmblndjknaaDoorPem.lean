/-
  Walk: pem.Decode.
-/
import Derived.Test.YtpjehmblndjknaaDoorPemA
import Derived.Deep.DeepCutAuto
import Derived.Deep.RegionWith
import Derived.StillTailTactics
import Derived.Deep.Light
import Derived.Lib.SlBytesConst
namespace Go.Proofs.YtpjehmblndjknaaDoor
open Go.RowKit Go.Maps
set_option linter.unusedSimpArgs false
set_option linter.unusedVariables false

theorem endN_cells : (#[.int .u8 10, .int .u8 45, .int .u8 45, .int .u8 45, .int .u8 45, .int .u8 45, .int .u8 69, .int .u8 78, .int .u8 68, .int .u8 32] : Array Value).toList = endN.map bv := by kernel_rfl
theorem dash_cells : (#[.int .u8 45, .int .u8 45, .int .u8 45, .int .u8 45, .int .u8 45] : Array Value).toList = dashP.map bv := by kernel_rfl

theorem Sl.low {w : World} {v : Value} {l : List UInt8} (h : Sl w v l) : l ≠ [] → ∀ b o n c, v = .slice (some ⟨b, o, none⟩) n c → b ≠ w.heap.size := by
  intro hne b o n c hv
  obtain ⟨p, cap, e1, _, hc⟩ := h
  obtain ⟨b', o', rfl, hcell⟩ := hc hne
  rw [e1] at hv
  injection hv with e2 _ _
  injection e2 with e3
  injection e3 with e4 _ _
  subst e4
  obtain ⟨x, hx⟩ : ∃ x, l[0]? = some x := ⟨_, List.getElem?_eq_getElem (List.length_pos_iff.2 hne)⟩
  have := World.block_lt_of_cell? w _ (hcell 0 x hx)
  have h2 : b' < w.heap.size := this
  omega
theorem made_size (n : Nat) : (madeCells #[Value.int .u8 0] n).size = n := by simp [madeCells]
theorem set_size (w : World) (a : Addr) (v : Value) : (w.setCell a v).heap.size = w.heap.size := by simp [World.setCell]
set_option maxRecDepth 100000 in
set_option maxHeartbeats 20000000 in
theorem pemDecode_any (v : Value) (data : List UInt8) (w : World) (hs : Sl w v data) (hl : data.length ≤ 140737488351232) (hT : Tabs w) :
    Calls Tryd.prog 13 #[v] w (DecPost data v w) := by
  have HS := hide hs
  have HT := hide hT
  have H0 := hide (And.intro hs (HInv.start data))
  have hmm := @run_makeMap Tryd.prog
  have kc := fun (w : World) (C : Array Value) (n c : Nat) => Lib.run_convert_bytes_const (P := Tryd.prog) w 22 5 C n c Tryd.underlying22 Tryd.underlying5
  clear hs hT
  go_enter Tryd.func13, Tryd.ntmps13
  go_wp2_with fail
  go_loopw [3, 4] (fun v3 v4 wr => ∃ (r : List UInt8) (t : Int), Sl wr v3 r ∧ v4 = .int .i64 t ∧ r.length ≤ data.length ∧ -9223372036854775808 ≤ t ∧ Hid (HInv data r t) ∧ Hid (Below w.heap.size w wr)) (fun v3 v4 _ => ((slen v3 : Int) - intOf v4).toNat)
  case atStart => exact ⟨data, 0, (unhide H0).1, rfl, Nat.le_refl _, by omega, (unhide H0).2, Below.refl _ _⟩
  case round =>
    clear H0
    obtain ⟨r, t, hr, rfl, hrl, htl, HI, HB⟩ := hrel
    have HSR := hide hr
    obtain ⟨p3, c3, rfl, hlc3, hc3⟩ := hr
    clear hc3
    by_cases ht0 : t < 0
    · have HR : Hid (DecPost data v w (.returned (.tuple #[.pointer none, v])) wr) := ⟨unhide HB, .inl ⟨(unhide HI).2.1 ht0, rfl⟩⟩
      go_wp2_with fail
      go_ret2
      exact unhide HR
    · have htr := (unhide HI).1
      obtain ⟨m, rfl⟩ : ∃ m : Nat, t = (m : Int) := ⟨t.toNat, by omega⟩
      have hmr : m ≤ r.length := by omega
      have hgt : ¬ (r.length : Int) < (m : Int) := by omega
      obtain ⟨v3', hv3', hs3'⟩ := (unhide HSR).cutLo m hmr
      obtain ⟨s, hsd⟩ : ∃ s, s = r.drop m := ⟨_, rfl⟩
      rw [← hsd] at hs3'
      have hsl : s.length = r.length - m := by rw [hsd, List.length_drop]
      have HSD : Hid (∀ o, Dec s o → Dec data o) := by
        intro o ho
        rw [hsd] at ho
        exact (unhide HI).2.2 m rfl o ho
      have HSL := hide hsl
      have hsb : s.length ≤ 140737488351232 := by omega
      have HS3 := hide hs3'
      have hlit := lit_cells (w := wr) (fr := (10, 11)) endN_cells
      have hbi := bytesIndex_any v3' s endN wr.heap.size 0 10 (wr.alloc (.cells #[.int .u8 10, .int .u8 45, .int .u8 45, .int .u8 45, .int .u8 45, .int .u8 45, .int .u8 69, .int .u8 78, .int .u8 68, .int .u8 32] 5 (10, 11))) (hs3'.below (balloc (Below.refl _ _) _)) (by decide) hlit (by omega) (by decide)
      obtain ⟨ei, hei⟩ : ∃ ei, ei = Lib.index s endN := ⟨_, rfl⟩
      rw [← hei] at hbi
      have HEI := hide hei
      have HBI := hide hbi
      have hge := Lib.index_ge s endN
      rw [← hei] at hge
      clear hlit hbi hei hs3' hsd hsl
      go_wp2_with fail
      refine (unhide HBI).mono ?_
      rintro e w1 ⟨rfl, q1, rfl⟩
      clear HBI
      have hW1 : Below wr.heap.size wr ((wr.alloc (.cells #[.int .u8 10, .int .u8 45, .int .u8 45, .int .u8 45, .int .u8 45, .int .u8 45, .int .u8 69, .int .u8 78, .int .u8 68, .int .u8 32] 5 (10, 11))).drewN q1) := below_drewN (balloc (Below.refl _ _) _) q1
      generalize hwA : (wr.alloc (.cells #[.int .u8 10, .int .u8 45, .int .u8 45, .int .u8 45, .int .u8 45, .int .u8 45, .int .u8 69, .int .u8 78, .int .u8 68, .int .u8 32] 5 (10, 11))).drewN q1 = wA at hW1 ⊢
      clear hwA
      have HWA : Hid (Below w.heap.size w wA ∧ Sl wA v3' s) := ⟨bstep (unhide HB) hW1, (unhide HS3).below hW1⟩
      clear hW1
      by_cases hneg : ei < 0
      · have HR : Hid (DecPost data v w (.returned (.tuple #[.pointer none, v])) wA) := ⟨(unhide HWA).1, .inl ⟨unhide HSD none (.nope (by rw [← unhide HEI]; omega)), rfl⟩⟩
        go_wp2_with fail
        go_ret2
        exact unhide HR
      · obtain ⟨e, rfl⟩ : ∃ e : Nat, ei = (e : Int) := ⟨ei.toNat, by omega⟩
        have hel := index_lt (unhide HEI).symm
        obtain ⟨v4', hv4', hs4'⟩ := (unhide HWA).2.cutTo e (by omega)
        obtain ⟨cap5, wb5, hcv5, hb5, hc5⟩ := beg_conv wA.drew wA.heap.size rfl
        have hlast := lastIndex_any v4' (s.take e) begP wA.heap.size 0 cap5 wb5 ((hs4'.drewN 1).below hb5) (by decide) hc5 (by rw [List.length_take]; omega) (by decide)
        obtain ⟨bi, hbi⟩ : ∃ bi, bi = Lib.lastIndex (s.take e) begP := ⟨_, rfl⟩
        rw [← hbi] at hlast
        have HBI := hide hbi
        have HLAST := hide hlast
        have HW5 : Hid (Below w.heap.size w wb5 ∧ Sl wb5 v3' s) := ⟨bstep (below_drewN (unhide HWA).1 1) hb5, ((unhide HWA).2.drewN 1).below hb5⟩
        clear hlast hbi hb5 hc5 hs4'
        go_wp2_with fail
        go_cut [6] (fun v w' => v = .int .i64 bi ∧ Hid (Below w.heap.size w w' ∧ Sl w' v3' s))
        case first =>
          -- @last
          as_aux_lemma =>
          go_region_with (first
            | (refine (unhide HLAST).mono ?_; rintro e1 w1 ⟨rfl, q2, rfl⟩))
          all_goals (go_wp2_with fail; go_meet; exact ⟨rfl, below_drewN (unhide HW5).1 _, (unhide HW5).2.drewN _⟩)
        case rest =>
          -- @rest1
          as_aux_lemma =>
          obtain ⟨rfl, HW6⟩ := hcut
          clear hcv5 HLAST HW5 hv4'
          have hgb := last_ge (s.take e)
          rw [← unhide HBI] at hgb
          have hv3l := (unhide HS3).len
          have HEL := hide hel
          by_cases hbneg : bi < 0
          · have hst : StepR s e .next := .inl ⟨by rw [← unhide HBI]; omega, rfl⟩
            have HN : Hid (HInv data (s.drop 0) ((e : Int) + 10 - ((0 : Nat) : Int))) := HInv.next (unhide HSD) (unhide HEI).symm hst (by omega) (by omega)
            clear hst hv3l
            go_wp2_with fail
            exact pem_cont (e := e) (i := 0) (unhide HSL) hmr hrl (unhide HW6).2 (Nat.zero_le _) (by omega) (unhide HEL) hsb (unhide HN) (unhide HW6).1
          · obtain ⟨b, rfl⟩ : ∃ b : Nat, bi = (b : Int) := ⟨bi.toNat, by omega⟩
            have hbe := last_room (unhide HBI).symm
            rw [List.length_take] at hbe
            have hbe' : b + 11 ≤ e := by omega
            obtain ⟨sb, so, ⟨cs3, hv3e⟩, hcell3⟩ : ∃ sb so, (∃ c, v3' = .slice (some ⟨sb, so, none⟩) s.length c) ∧ ∀ (i : Nat) (x : UInt8), s[i]? = some x → wc.cell? ⟨sb, so + i, none⟩ = some (.int .u8 (x.toNat : Int)) := by
              obtain ⟨p, c, e1, e2, e3⟩ := (unhide HW6).2
              obtain ⟨sb, so, rfl, h⟩ := e3 (by rintro rfl; simp at hel)
              exact ⟨sb, so, ⟨c, e1⟩, h⟩
            have HCELL3 := hide hcell3
            clear hcell3 hbe hgb
            by_cases hbad : 0 < b ∧ s[b - 1]? ≠ some 10
            · have hst : StepR s e .next := .inr ⟨b, (unhide HBI).symm, hbe', .inl ⟨hbad.1, hbad.2, rfl⟩⟩
              have HN : Hid (HInv data (s.drop 0) ((e : Int) + 10 - ((0 : Nat) : Int))) := HInv.next (unhide HSD) (unhide HEI).symm hst (by omega) (by omega)
              obtain ⟨x, hx⟩ : ∃ x, s[b - 1]? = some x := ⟨_, List.getElem?_eq_getElem (by omega)⟩
              have hcx := unhide HCELL3 (b - 1) x hx
              have hx10 : ((x.toNat : Int) == 10) = false := by
                rw [beq_eq_false_iff_ne]; intro e10
                apply hbad.2; rw [hx]; congr 1; rw [← UInt8.toNat_inj]; have : (10 : UInt8).toNat = 10 := rfl; omega
              have hx10b : ((x.toNat : Int) != 10) = true := by simpa using hx10
              have hb0 : (0 : Int) < (b : Int) := by omega
              have eb1 : ((b - 1 : Nat) : Int) = (b : Int) - 1 := by omega
              have hbx := bounds_byte x
              have HV := hide hv3e
              subst hv3e
              clear hst hv3l hbad hx
              go_wp2_with fail
              exact pem_cont (e := e) (i := 0) (unhide HSL) hmr hrl (unhide HW6).2 (Nat.zero_le _) (by omega) (unhide HEL) hsb (unhide HN) (unhide HW6).1
            · have hnb : 0 < b → s[b - 1]? = some 10 := fun h => by
                rcases Classical.em (s[b - 1]? = some 10) with h1 | h1
                · exact h1
                · exact absurd ⟨h, h1⟩ hbad
              have HNB := hide hnb
              subst hv3e
              go_upto_region 11 with (fail)
              go_cut [65] from 52 to 65 (fun v wx => v = .bool false ∧ wx = wc)
              case first =>
                -- @test
                as_aux_lemma =>
                by_cases hb0 : b = 0
                · have hb0' : ¬ (0 : Int) < (b : Int) := by omega
                  clear hnb hbad hv3l hb0
                  go_wp2_with fail
                  go_meet
                  exact ⟨rfl, rfl⟩
                · have hx := hnb (by omega)
                  have hcx := unhide HCELL3 (b - 1) 10 hx
                  have e10 : (((10 : UInt8).toNat : Nat) : Int) = 10 := rfl
                  rw [e10] at hcx
                  have hb0 : (0 : Int) < (b : Int) := by omega
                  have eb1 : ((b - 1 : Nat) : Int) = (b : Int) - 1 := by omega
                  clear hnb hbad hv3l hx e10
                  go_wp2_with fail
                  go_meet
                  exact ⟨rfl, rfl⟩
              case rest =>
                -- @rest2
                as_aux_lemma =>
                obtain ⟨rfl, hwx⟩ := hcut
                subst hwx
                clear hnb hbad hv3l
                have hsB : Sl wc (.slice (some ⟨sb, so + (b + 11), none⟩) (s.length - (b + 11)) (cs3 - (b + 11))) (s.drop (b + 11)) := by
                  obtain ⟨p, c, e1, e2, e3⟩ := (unhide HW6).2
                  injection e1 with _ _ e5
                  subst e5
                  refine ⟨_, _, by rw [List.length_drop], by rw [List.length_drop]; omega, fun _ => ⟨sb, so + (b + 11), rfl, fun i x hx => ?_⟩⟩
                  rw [List.getElem?_drop] at hx
                  rw [Nat.add_assoc]; exact unhide HCELL3 _ _ hx
                have hck : ¬ cs3 = b + 11 := by
                  obtain ⟨p, c, e1, e2, e3⟩ := (unhide HW6).2
                  injection e1 with _ _ e5
                  omega
                have hgl := getLine_any _ _ _ hsB (by rw [List.length_drop]; omega)
                have HGL := hide hgl
                obtain ⟨cN, hcN⟩ : ∃ cN, cN = consP (s.drop (b + 11)) := ⟨_, rfl⟩
                have hcle := consP_le (s.drop (b + 11))
                have hlle := lineP_le (s.drop (b + 11))
                rw [← hcN, List.length_drop] at hcle
                rw [← hcN] at hlle
                obtain ⟨ln, hln⟩ : ∃ ln, ln = lineP (s.drop (b + 11)) := ⟨_, rfl⟩
                rw [← hln] at hlle
                have HLN := hide (And.intro hln (And.intro hcN ((restP_drop (s.drop (b + 11))).trans (by rw [List.drop_drop, ← hcN]))))
                have hib : b + 11 + cN ≤ s.length := by omega
                have HIB := hide (And.intro hib hlle)
                clear hsB hgl hcN hln hcle hib hlle
                go_wp2_with fail
                refine (unhide HGL).mono ?_
                rintro e1 w1 ⟨v7, v3n, rfl, hs7, hs3n, hb7⟩
                obtain ⟨hib, hlle⟩ := unhide HIB
                rw [← (unhide HLN).2.1]
                rw [← (unhide HLN).1] at hs7
                rw [(unhide HLN).2.2] at hs3n
                have hB7 : Below w.heap.size w w1 := bstep (unhide HW6).1 hb7
                have hlitD := sl_lit w1 dashP _ 5 (5, 6) dash_cells rfl
                have hsuf := suffix_any v7 _ ln dashP _ (hs7.below (balloc (Below.refl _ _) _)) hlitD (by omega)
                have HSUF := hide hsuf
                have hmono : Below w1.heap.size w1 (w1.alloc (.cells #[.int .u8 45, .int .u8 45, .int .u8 45, .int .u8 45, .int .u8 45] 5 (5, 6))) := balloc (Below.refl _ _) _
                have HW7 : Hid (Below w.heap.size w (w1.alloc (.cells #[.int .u8 45, .int .u8 45, .int .u8 45, .int .u8 45, .int .u8 45] 5 (5, 6))) ∧ Sl (w1.alloc (.cells #[.int .u8 45, .int .u8 45, .int .u8 45, .int .u8 45, .int .u8 45] 5 (5, 6))) v3n (s.drop (b + 11 + cN)) ∧ Sl (w1.alloc (.cells #[.int .u8 45, .int .u8 45, .int .u8 45, .int .u8 45, .int .u8 45] 5 (5, 6))) v7 ln) := ⟨bstep hB7 hmono, hs3n.below hmono, hs7.below hmono⟩
                obtain ⟨hx, hhx⟩ : ∃ hx, hx = Lib.hasSuffix ln dashP := ⟨_, rfl⟩
                rw [← hhx] at HSUF
                have HHX := hide hhx
                clear hs7 hs3n hb7 hB7 hlitD hsuf hmono HGL HW6 HCELL3 hhx
                go_wp2_with fail
                refine (unhide HSUF).mono ?_
                rintro e1 w2 ⟨rfl, rfl⟩
                clear HSUF
                cases hx with
                | false =>
                  have hst : StepR s e .next := .inr ⟨b, (unhide HBI).symm, hbe', .inr ⟨unhide HNB, .inl ⟨by rw [← (unhide HLN).1]; exact (unhide HHX).symm, rfl⟩⟩⟩
                  have hnl : b + 11 + cN ≤ e + 10 := by
                    have := cons_nl (unhide HEI).symm (i := b + 11) (by omega)
                    rw [← (unhide HLN).2.1] at this
                    omega
                  have HN : Hid (HInv data (s.drop (b + 11 + cN)) ((e : Int) + 10 - ((b + 11 + cN : Nat) : Int))) := HInv.next (unhide HSD) (unhide HEI).symm hst (by omega) hib
                  clear hst
                  go_wp2_with fail
                  exact pem_cont (e := e) (i := b + 11 + cN) (unhide HSL) hmr hrl (unhide HW7).2.1 hib (by omega) (unhide HEL) hsb (unhide HN) (unhide HW7).1
                | true =>
                  -- @rest3
                  as_aux_lemma =>
                  have hl5 := suf_len (unhide HHX).symm
                  obtain ⟨p7, c7, hv7, hl7, -⟩ := (unhide HW7).2.2
                  subst hv7
                  obtain ⟨v7', hv7', hs7'⟩ := (unhide HW7).2.2.cutHi (ln.length - 5) (by omega)
                  have e5 : ((ln.length - 5 : Nat) : Int) = (ln.length : Int) - 5 := by omega
                  rw [e5] at hv7'
                  generalize hwD : w1.alloc (.cells #[.int .u8 45, .int .u8 45, .int .u8 45, .int .u8 45, .int .u8 45] 5 (5, 6)) = wD at HW7 hs7' ⊢
                  obtain ⟨ty, hty⟩ : ∃ ty, ty = ln.take (ln.length - 5) := ⟨_, rfl⟩
                  rw [← hty] at hs7'
                  obtain ⟨p7', c7', rfl, hlc7', hcc7'⟩ := hs7'
                  have hs7' : Sl wD (.slice p7' ty.length c7') ty := ⟨p7', c7', rfl, hlc7', hcc7'⟩
                  have hty5 : ty.length = ln.length - 5 := by rw [hty, List.length_take]; omega
                  have HTY5 := hide hty5
                  have htyl : ty.length ≤ 140737488351232 := by omega
                  clear hcc7' hty5
                  have hcvt := conv_sl2 hs7' (wD.alloc (.map #[] 0)) (balloc (Below.refl _ _) _)
                  obtain ⟨n1, n2, n3⟩ := new_block wD ty
                  have HN0 := hide (And.intro n1 (And.intro n2 (And.intro (bstep (unhide HW7).1 n3) (And.intro ((unhide HW7).2.1.below n3) (hs7'.below n3)))))
                  have HTY := hide hty
                  clear hwD e5 hs7' n1 n2 n3 hty
                  go_wp2_with fail
                  have HA0 : Hid (Acc (restP (s.drop (b + 11))) (s.drop (b + 11 + cN)) []) := by
                    show Acc _ _ _
                    rw [(unhide HLN).2.2]; exact Acc.start _
                  have hpb : wD.heap.size + 1 ≤ wD.heap.size + 1 := Nat.le_refl _
                  obtain ⟨mb, hmb⟩ : ∃ mb, mb = wD.heap.size := ⟨_, rfl⟩
                  obtain ⟨wo, hwo⟩ : ∃ wo : World, wo = wr := ⟨_, rfl⟩
                  subst hwo
                  go_loopw [2, 3, 4, 5] (fun v2 v3 v4 v5 wr => ∃ (i n : Nat) (D : DataW Unit) (hs : Hdrs), v2 = .pointer (some ⟨wD.heap.size + 1, 0, none⟩) ∧ Sl wr v3 (s.drop i) ∧ v4 = .int .i64 ((e : Int) + 10 - (i : Int)) ∧ v5 = .int .i64 ((e : Int) - (i : Int)) ∧ b + 11 + ln.length ≤ i ∧ i ≤ s.length ∧ n ≤ hs.length ∧ hs.length ≤ i ∧ wr.ownsMap Tryd.prog 9 (plainElem Tryd.prog 9) wD.heap.size n D ∧
                    Hid (MapIs D hs ∧ PB wr (wD.heap.size + 1) ty wD.heap.size (.slice none 0 0) ∧ Below w.heap.size w wr ∧ Sl wr (.slice p7' ty.length c7') ty ∧ Acc (restP (s.drop (b + 11))) (s.drop i) hs ∧ (hs = [] → i = b + 11 + cN))) (fun _ v3 _ _ _ => slen v3)
                  case atStart =>
                    obtain ⟨m1, m2, m3, m4, m5⟩ := unhide HN0
                    exact ⟨b + 11 + cN, 0, _, [], rfl, m4, by congr 1; omega, by congr 1; omega, by omega, hib, Nat.le_refl _, Nat.zero_le _, m1, mapIs_empty, m2, m3, m5, unhide HA0, fun _ => rfl⟩
                  case round =>
                    clear HN0 HA0
                    obtain ⟨i, n, D, hs, rfl, hsr, rfl, rfl, hbi, his, hnh, hhi, hown, HX⟩ := hrel
                    obtain ⟨dl, hdl⟩ : ∃ dl, dl = s.drop i := ⟨_, rfl⟩
                    rw [← hdl] at hsr
                    have hri : dl.length = s.length - i := by rw [hdl, List.length_drop]
                    have HDL := hide hdl
                    clear hdl
                    have HSR3 := hide hsr
                    obtain ⟨p3', c3', rfl, hlc3', -⟩ := hsr
                    by_cases hie : i = s.length
                    · -- @gone
                      as_aux_lemma =>
                      have hz : dl.length = 0 := by omega
                      have hst : StepR s e .gone := .inr ⟨b, (unhide HBI).symm, hbe', .inr ⟨unhide HNB, .inr ⟨by rw [← (unhide HLN).1]; exact (unhide HHX).symm, .inl ⟨hs, by
                        have h := (unhide HX).2.2.2.2.1 [] none (by rw [← unhide HDL, List.eq_nil_of_length_eq_zero hz]; exact .gone)
                        rwa [List.append_nil] at h, rfl⟩⟩⟩⟩
                      have HR : Hid (DecPost data v w (.returned (.tuple #[.pointer none, v])) wr) := ⟨(unhide HX).2.2.1, .inl ⟨unhide HSD none (.gone (unhide HEI).symm hst), rfl⟩⟩
                      rw [hz]
                      clear hst hz hown HX hri
                      go_wp2_with fail
                      go_ret2
                      exact unhide HR
                    · -- @line
                      as_aux_lemma =>
                      have hr0 : ¬ (dl.length : Int) = 0 := by omega
                      have hgl := getLine_any _ _ _ (unhide HSR3) (by omega)
                      obtain ⟨ln2, hln2⟩ : ∃ x, x = lineP dl := ⟨_, rfl⟩
                      obtain ⟨cM, hcM⟩ : ∃ x, x = consP dl := ⟨_, rfl⟩
                      have hc1 := consP_le dl
                      have hc2 := consP_pos (l := dl) (by intro e0; rw [e0] at hri; simp at hri; omega)
                      have hl1 := lineP_le dl
                      rw [← hcM] at hc1 hc2 hl1
                      rw [← hln2] at hl1
                      have hrd := restP_drop dl
                      rw [← hcM] at hrd
                      rw [show dl.drop cM = s.drop (i + cM) by rw [unhide HDL, List.drop_drop]] at hrd
                      have HLM := hide (And.intro hln2 (And.intro hcM hrd))
                      have hbd : i + cM ≤ s.length ∧ 0 < cM ∧ ln2.length ≤ cM := by omega
                      have HBD := hide hbd
                      have HRI := hide hri
                      have HGL2 := hide hgl
                      clear hgl hc1 hc2 hl1 hrd hbd hln2 hcM hri
                      go_wp2_with fail
                      refine (unhide HGL2).mono ?_
                      rintro e1 w2 ⟨v9, v10, rfl, hs9, hs10, hb2⟩
                      rw [← (unhide HLM).2.1]
                      rw [← (unhide HLM).1] at hs9
                      rw [(unhide HLM).2.2] at hs10
                      obtain ⟨m1, m2, m3, m4, m5⟩ := unhide HX
                      have h2b : Below w2.heap.size w2 (w2.alloc (.cells #[.int .u8 58] 5 (1, 2))) := balloc (Below.refl _ _) _
                      have h23 : Below wr.heap.size wr (w2.alloc (.cells #[.int .u8 58] 5 (1, 2))) := bstep hb2 h2b
                      have hown3 := hown
                      have hcc : (w2.alloc (.cells #[.int .u8 58] 5 (1, 2))).cell? ⟨w2.heap.size, 0, none⟩ = some (.int .u8 58) := by rw [cell_of_heap (heap_new w2 _)]; rfl
                      have HS9 := hide (hs9.below h2b)
                      have hln2l : ln2.length ≤ 140737488351232 := by have := unhide HBD; omega
                      by_cases hcol : (58 : UInt8) ∈ ln2
                      · -- @colon
                        as_aux_lemma =>
                        have hct := hide (cut_yes v9 ln2 w2.heap.size 0 1 _ (unhide HS9) hcc (by omega) hcol)
                        have HNX := hide (And.intro hcol (And.intro (hs10.below h2b) h23))
                        clear hcol hcc hs9 hs10 h2b h23 hb2 m1 m2 m3 m4 m5 HS9 hown3
                        go_wp2_with fail
                        refine (unhide hct).mono ?_
                        rintro e1 w4 ⟨v12, v13, rfl, hs12, hs13, q4, rfl⟩
                        generalize hw3 : w2.alloc (.cells #[.int .u8 58] 5 (1, 2)) = w3 at hs12 hs13 HNX ⊢
                        have htb : Tabs (w3.drewN q4) := ((unhide HT).below ((unhide HX).2.2.1.trans ((unhide HNX).2.2.mono (unhide HX).2.2.1.size))).drewN q4
                        have ht1 := hide (trim_any v12 _ (w3.drewN q4) (hs12.drewN q4) (by rw [List.length_take]; omega) htb.1 htb.2.1 htb.2.2)
                        have HTB := hide htb
                        have HS13 := hide hs13
                        clear hct hw3 hs12 hs13 htb
                        go_wp2_with fail
                        refine (unhide ht1).mono ?_
                        rintro e1 w5 ⟨v12', k, rfl, hsk, htk, hb5⟩
                        have htb5 := (unhide HTB).below hb5
                        have ht2 := hide (trim_any v13 _ w5 (((unhide HS13).drewN q4).below hb5) (by rw [List.length_drop]; omega) htb5.1 htb5.2.1 htb5.2.2)
                        have HK := hide (And.intro (hsk.below hb5) (And.intro htk hb5))
                        clear ht1 hsk htk hb5 htb5 HTB HS13
                        go_wp2_with fail
                        refine (unhide ht2).mono ?_
                        rintro e1 w6 ⟨v13', vv, rfl, hsv, htv, hb6⟩
                        have hwr6 : Below wr.heap.size wr w6 := bstep (bstep (below_drewN (unhide HNX).2.2 q4) (unhide HK).2.2) hb6
                        obtain ⟨m1, m2, m3, m4, m5⟩ := unhide HX
                        have hown6 := ownsMap_heap hown (fun es c hb2 => (hwr6.block _ (lt_of_heap hb2)).trans hb2)
                        have c1 : w6.cell? ⟨wD.heap.size + 1, 1, none⟩ = some (.map (some wD.heap.size)) := (m2.below hwr6).c1
                        have hsv6 : Sl w6 v13' vv := hsv.below hb6
                        have hsk6 : Sl w6 v12' k := (unhide HK).1.below hb6
                        have hk0 : (convert 22 9 v12').run Tryd.prog w6 = .ok (.string (bs k)) w6 := conv_sl2 hsk6 w6 (Below.refl _ _)
                        have hk1 : (convert 22 9 v12').run Tryd.prog w6.drew = .ok (.string (bs k)) w6.drew := conv_sl2 hsk6 w6.drew (drewN_below w6 1)
                        have hk2 : (convert 22 9 v12').run Tryd.prog ({ w6 with drawn := w6.drawn + 1 }) = .ok (.string (bs k)) ({ w6 with drawn := w6.drawn + 1 }) := hk1
                        have hq0 : (convert 22 9 v13').run Tryd.prog w6 = .ok (.string (bs vv)) w6 := conv_sl2 hsv6 w6 (Below.refl _ _)
                        have hq1 : (convert 22 9 v13').run Tryd.prog w6.drew = .ok (.string (bs vv)) w6.drew := conv_sl2 hsv6 w6.drew (drewN_below w6 1)
                        have hq2 : (convert 22 9 v13').run Tryd.prog ({ w6 with drawn := w6.drawn + 1 }) = .ok (.string (bs vv)) ({ w6 with drawn := w6.drawn + 1 }) := hq1
                        have hkl : k.length ≤ 140737488351232 := by have h1 := (unhide HK).2.1.1; rw [List.length_take] at h1; omega
                        have hvl : vv.length ≤ 140737488351232 := by have h1 := htv.1; rw [List.length_drop] at h1; omega
                        have hkey := key_bs (l := k) (by unfold maxLen; omega)
                        have hval := plainElem_string (H := Unit) Tryd.underlying9 (s := bs vv) (by rw [bs_size]; unfold maxLen; omega)
                        have hkm : n < maxLen := by unfold maxLen; omega
                        have hs10' : Sl w6 v10 (s.drop (i + cM)) := (((unhide HNX).2.1.drewN q4).below (unhide HK).2.2).below hb6
                        have HFIN := hide (And.intro (m1.put k vv) (And.intro (m2.below hwr6) (And.intro (m3.trans (hwr6.mono m3.size)) (And.intro (m4.below hwr6) (And.intro hs10' (And.intro hown6 (And.intro (unhide HNX).1 (And.intro (unhide HK).2.1 htv))))))))
                        have hwds : w.heap.size ≤ wD.heap.size := (unhide HW7).1.size
                        clear hsv htv hb6 hwr6 m1 m2 m3 m4 m5 hsv6 hsk6 hs10' ht2 hown
                        go_wp2_with fail
                        go_still_tail 8, (by kernel_rfl)
                        change wpList _ _ _ _ _ w6.drew
                        go_wp2_with (first
                          | (at_mapUpdate; refine wpList_mapUpdate_own _ rfl _ _ _ 45 rfl 9 9 lawS Tryd.underlying45 _ wD.heap.size n D rfl hown6.drew hkm _ _ (.string k) rfl rfl hkey _ [] hval ?_; intro w7 hown7 hgrow7)
                          | fail)
                        obtain ⟨f1, f2, f3, f4, f5, f6, f7, f8, f9⟩ := unhide HFIN
                        have hg7 : w6.drew.grownBy w7 (some wD.heap.size) := hgrow7
                        have hne0 : s.drop i ≠ [] := by intro e0; have h := unhide HRI; rw [unhide HDL, e0] at h; have h2 : 0 = s.length - i := h; have := unhide HBD; omega
                        have hacc := (unhide HX).2.2.2.2.1.step hne0 (by rw [← unhide HDL, ← (unhide HLM).1]; exact f7) (by rw [← unhide HDL, ← (unhide HLM).1]; exact f8) (by rw [← unhide HDL, ← (unhide HLM).1]; exact f9)
                        rw [← unhide HDL, (unhide HLM).2.2] at hacc
                        have hbd := unhide HBD
                        have hw1 : wrap64 ((e : Int) + 10 - (i : Int) - (cM : Int)) = (e : Int) + 10 - (i : Int) - (cM : Int) := IntWalk.wrap64_in _ (by omega)
                        have hw2 : wrap64 ((e : Int) - (i : Int) - (cM : Int)) = (e : Int) - (i : Int) - (cM : Int) := IntWalk.wrap64_in _ (by omega)
                        refine ⟨⟨i + cM, n + 1, _, hs ++ [(k, vv)], rfl, Sl.setMap (w := w6.drew) (f5.drewN 1) f6.drew hg7, by rw [hw1]; congr 1; omega, by rw [hw2]; congr 1; omega, by omega, (unhide HBD).1, by simp; omega, by have := unhide HBD; simp; omega, hown7, f1, PB.setMapD (w := w6.drew) f2 hg7 (by omega), (below_drewN f3 1).grown hg7 f3.size (fun j hj => by cases hj; omega), Sl.setMap (w := w6.drew) (f4.drewN 1) f6.drew hg7, hacc, fun h0 => by simp at h0⟩, ?_⟩
                        have hl10 := f5.len
                        show slen v10 < slen (.slice p3' dl.length c3')
                        rw [hl10]
                        show (s.drop (i + cM)).length < dl.length
                        rw [List.length_drop, unhide HRI]
                        have := unhide HBD
                        omega
                      · -- @stop
                        as_aux_lemma =>
                        have hct := hide (cut_no v9 ln2 w2.heap.size 0 1 _ (unhide HS9) hcc (by omega) hcol)
                        have hown4 := ownsMap_heap hown (fun es c hb2 => (h23.block _ (lt_of_heap hb2)).trans hb2)
                        have HSC := hide (And.intro hcol (And.intro (m2.below h23) (And.intro (m3.trans (h23.mono m3.size)) (And.intro (m4.below h23) ((unhide HSR3).below h23)))))
                        clear hcol hcc hs9 hs10 h2b h23 hb2 m1 m2 m3 m4 HS9 hown3 hr0 hown
                        go_wp2_with fail
                        refine (unhide hct).mono ?_
                        rintro e1 w4 ⟨rfl, q4, rfl⟩
                        generalize hw3 : (w2.alloc (.cells #[.int .u8 58] 5 (1, 2))) = w3 at HSC hown4 ⊢
                        clear hw3 hct
                        have hown5 : (w3.drewN q4).ownsMap Tryd.prog 9 (plainElem Tryd.prog 9) wD.heap.size n D := hown4
                        have HT5 : Hid (PB (w3.drewN q4) (wD.heap.size + 1) ty wD.heap.size (.slice none 0 0) ∧ Below w.heap.size w (w3.drewN q4) ∧ Sl (w3.drewN q4) (.slice p7' ty.length c7') ty ∧ Sl (w3.drewN q4) (.slice p3' dl.length c3') dl) := ⟨(unhide HSC).2.1, below_drewN (unhide HSC).2.2.1 _, (unhide HSC).2.2.2.1.drewN _, (unhide HSC).2.2.2.2.drewN _⟩
                        generalize w3.drewN q4 = wT at hown5 HT5 ⊢
                        have c1 : wT.cell? ⟨wD.heap.size + 1, 1, none⟩ = some (.map (some wD.heap.size)) := (unhide HT5).1.c1
                        have hdr : HdrL (restP (s.drop (b + 11))) hs (some (s.drop i)) := by
                          have h := (unhide HX).2.2.2.2.1 [] (some (s.drop i)) (.stop (by rw [← unhide HDL]; intro e0; have h2 := unhide HRI; rw [e0] at h2; have h3 : 0 = s.length - i := h2; omega) (by rw [← unhide HDL, ← (unhide HLM).1]; exact (unhide HSC).1))
                          rwa [List.append_nil] at h
                        have hstp : ∀ o, o = tailF s e i ty hs → StepR s e o := fun o ho => .inr ⟨b, (unhide HBI).symm, hbe', .inr ⟨unhide HNB, .inr ⟨by rw [← (unhide HLN).1]; exact (unhide HHX).symm, .inr ⟨hs, i, hdr, by rw [← (unhide HLN).1]; exact hbi, his, by rw [← (unhide HLN).1, ← unhide HTY]; exact ho⟩⟩⟩⟩
                        have HSTP := hide hstp
                        have hsz : Maps.size D = (hkeys hs).length := (unhide HX).1.2.2.2
                        clear hdr hstp hown4 HSC m5
                        have hdls : Sl wT (.slice p3' dl.length c3') (s.drop i) := by rw [← unhide HDL]; exact (unhide HT5).2.2.2
                        have HDLS := hide hdls
                        clear hdls
                        by_cases hA : hs ≠ [] ∧ e < i
                        · -- @early
                          as_aux_lemma =>
                          have hz : (0 : Int) < ((Maps.size D : Nat) : Int) := by
                            have h1 : hkeys hs ≠ [] := fun e0 => hA.1 (hkeys_nil_iff.1 e0)
                            have := List.length_pos_iff.2 h1
                            omega
                          have hz2 : (e : Int) - (i : Int) < 0 := by omega
                          have HN : Hid (HInv data (s.drop i) ((e : Int) + 10 - (i : Int))) := by
                            by_cases hg : e + 10 < i
                            · exact HInv.gone (unhide HSD) (unhide HEI).symm (unhide HSTP .gone (by unfold tailF; rw [if_pos hA, if_pos hg])) hg his
                            · exact HInv.next (unhide HSD) (unhide HEI).symm (unhide HSTP .next (by unfold tailF; rw [if_pos hA, if_neg hg])) (by omega) his
                          clear hsz hA
                          go_wp2_with (first
                            | (at_len; refine wpList_len_own _ rfl _ 45 rfl 9 9 Tryd.underlying45 _ wD.heap.size n D rfl hown5 ?_)
                            | fail)
                          exact pem_cont (e := e) (i := i) (unhide HSL) hmr hrl (unhide HDLS) his rfl (unhide HEL) hsb (unhide HN) (unhide HT5).2.1
                        · -- @late
                          as_aux_lemma =>
                          have hie9 : i ≤ e + 9 := by
                            by_cases h0 : hs = []
                            · have h1 := (unhide HX).2.2.2.2.2 h0
                              have h2 := cons_nl (unhide HEI).symm (i := b + 11) (by omega)
                              rw [← (unhide HLN).2.1] at h2
                              omega
                            · rcases Nat.lt_or_ge e i with h1 | h1
                              · exact absurd ⟨h0, h1⟩ hA
                              · omega
                          go_upto_region 34 with (fail)
                          go_cut [156] from 147 to 156 (fun v wx => v = .bool false ∧ wx = wT)
                          case first =>
                            -- @heads
                            as_aux_lemma =>
                            by_cases h0 : hs = []
                            · have hz : ¬ (0 : Int) < ((Maps.size D : Nat) : Int) := by rw [hsz, h0]; decide
                              clear hsz hA h0
                              go_wp2_with (first
                                | (at_len; refine wpList_len_own _ rfl _ 45 rfl 9 9 Tryd.underlying45 _ wD.heap.size n D rfl hown5 ?_)
                                | fail)
                              go_meet
                              exact ⟨rfl, rfl⟩
                            · have hz : (0 : Int) < ((Maps.size D : Nat) : Int) := by
                                have h1 : hkeys hs ≠ [] := fun e0 => h0 (hkeys_nil_iff.1 e0)
                                have := List.length_pos_iff.2 h1
                                omega
                              have hz2 : ¬ (e : Int) - (i : Int) < 0 := by
                                have : ¬ e < i := fun h1 => hA ⟨h0, h1⟩
                                omega
                              clear hsz hA h0
                              go_wp2_with (first
                                | (at_len; refine wpList_len_own _ rfl _ 45 rfl 9 9 Tryd.underlying45 _ wD.heap.size n D rfl hown5 ?_)
                                | fail)
                              go_meet
                              exact ⟨rfl, rfl⟩
                          case rest =>
                            obtain ⟨rfl, hwx⟩ := hcut
                            subst hwx
                            obtain ⟨wT, hwT⟩ : ∃ x, x = wc := ⟨_, rfl⟩
                            subst hwT
                            obtain ⟨vE, hvE, hsE⟩ := (unhide HT5).2.2.2.cutLo (e + 10 - i) (by have := unhide HRI; omega)
                            have ee : ((e + 10 - i : Nat) : Int) = (e : Int) + 10 - (i : Int) := by omega
                            rw [ee] at hvE
                            rw [show dl.drop (e + 10 - i) = s.drop (e + 10) by rw [unhide HDL, List.drop_drop]; congr 1; omega] at hsE
                            obtain ⟨eT, heT⟩ : ∃ x, x = s.drop (e + 10) := ⟨_, rfl⟩
                            rw [← heT] at hsE
                            have heTl : eT.length ≤ 140737488351232 := by rw [heT, List.length_drop]; omega
                            have HET := hide heT
                            clear heT ee
                            have HSE := hide hsE
                            obtain ⟨pE, cE, rfl, hlE, -⟩ := hsE
                            by_cases hsh : eT.length < ty.length + 5
                            · -- @short
                              as_aux_lemma =>
                              have hi1 : (eT.length : Int) < (ty.length : Int) + 5 := by omega
                              have HN : Hid (HInv data (s.drop i) ((e : Int) + 10 - (i : Int))) := HInv.next (unhide HSD) (unhide HEI).symm (unhide HSTP .next (by unfold tailF; rw [if_neg hA, if_pos (by rw [← unhide HET]; exact hsh)])) (by omega) his
                              clear hsz hA hsh
                              go_wp2_with fail
                              exact pem_cont (e := e) (i := i) (unhide HSL) hmr hrl (unhide HDLS) his rfl (unhide HEL) hsb (unhide HN) (unhide HT5).2.1
                            · -- @tail
                              as_aux_lemma =>
                              have hi1 : ¬ (eT.length : Int) < (ty.length : Int) + 5 := by omega
                              obtain ⟨vR, hvR, hsR⟩ := (unhide HSE).cutLo (ty.length + 5) (by omega)
                              obtain ⟨vH, hvH, hsH⟩ := (unhide HSE).cutTo (ty.length + 5) (by omega)
                              have e5 : ((ty.length + 5 : Nat) : Int) = (ty.length : Int) + 5 := by omega
                              rw [e5] at hvR hvH
                              obtain ⟨hdE, hhd⟩ : ∃ x, x = eT.take (ty.length + 5) := ⟨_, rfl⟩
                              obtain ⟨tlE, htl⟩ : ∃ x, x = eT.drop (ty.length + 5) := ⟨_, rfl⟩
                              rw [← hhd] at hsH
                              rw [← htl] at hsR
                              have hhdl : hdE.length ≤ 140737488351232 := by rw [hhd, List.length_take]; omega
                              have htll : tlE.length ≤ 140737488351232 := by rw [htl, List.length_drop]; omega
                              have hpre := prefix_any vH _ hdE ty wT hsH (unhide HT5).2.2.1
                              obtain ⟨px, hpx⟩ : ∃ x, x = Lib.hasPrefix hdE ty := ⟨_, rfl⟩
                              rw [← hpx] at hpre
                              have hmU : Below wT.heap.size wT (wT.alloc (.cells #[.int .u8 45, .int .u8 45, .int .u8 45, .int .u8 45, .int .u8 45] 5 (5, 6))) := balloc (Below.refl _ _) _
                              have hsuf := suffix_any vH _ hdE dashP _ (hsH.below hmU) (sl_lit wT dashP _ 5 (5, 6) dash_cells rfl) (by omega)
                              obtain ⟨sx, hsx⟩ : ∃ x, x = Lib.hasSuffix hdE dashP := ⟨_, rfl⟩
                              rw [← hsx] at hsuf
                              have hgl := getLine_any vR tlE _ (hsR.below hmU) (by omega)
                              have HPRE := hide hpre
                              have HSUF := hide hsuf
                              have HGL := hide hgl
                              have HTL : Hid (px = Lib.hasPrefix ((s.drop (e + 10)).take (ty.length + 5)) ty ∧ sx = Lib.hasSuffix ((s.drop (e + 10)).take (ty.length + 5)) dashP ∧ tlE = (s.drop (e + 10)).drop (ty.length + 5) ∧ ¬ (s.drop (e + 10)).length < ty.length + 5) := by
                                rw [← unhide HET, ← hhd]
                                exact ⟨hpx, hsx, htl, hsh⟩
                              have HU : Hid (PB (wT.alloc (.cells #[.int .u8 45, .int .u8 45, .int .u8 45, .int .u8 45, .int .u8 45] 5 (5, 6))) (wD.heap.size + 1) ty wD.heap.size (.slice none 0 0) ∧ Below w.heap.size w (wT.alloc (.cells #[.int .u8 45, .int .u8 45, .int .u8 45, .int .u8 45, .int .u8 45] 5 (5, 6))) ∧ Sl (wT.alloc (.cells #[.int .u8 45, .int .u8 45, .int .u8 45, .int .u8 45, .int .u8 45] 5 (5, 6))) (.slice p3' dl.length c3') (s.drop i) ∧ HM (wT.alloc (.cells #[.int .u8 45, .int .u8 45, .int .u8 45, .int .u8 45, .int .u8 45] 5 (5, 6))) wD.heap.size hs) :=
                                ⟨(unhide HT5).1.below hmU, balloc (unhide HT5).2.1 _, (unhide HDLS).below hmU, HM.below ⟨n, D, hnh, hown5, (unhide HX).1⟩ hmU⟩
                              have hA' : Hid (¬ (hs ≠ [] ∧ e < i)) := hA
                              clear hpre hsuf hgl hhd htl hpx hsx hmU hsH hsR hsz hA hsh e5 c1 hown5
                              go_wp2_with fail
                              refine (unhide HPRE).mono ?_
                              rintro e1 wT ⟨rfl, rfl⟩
                              clear HPRE
                              cases px with
                              | false =>
                                have HN : Hid (HInv data (s.drop i) ((e : Int) + 10 - (i : Int))) := HInv.next (unhide HSD) (unhide HEI).symm (unhide HSTP .next (by
                                  unfold tailF
                                  rw [if_neg (unhide hA'), if_neg (unhide HTL).2.2.2, if_neg (fun h => by rw [← (unhide HTL).1] at h; cases h.1)])) (by omega) his
                                go_wp2_with fail
                                exact pem_cont (e := e) (i := i) (unhide HSL) hmr hrl (unhide HDLS) his rfl (unhide HEL) hsb (unhide HN) (unhide HT5).2.1
                              | true =>
                                go_wp2_with fail
                                refine (unhide HSUF).mono ?_
                                rintro e1 wU0 ⟨rfl, rfl⟩
                                clear HSUF HT5 HDLS
                                generalize hwU : wT.alloc (.cells #[.int .u8 45, .int .u8 45, .int .u8 45, .int .u8 45, .int .u8 45] 5 (5, 6)) = wU at HU HGL ⊢
                                clear hwU
                                cases sx with
                                | false =>
                                  have HN : Hid (HInv data (s.drop i) ((e : Int) + 10 - (i : Int))) := HInv.next (unhide HSD) (unhide HEI).symm (unhide HSTP .next (by
                                    unfold tailF
                                    rw [if_neg (unhide hA'), if_neg (unhide HTL).2.2.2, if_neg (fun h => by rw [← (unhide HTL).2.1] at h; cases h.2.1)])) (by omega) his
                                  go_wp2_with fail
                                  exact pem_cont (e := e) (i := i) (unhide HSL) hmr hrl (unhide HU).2.2.1 his rfl (unhide HEL) hsb (unhide HN) (unhide HU).2.1
                                | true =>
                                  -- @endline
                                  as_aux_lemma =>
                                  go_wp2_with fail
                                  refine (unhide HGL).mono ?_
                                  rintro e1 wV ⟨v18, v19, rfl, hs18, -, hbV⟩
                                  clear HGL
                                  obtain ⟨l18, hl18⟩ : ∃ x, x = lineP tlE := ⟨_, rfl⟩
                                  rw [← hl18] at hs18
                                  obtain ⟨p18, c18, rfl, -, -⟩ := hs18
                                  have HV : Hid (PB wV (wD.heap.size + 1) ty wD.heap.size (.slice none 0 0) ∧ Below w.heap.size w wV ∧ Sl wV (.slice p3' dl.length c3') (s.drop i) ∧ HM wV wD.heap.size hs) := ⟨(unhide HU).1.below hbV, bstep (unhide HU).2.1 hbV, (unhide HU).2.2.1.below hbV, (unhide HU).2.2.2.below hbV⟩
                                  have HL18 := hide hl18
                                  clear hbV HU hl18
                                  by_cases h18 : l18 = []
                                  · -- @good
                                    as_aux_lemma =>
                                    have h18l : l18.length = 0 := by rw [h18]; rfl
                                    have c2 : wV.cell? ⟨wD.heap.size + 1, 2, none⟩ = some (.slice none 0 0) := (unhide HV).1.c2
                                    have f2 : wV.frozen? ⟨wD.heap.size + 1, 2, none⟩ = false := (unhide HV).1.frz 2
                                    have hlt : wD.heap.size + 1 < wV.heap.size := lt_of_heap (unhide HV).1
                                    have HGO : Hid (∀ o, d64 (cl (solid ((s.drop i).take (e - i)))) = o → tailF s e i ty hs = (match o with | none => .next | some b => .done ⟨ty, hs, b, restP (s.drop (e + 9))⟩)) := by
                                      intro o ho
                                      unfold tailF
                                      rw [if_neg (unhide hA'), if_neg (unhide HTL).2.2.2, if_pos ⟨(unhide HTL).1.symm, (unhide HTL).2.1.symm, by rw [← (unhide HTL).2.2.1, ← unhide HL18]; exact h18⟩, ho]
                                      cases o <;> rfl
                                    rw [h18l]
                                    clear h18 h18l HTL HL18 hA'
                                    have hwds : w.heap.size ≤ wD.heap.size := (unhide HW7).1.size
                                    have HG : Hid (PB ((wV.setCell ⟨wD.heap.size + 1, 2, none⟩ (.slice (some ⟨wV.heap.size, 0, none⟩) 0 0)).alloc (.cells #[] 5)) (wD.heap.size + 1) ty wD.heap.size (.slice (some ⟨wV.heap.size, 0, none⟩) 0 0) ∧ Below w.heap.size w ((wV.setCell ⟨wD.heap.size + 1, 2, none⟩ (.slice (some ⟨wV.heap.size, 0, none⟩) 0 0)).alloc (.cells #[] 5)) ∧ Sl ((wV.setCell ⟨wD.heap.size + 1, 2, none⟩ (.slice (some ⟨wV.heap.size, 0, none⟩) 0 0)).alloc (.cells #[] 5)) (.slice p3' dl.length c3') (s.drop i) ∧ HM ((wV.setCell ⟨wD.heap.size + 1, 2, none⟩ (.slice (some ⟨wV.heap.size, 0, none⟩) 0 0)).alloc (.cells #[] 5)) wD.heap.size hs) :=
                                      ⟨((unhide HV).1.setB _).below (balloc (Below.refl _ _) _), balloc ((unhide HV).2.1.setCell (Nat.le_trans hwds (Nat.le_succ _)) _) _, ((unhide HV).2.2.1.store c2 _).below (balloc (Below.refl _ _) _), ((unhide HV).2.2.2.setB (fun e0 => by omega) 2 _).below (balloc (Below.refl _ _) _)⟩
                                    go_upto_region 44 with (fail)
                                    generalize (wV.setCell ⟨wD.heap.size + 1, 2, none⟩ (.slice (some ⟨wV.heap.size, 0, none⟩) 0 0)).alloc (.cells #[] 5) = wG at HG ⊢
                                    clear c2 f2 hlt HV
                                    go_upto_if 198 with (fail)
                                    obtain ⟨bd, hbd⟩ : ∃ x, x = (s.drop i).take (e - i) := ⟨_, rfl⟩
                                    have HBDD := hide hbd
                                    clear hbd
                                    go_cut [] (fun w' => Hid (TailOK (wD.heap.size + 1) wD.heap.size ty hs w (.slice p3' dl.length c3') (s.drop i) bd w'))
                                    case first =>
                                      -- @body
                                      by_cases hpos : i < e
                                      · -- @b64
                                        as_aux_lemma =>
                                        have hz : (0 : Int) < (e : Int) - (i : Int) := by omega
                                        obtain ⟨vB, hvB, hsB⟩ := (unhide HG).2.2.1.cutTo (e - i) (by rw [List.length_drop]; have := unhide HEL; omega)
                                        have ei : ((e - i : Nat) : Int) = (e : Int) - (i : Int) := by omega
                                        rw [ei] at hvB
                                        rw [← unhide HBDD] at hsB
                                        have hbdl : bd.length ≤ 140737488351232 := by rw [unhide HBDD, List.length_take]; have := unhide HEL; omega
                                        have hrm := hide (rm_any vB bd wG hsB hbdl)
                                        clear hsB ei hpos
                                        go_wp2_with fail
                                        refine (unhide hrm).mono ?_
                                        rintro e1 wR ⟨vS, rfl, hsS, hbR⟩
                                        obtain ⟨sd, hsd⟩ : ∃ x, x = solid bd := ⟨_, rfl⟩
                                        rw [← hsd] at hsS
                                        have hsdl : sd.length ≤ 140737488351232 := by rw [hsd]; exact Nat.le_trans (solid_le _) hbdl
                                        have HSDD := hide hsd
                                        obtain ⟨pS, cS, rfl, hlS, hcS⟩ := hsS
                                        have hsS : Sl wR (.slice pS sd.length cS) sd := ⟨pS, cS, rfl, hlS, hcS⟩
                                        have HG2 : Hid (PB wR (wD.heap.size + 1) ty wD.heap.size (.slice (some ⟨wV.heap.size, 0, none⟩) 0 0) ∧ Below w.heap.size w wR ∧ Sl wR (.slice p3' dl.length c3') (s.drop i) ∧ HM wR wD.heap.size hs ∧ Sl wR (.slice pS sd.length cS) sd) := ⟨(unhide HG).1.below hbR, bstep (unhide HG).2.1 hbR, (unhide HG).2.2.1.below hbR, (unhide HG).2.2.2.below hbR, hsS⟩
                                        have hse := hide (stdEncoding_any wR)
                                        clear hrm hsd hcS hsS hbR HG hbdl
                                        go_wp2_with fail
                                        refine (unhide hse).mono ?_
                                        rintro e1 wS ⟨rfl, hE, hbS⟩
                                        obtain ⟨DL, hDL⟩ : ∃ x, x = sd.length / 4 * 3 := ⟨_, rfl⟩
                                        have hdl := decodedLen_any wR.heap.size sd.length (by omega) wS hE
                                        rw [← hDL] at hdl
                                        have HDLN := hide hdl
                                        have hDLb : DL ≤ 140737488351232 := by omega
                                        have HDL0 := hide hDL
                                        have hmk := make_bytes DL hDLb
                                        have HG3 : Hid (PB wS (wD.heap.size + 1) ty wD.heap.size (.slice (some ⟨wV.heap.size, 0, none⟩) 0 0) ∧ Below w.heap.size w wS ∧ Sl wS (.slice p3' dl.length c3') (s.drop i) ∧ HM wS wD.heap.size hs ∧ Sl wS (.slice pS sd.length cS) sd) := ⟨(unhide HG2).1.below hbS, bstep (unhide HG2).2.1 hbS, (unhide HG2).2.2.1.below hbS, (unhide HG2).2.2.2.1.below hbS, (unhide HG2).2.2.2.2.below hbS⟩
                                        have c2 : wS.cell? ⟨wD.heap.size + 1, 2, none⟩ = some (.slice (some ⟨wV.heap.size, 0, none⟩) 0 0) := (unhide HG3).1.c2
                                        have f2 : wS.frozen? ⟨wD.heap.size + 1, 2, none⟩ = false := (unhide HG3).1.frz 2
                                        have hlt : wD.heap.size + 1 < wS.heap.size := lt_of_heap (unhide HG3).1
                                        clear hse hE hbS hdl hDL HG2
                                        go_wp2_with fail
                                        refine (unhide HDLN).mono ?_
                                        rintro e1 wS' ⟨rfl, rfl⟩
                                        clear HDLN
                                        have HH : Hid (PB ((wS.setCell ⟨wD.heap.size + 1, 2, none⟩ (.slice (some ⟨wS.heap.size, 0, none⟩) DL DL)).alloc (.cells (madeCells #[.int .u8 0] DL) 5)) (wD.heap.size + 1) ty wD.heap.size (.slice (some ⟨wS.heap.size, 0, none⟩) DL DL) ∧ Below w.heap.size w ((wS.setCell ⟨wD.heap.size + 1, 2, none⟩ (.slice (some ⟨wS.heap.size, 0, none⟩) DL DL)).alloc (.cells (madeCells #[.int .u8 0] DL) 5)) ∧ Sl ((wS.setCell ⟨wD.heap.size + 1, 2, none⟩ (.slice (some ⟨wS.heap.size, 0, none⟩) DL DL)).alloc (.cells (madeCells #[.int .u8 0] DL) 5)) (.slice p3' dl.length c3') (s.drop i) ∧ HM ((wS.setCell ⟨wD.heap.size + 1, 2, none⟩ (.slice (some ⟨wS.heap.size, 0, none⟩) DL DL)).alloc (.cells (madeCells #[.int .u8 0] DL) 5)) wD.heap.size hs ∧ Sl ((wS.setCell ⟨wD.heap.size + 1, 2, none⟩ (.slice (some ⟨wS.heap.size, 0, none⟩) DL DL)).alloc (.cells (madeCells #[.int .u8 0] DL) 5)) (.slice pS sd.length cS) sd ∧
                                            ((wS.setCell ⟨wD.heap.size + 1, 2, none⟩ (.slice (some ⟨wS.heap.size, 0, none⟩) DL DL)).alloc (.cells (madeCells #[.int .u8 0] DL) 5)).heap[wS.heap.size]? = some (.cells (madeCells #[.int .u8 0] DL) 5 (0, 0))) :=
                                          ⟨((unhide HG3).1.setB _).below (balloc (Below.refl _ _) _), balloc ((unhide HG3).2.1.setCell (Nat.le_trans hwds (Nat.le_succ _)) _) _, ((unhide HG3).2.2.1.store c2 _).below (balloc (Below.refl _ _) _), ((unhide HG3).2.2.2.1.setB (fun e0 => by omega) 2 _).below (balloc (Below.refl _ _) _), ((unhide HG3).2.2.2.2.store c2 _).below (balloc (Below.refl _ _) _), by
                                            have h := heap_new (wS.setCell ⟨wD.heap.size + 1, 2, none⟩ (.slice (some ⟨wS.heap.size, 0, none⟩) DL DL)) (.cells (madeCells #[.int .u8 0] DL) 5)
                                            rw [set_size] at h
                                            exact h⟩
                                        have HLOW := hide (And.intro (unhide HG3).2.2.2.2.low (And.intro (unhide HG3).2.2.1.low hwds))
                                        go_upto_region 47 with (fail)
                                        clear c2 f2 hmk HG3
                                        generalize hwH : (wS.setCell ⟨wD.heap.size + 1, 2, none⟩ (.slice (some ⟨wS.heap.size, 0, none⟩) DL DL)).alloc (.cells (madeCells #[.int .u8 0] DL) 5) = wH at HH ⊢
                                        generalize wS.heap.size = db at HH HLOW hlt ⊢
                                        clear hwH
                                        have c2 : wH.cell? ⟨wD.heap.size + 1, 2, none⟩ = some (.slice (some ⟨db, 0, none⟩) DL DL) := (unhide HH).1.c2
                                        go_cut [22, 23] (fun v22 v23 w' => Hid (DecCut (wD.heap.size + 1) wD.heap.size db DL ty hs w (.slice p3' dl.length c3') (s.drop i) sd v22 v23 w'))
                                        case first =>
                                          -- @decode
                                          as_aux_lemma =>
                                          go_region_with (first
                                            | (go_at_call 24; refine (stdEncoding_any _).mono ?_; rintro e1 wI ⟨rfl, hE, hbI⟩
                                               have hP : PB wI (wD.heap.size + 1) ty wD.heap.size (.slice (some ⟨db, 0, none⟩) DL DL) := (show PB wH.drew _ _ _ _ from (unhide HH).1).below hbI
                                               have c2I : wI.cell? ⟨wD.heap.size + 1, 2, none⟩ = some (.slice (some ⟨db, 0, none⟩) DL DL) := hP.c2
                                               have hdc := hide (decode64_any wH.heap.size db DL sd _ _ wI hE ((show Sl wH.drew _ _ from (unhide HH).2.2.2.2.1).below hbI) ((hbI.block db (lt_of_heap (unhide HH).2.2.2.2.2)).trans (unhide HH).2.2.2.2.2) (unhide HDL0) (made_size DL) (fun e0 => by have h1 := lt_of_heap (unhide HH).2.2.2.2.2; omega) (unhide HLOW).1 (by omega))
                                               have HPI := hide (And.intro hP (And.intro hbI hE))
                                               clear hP hbI hE)
                                            | (go_at_call 26; refine (unhide hdc).mono ?_; rintro e2 w2 hp
                                               obtain ⟨nv, ev, rfl, hdcut⟩ := DecCut.of (pb := wD.heap.size + 1) (mb := wD.heap.size) (ty := ty) (hs := hs) (w := w) (rv := .slice p3' dl.length c3') (r := s.drop i) hp (made_size DL) (unhide HPI).1 ((show Below w.heap.size w wH.drew from below_drewN (unhide HH).2.1 1).trans ((unhide HPI).2.1.mono (unhide HH).2.1.size)) ((show Sl wH.drew _ _ from (unhide HH).2.2.1).below (unhide HPI).2.1) ((show HM wH.drew _ _ from (unhide HH).2.2.2.1).below (unhide HPI).2.1) (unhide HLOW).2.1 (by omega) (by omega) (by have := (unhide HLOW).2.2; omega)
                                               have HCUT := hide hdcut
                                               clear hdcut hp hdc HPI c2I))
                                          all_goals (go_wp2_with fail; go_meet; exact HCUT)
                                        case rest =>
                                          -- @decoded
                                          as_aux_lemma =>
                                          obtain ⟨n2, rfl, d1, d2, d3, d4, hcase⟩ := unhide hcut
                                          clear hcut HH HLOW c2
                                          rcases hcase with ⟨rfl, out, ho, hnD, hd, hso⟩ | ⟨⟨k2, rfl⟩, hd⟩
                                          · have c2 : wc.cell? ⟨wD.heap.size + 1, 2, none⟩ = some (.slice (some ⟨db, 0, none⟩) DL DL) := d1.c2
                                            have f2 : wc.frozen? ⟨wD.heap.size + 1, 2, none⟩ = false := d1.frz 2
                                            have HR : Hid (TailOK (wD.heap.size + 1) wD.heap.size ty hs w (.slice p3' dl.length c3') (s.drop i) bd (wc.setCell ⟨wD.heap.size + 1, 2, none⟩ (.slice (some ⟨db, 0, none⟩) n2 DL))) :=
                                              ⟨_, out, d1.setB _, d2.setCell (Nat.le_trans hwds (Nat.le_succ _)) _, d3.store c2 _, d4.setB (fun e0 => by omega) 2 _, hso.store c2 _, by rw [← unhide HSDD]; exact hd, fun p n c h => by injection h with _ _ h3; omega⟩
                                            have hnI : (n2 : Int) ≤ (DL : Int) := by omega
                                            clear ho hd hso d1 d2 d3 d4
                                            go_wp2_with fail
                                            go_meet
                                            exact unhide HR
                                          · have HN : Hid (HInv data (s.drop i) ((e : Int) + 10 - (i : Int))) := HInv.next (unhide HSD) (unhide HEI).symm (unhide HSTP .next (by rw [unhide HGO none (by rw [← unhide HBDD, ← unhide HSDD]; exact hd)])) (by omega) his
                                            have HDD := hide (And.intro d2 d3)
                                            clear hd d1 d2 d3 d4
                                            go_wp2_with fail
                                            exact pem_cont (e := e) (i := i) (unhide HSL) hmr hrl (unhide HDD).2 his rfl (unhide HEL) hsb (unhide HN) (unhide HDD).1
                                      · -- @nobytes
                                        as_aux_lemma =>
                                        have hz : ¬ (0 : Int) < (e : Int) - (i : Int) := by omega
                                        have HR : Hid (TailOK (wD.heap.size + 1) wD.heap.size ty hs w (.slice p3' dl.length c3') (s.drop i) bd wG) := by
                                          refine ⟨_, [], (unhide HG).1, (unhide HG).2.1, (unhide HG).2.2.1, (unhide HG).2.2.2, Sl.empty _ _ _, ?_, fun p n c h => ?_⟩
                                          · rw [unhide HBDD, Nat.sub_eq_zero_of_le (by omega), List.take_zero]
                                            simp [solid, cl, d64]
                                          · injection h with _ _ h3; omega
                                        clear hpos HG
                                        go_wp2_with fail
                                        go_meet
                                        exact unhide HR
                                    case rest =>
                                      -- @end
                                      as_aux_lemma =>
                                      obtain ⟨bv, by_, t1, t2, t3, t4, t5, t6, t7⟩ := unhide hcut
                                      obtain ⟨v3q, hv3q, hs3q⟩ := t3.cutLo (e + 9 - i) (by rw [List.length_drop]; have := unhide HEL; omega)
                                      have e9 : ((e + 9 - i : Nat) : Int) = (e : Int) - (i : Int) + 10 - 1 := by omega
                                      rw [e9] at hv3q
                                      rw [List.drop_drop, show i + (e + 9 - i) = e + 9 by omega] at hs3q
                                      have hgl := hide (getLine_any v3q (s.drop (e + 9)) wc hs3q (by rw [List.length_drop]; omega))
                                      have hdec : Dec data (some ⟨ty, hs, by_, restP (s.drop (e + 9))⟩) := unhide HSD _ (.done (unhide HEI).symm (unhide HSTP (.done ⟨ty, hs, by_, restP (s.drop (e + 9))⟩) (by rw [unhide HGO (some by_) (by rw [← unhide HBDD]; exact t6)])))
                                      have HFIN := hide (And.intro hdec (And.intro t1 (And.intro t2 (And.intro t4 (And.intro t5 t7)))))
                                      clear hs3q t1 t2 t3 t4 t5 t6 t7 e9 hcut hdec
                                      go_wp2_with fail
                                      refine (unhide hgl).mono ?_
                                      rintro e1 wF ⟨vl, vr, rfl, -, hsr, hbF⟩
                                      obtain ⟨t0, t1, t2, t4, t5, t7⟩ := unhide HFIN
                                      have HR : Hid (DecPost data v w (.returned (.tuple #[.pointer (some ⟨wD.heap.size + 1, 0, none⟩), vr])) wF) := ⟨bstep t2 hbF, .inr ⟨⟨ty, hs, by_, restP (s.drop (e + 9))⟩, wD.heap.size + 1, wD.heap.size, bv, vr, t0, rfl, t1.below hbF, t4.below hbF, t5.below hbF, hsr, t7⟩⟩
                                      clear t0 t1 t2 t4 t5 t7 hsr hbF hgl HFIN
                                      go_wp2_with fail
                                      go_ret2
                                      exact unhide HR
                                  · -- @rubbish
                                    as_aux_lemma =>
                                    have hq : ((l18.length : Int) != 0) = true := by
                                      have := List.length_pos_iff.2 h18
                                      rw [bne_iff_ne]; omega
                                    have HN : Hid (HInv data (s.drop i) ((e : Int) + 10 - (i : Int))) := HInv.next (unhide HSD) (unhide HEI).symm (unhide HSTP .next (by
                                      unfold tailF
                                      rw [if_neg (unhide hA'), if_neg (unhide HTL).2.2.2, if_neg (fun h => by rw [← (unhide HTL).2.2.1] at h; exact h18 ((unhide HL18).trans h.2.2))])) (by omega) his
                                    clear h18
                                    go_wp2_with fail
                                    exact pem_cont (e := e) (i := i) (unhide HSL) hmr hrl (unhide HV).2.2.1 his rfl (unhide HEL) hsb (unhide HN) (unhide HV).2.1
end Go.Proofs.YtpjehmblndjknaaDoor
