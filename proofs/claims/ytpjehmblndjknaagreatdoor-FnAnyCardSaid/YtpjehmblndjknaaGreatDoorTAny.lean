/-
  The law FnAny: for all bytes the call returns true and what was handed in reads as it did.
  No condition. The card.
-/
import Derived.Test.YtpjehmblndjknaaGreatDoorTCom
import Derived.StillTailTactics
import Derived.Test.YtpjehmblndjknaaGreatDoorPem
import Derived.Test.YtpjehmblndjknaaGreatDoorCards
import Derived.Test.YtpjehmblndjknaaGreatDoorTie

namespace Go.Proofs.YtpjehmblndjknaaGreatDoor
open Go.RowKit Go.Maps
set_option linter.unusedSimpArgs false
set_option linter.unusedVariables false

set_option maxRecDepth 100000 in
theorem fnAny_big (v : Value) (data : List UInt8) (qd : Option Addr) (cd : Nat) (w : World) (hv : v = .slice qd data.length cd) (hl : 2147483647 < data.length) (hm : data.length ≤ 9223372036854775807) :
    Calls Tryz.prog 4 #[v] w fun e w' => e = .returned (.bool true) ∧ Below w.heap.size w w' := by
  subst hv
  have hi : (2147483647 : Int) < (data.length : Int) := by omega
  go_enter Tryz.func4, Tryz.ntmps4
  go_wp2
  go_ret
  exact ⟨rfl, Below.refl _ _⟩

set_option maxRecDepth 100000 in
set_option maxHeartbeats 4000000 in
theorem fnAny_small (hpem : PemOK) (data : List UInt8) (qd : Option Addr) (cd : Nat) (w : World) (hT : Tabs w) (hS : Sl w (.slice qd data.length cd) data) (hl : data.length ≤ 2147483647) :
    Calls Tryz.prog 4 #[.slice qd data.length cd] w fun e w' => e = .returned (.bool true) ∧ Below w.heap.size w w' := by
  have hdec := hide (decode_any hpem _ data w hS (by omega) hT (fun r hr => by
    have h1 := (hr.ok r rfl).2.1
    have h2 := bulk_len r.hs
    omega))
  have HS := hide hS
  have HT := hide hT
  have hi : ¬ (2147483647 : Int) < (data.length : Int) := by omega
  clear hS hT
  go_enter Tryz.func4, Tryz.ntmps4
  go_wp2_with fail
  refine (unhide hdec).mono ?_
  rintro e w1 ⟨hb1, hcase⟩
  have HB1 := hide hb1
  clear hdec hb1
  rcases hcase with ⟨hd, rfl⟩ | ⟨r, ls, hv, rv, q, bc, hd, rfl, hof, hH, hSb, hSr, hbc⟩
  · -- @none
    obtain ⟨q0, c0, e0, h0, -⟩ := (unhide HS)
    have hb2 : Below w1.heap.size w1 (w1.alloc (.cells #[.string ⟨#[]⟩, .slice none 0 0, .slice none 0 0] 25)) := balloc (Below.refl _ _) _
    obtain ⟨vD, hvD, hsD⟩ := ((unhide HS).below (bstep (unhide HB1) hb2)).cutLo 0 (Nat.zero_le _)
    rw [List.drop_zero] at hsD
    have hSd := (unhide HS).below (bstep (unhide HB1) hb2)
    have HB2 := hide (bstep (unhide HB1) hb2)
    have hnI : (data.length : Int) - (data.length : Int) = 0 := by omega
    clear hb2 h0 hd e0
    go_upto_region 5 with (fail)
    generalize hw2 : w1.alloc (.cells #[.string ⟨#[]⟩, .slice none 0 0, .slice none 0 0] 25) = w2 at HB2 hsD hSd ⊢
    have hblk2 : w2.heap[w1.heap.size]? = some (.cells #[.string ⟨#[]⟩, .slice none 0 0, .slice none 0 0] 25 (0, 0)) := by rw [← hw2]; exact heap_new w1 _
    have HBLK := hide hblk2
    clear hw2 hblk2
    go_cut [55] (fun v55 w' => v55 = .bool false ∧ Hid (Below w2.heap.size w2 w'))
    case first =>
      have k1 : (convert 23 9 vD).run Tryz.prog w2.drew = .ok (.string (bs data)) w2.drew := conv_sl2 hsD w2.drew (drewN_below w2 1)
      have k2 : (convert 23 9 (.slice qd data.length cd)).run Tryz.prog w2.drew = .ok (.string (bs data)) w2.drew := conv_sl2 hSd w2.drew (drewN_below w2 1)
      have k1' : (convert 23 9 vD).run Tryz.prog ({ w2 with drawn := w2.drawn + 1 }) = .ok (.string (bs data)) ({ w2 with drawn := w2.drawn + 1 }) := k1
      have k2' : (convert 23 9 (.slice qd data.length cd)).run Tryz.prog ({ w2 with drawn := w2.drawn + 1 }) = .ok (.string (bs data)) ({ w2 with drawn := w2.drawn + 1 }) := k2
      have hwk := hide (works_any w2.drew)
      clear hsD hSd
      go_still_tail 27, (by kernel_rfl)
      change wpList _ _ _ _ _ w2.drew
      go_wp2_with fail
      refine (unhide hwk).mono ?_
      rintro e w3 ⟨rfl, hb3⟩
      have HF := hide (bstep (drewN_below w2 1) hb3)
      clear hb3 hwk k1 k2 k1' k2'
      go_wp2_with fail
      go_meet
      exact ⟨rfl, unhide HF⟩
    case rest =>
      obtain ⟨rfl, HF⟩ := hcut
      have hblk3 := ((unhide HF).block _ (lt_of_heap (unhide HBLK))).trans (unhide HBLK)
      have HB3 : Hid (Below w.heap.size w wc) := bstep (unhide HB2) (unhide HF)
      have henc := hide (encoded_any [] [] (.slice none 0 0) none 0 [] wc (Hd.nil wc) (Sl.nil wc) (by decide) (fun p hp => by cases hp) (by simp) (by simp) (fun _ => by decide +kernel))
      obtain ⟨c30, c31, c32, -⟩ := cells3 hblk3
      clear hblk3 HBLK HF hsD hSd hvD
      go_wp2_with fail
      refine (unhide henc).mono ?_
      rintro e w4 ⟨hb4, hcase⟩
      have HB4 : Hid (Below w.heap.size w w4) := bstep (unhide HB3) hb4
      rcases hcase with ⟨hpr, rfl⟩ | ⟨hpr, s, rfl⟩
      · cases hpr
      · clear hpr hb4 henc
        go_wp2_with fail
        go_ret
        exact ⟨rfl, unhide HB4⟩
  · -- @some
    have hok := hd.ok r rfl
    obtain ⟨o1, o2, o3, o4, m0, hm0⟩ := hok
    obtain ⟨pr, cr, rfl, hcr, hcc⟩ := hSr
    have hSr : Sl w1 (.slice pr r.rest.length cr) r.rest := ⟨pr, cr, rfl, hcr, hcc⟩
    obtain ⟨rl, hrl⟩ : ∃ x, x = r.rest := ⟨_, rfl⟩
    have hnn : ∃ nn : Nat, data.length = nn + r.rest.length ∧ 0 < nn ∧ data.drop nn = r.rest := by
      refine ⟨data.length - r.rest.length, by omega, by omega, ?_⟩
      rw [hm0, List.length_drop]
      rcases Nat.lt_or_ge m0 data.length with h2 | h2
      · rw [show data.length - (data.length - m0) = m0 by omega]
      · rw [List.drop_of_length_le h2, List.drop_of_length_le (by omega)]
    obtain ⟨nn, hn1, hn2, hn3⟩ := hnn
    have hnI : (data.length : Int) - (r.rest.length : Int) = (nn : Int) := by omega
    have hb2 : Below w1.heap.size w1 (w1.alloc (.cells #[.string (bs r.ty), hv, .slice q r.by_.length bc] 25)) := balloc (Below.refl _ _) _
    obtain ⟨vD, hvD, hsD⟩ := ((unhide HS).below (bstep (unhide HB1) hb2)).cutLo nn (by omega)
    rw [hn3] at hsD
    have hSr2 := hSr.below hb2
    obtain ⟨p5, cap5, rfl, hc5⟩ := hH
    have hH : Hd w1 (.slice p5 ls.length cap5) ls := ⟨p5, cap5, rfl, hc5⟩
    have HO := hide (And.intro hd (And.intro hof (And.intro (hH.below hb2) (And.intro (hSb.below hb2) (And.intro o1 (And.intro o2 (And.intro o3 o4)))))))
    have HB2 := hide (bstep (unhide HB1) hb2)
    have hnlt : (nn : Int) ≤ (data.length : Int) := by omega
    have hn0 : (0 : Int) < (nn : Int) := by omega
    have hn0N : 0 < nn := hn2
    have hnn0 : ¬ nn = 0 := by omega
    have hSr3 := hSr2
    clear hcc hcr hSr hH hSb hc5 hd hof o1 o2 o3 o4 hm0 hrl hb2 hn3 hn1 hn2
    go_upto_region 5 with (fail)
    generalize hw2 : w1.alloc (.cells #[.string (bs r.ty), .slice p5 ls.length cap5, .slice q r.by_.length bc] 25) = w2 at HO HB2 hsD hSr2 ⊢
    have hblk2 : w2.heap[w1.heap.size]? = some (.cells #[.string (bs r.ty), .slice p5 ls.length cap5, .slice q r.by_.length bc] 25 (0, 0)) := by rw [← hw2]; exact heap_new w1 _
    have HBLK := hide hblk2
    clear hw2 hSr3 hblk2
    go_cut [55] (fun v55 w' => v55 = .bool false ∧ Hid (Below w2.heap.size w2 w'))
    case first =>
      have k1 : (convert 23 9 vD).run Tryz.prog w2.drew = .ok (.string (bs r.rest)) w2.drew := conv_sl2 hsD w2.drew (drewN_below w2 1)
      have k2 : (convert 23 9 (.slice pr r.rest.length cr)).run Tryz.prog w2.drew = .ok (.string (bs r.rest)) w2.drew := conv_sl2 hSr2 w2.drew (drewN_below w2 1)
      have k1' : (convert 23 9 vD).run Tryz.prog ({ w2 with drawn := w2.drawn + 1 }) = .ok (.string (bs r.rest)) ({ w2 with drawn := w2.drawn + 1 }) := k1
      have k2' : (convert 23 9 (.slice pr r.rest.length cr)).run Tryz.prog ({ w2 with drawn := w2.drawn + 1 }) = .ok (.string (bs r.rest)) ({ w2 with drawn := w2.drawn + 1 }) := k2
      have hwk := hide (works_any w2.drew)
      clear hsD hSr2
      go_still_tail 27, (by kernel_rfl)
      change wpList _ _ _ _ _ w2.drew
      go_wp2_with fail
      refine (unhide hwk).mono ?_
      rintro e w3 ⟨rfl, hb3⟩
      have HF := hide (bstep (drewN_below w2 1) hb3)
      clear hb3 hwk k1 k2 k1' k2'
      go_wp2_with fail
      go_meet
      have q1 : ((nn : Int) == 0) = false := by rw [beq_eq_false_iff_ne]; omega
      have q2 : decide ((nn : Int) < 0) = false := by simp
      exact ⟨by rw [q1, q2]; rfl, unhide HF⟩
    case rest =>
      obtain ⟨rfl, HF⟩ := hcut
      obtain ⟨hd, hof, hH, hSb, o1, o2, o3, o4⟩ := unhide HO
      have hblk3 := ((unhide HF).block _ (lt_of_heap (unhide HBLK))).trans (unhide HBLK)
      have HB3 : Hid (Below w.heap.size w wc) := bstep (unhide HB2) (unhide HF)
      have hlb := ofMap_bulk hof
      have hll := hof.len
      have hbl := bulk_len r.hs
      have hpb : ∀ p ∈ ls, p.1.length ≤ 2147483647 ∧ p.2.length ≤ 2147483647 := fun p hp => by
        have := bulk_mem (hof.mem hp)
        omega
      have hpl : (pemOut r.ty ls r.by_).length ≤ 30000000000 := by
        have := pemOut_bulk (ty := r.ty) (d := r.by_) (hs := ls)
        omega
      have hH3 := hH.below (unhide HF)
      have hS3 := hSb.below (unhide HF)
      have henc := hide (encoded_any r.ty r.by_ (.slice p5 ls.length cap5) q bc ls wc hH3 hS3 hbc (fun p hp => by have := hpb p hp; omega) (by omega) (by omega) (fun _ => by omega))
      have hlsn : ls.length ≤ 2147483647 := by omega
      obtain ⟨c30, c31, c32, -⟩ := cells3 hblk3
      have HBLK3 := hide hblk3
      have hz3 : w1.heap.size < wc.heap.size := lt_of_heap hblk3
      have HHS := hide (And.intro hH3 hS3)
      generalize r.ty = ty at *
      generalize r.by_ = d at *
      clear hd hof hH hSb o1 o2 o3 o4 hlb hll hbl hpb hblk3 HO HBLK HF hsD hSr2 hvD hH3 hS3
      go_wp2_with fail
      refine (unhide henc).mono ?_
      rintro e w4 ⟨hb4, hcase⟩
      have HB4 : Hid (Below w.heap.size w w4) := bstep (unhide HB3) hb4
      rcases hcase with ⟨hpr, rfl⟩ | ⟨hpr, s, rfl⟩
      rotate_left
      · clear hpr hb4 henc
        go_wp2_with fail
        go_ret
        exact ⟨rfl, unhide HB4⟩
      obtain ⟨hty, hph, hnd⟩ := plainH_of hpr
      have HLAW : Hid (∀ o, Dec (pemOut ty ls d) o → o = some ⟨ty, wlist ls, d, []⟩) := fun o ho => law_back hty hph (by rw [← pemOut_written, List.append_nil]; exact ho)
      have HND := hide hnd
      have hb45 : Below w4.heap.size w4 (Lib.bytesWorld w4 5 (bs (pemOut ty ls d))) := bytesWorld_below w4 5 (bs (pemOut ty ls d))
      generalize pemOut ty ls d = X at *
      have hcv := conv_bl X w4
      have HB5 : Hid (Below w.heap.size w (Lib.bytesWorld w4 5 (bs X))) := bstep (unhide HB4) hb45
      have hb35 : Below wc.heap.size wc (Lib.bytesWorld w4 5 (bs X)) := bstep hb4 hb45
      have HB35 := hide hb35
      have hdec := hide (decode_found hpem _ X (Lib.bytesWorld w4 5 (bs X)) (Apd.conv w4 X).sl (by omega) ((unhide HT).below (unhide HB5)) (ty := ty) (d := d) (rest := []) (unhide HND) (by omega) (unhide HLAW))
      generalize Lib.bytesWorld w4 5 (bs X) = w5 at *
      clear hb4 hb45 hb35 hpr hty hph hnd HLAW HND henc c30 c31 c32
      go_wp2_with fail
      refine (unhide hdec).mono ?_
      rintro e w6 ⟨hb6, hv6, rv6, q6, bc6, ls6, rfl, g1, g2, g3, g4, g5⟩
      clear hdec hcv
      obtain ⟨prv, crv, rfl, -, -⟩ := g4
      obtain ⟨p6, cap6, rfl, hc6⟩ := g1
      have g1 : Hd w6 (.slice p6 ls6.length cap6) ls6 := ⟨p6, cap6, rfl, hc6⟩
      clear hc6
      have hb36 : Below wc.heap.size wc w6 := bstep (unhide HB35) hb6
      have hb67 : Below w6.heap.size w6 (w6.alloc (.cells #[.string (bs ty), .slice p6 ls6.length cap6, .slice q6 d.length bc6] 25)) := balloc (Below.refl _ _) _
      have hb37 := bstep hb36 hb67
      have hblk7 := (hb37.block _ hz3).trans (unhide HBLK3)
      have hgot7 := heap_new w6 (.cells #[.string (bs ty), .slice p6 ls6.length cap6, .slice q6 d.length bc6] 25)
      have HB7 : Hid (Below w.heap.size w (w6.alloc (.cells #[.string (bs ty), .slice p6 ls6.length cap6, .slice q6 d.length bc6] 25))) := bstep (unhide HB3) hb37
      have hg1 := g1.below hb67
      have hg3 := g3.below hb67
      have hH7 := (unhide HHS).1.below hb37
      have hS7 := (unhide HHS).2.below hb37
      clear hb6 hb36 hb67 hb37 g1 g3 HBLK3 HHS HB35
      go_upto_region 11 with (fail)
      generalize hw7 : w6.alloc (.cells #[.string (bs ty), .slice p6 ls6.length cap6, .slice q6 d.length bc6] 25) = w7 at HB7 hg1 hg3 hH7 hS7 hblk7 hgot7 ⊢
      clear hw7
      generalize w6.heap.size = g at hgot7 ⊢
      generalize w1.heap.size = b0 at hblk7 ⊢
      have hlsn6 : ls6.length ≤ 4294967295 := by rw [sameH_len g2]; omega
      have G2 := hide g2
      have HG7 := hide (And.intro hg1 (And.intro hg3 (And.intro hH7 hS7)))
      have HSP : ∀ W, Below w7.heap.size w7 W → W.cell? ⟨g, 0, none⟩ = some (.string (bs ty)) ∧ W.cell? ⟨g, 1, none⟩ = some (.slice p6 ls6.length cap6) ∧ W.cell? ⟨g, 2, none⟩ = some (.slice q6 d.length bc6) ∧ W.cell? ⟨b0, 0, none⟩ = some (.string (bs ty)) ∧ W.cell? ⟨b0, 1, none⟩ = some (.slice p5 ls.length cap5) ∧ W.cell? ⟨b0, 2, none⟩ = some (.slice q d.length bc) := fun W hW => by
        obtain ⟨c0, c1, c2, -⟩ := cells3 ((hW.block _ (lt_of_heap hgot7)).trans hgot7)
        obtain ⟨e0, e1, e2, -⟩ := cells3 ((hW.block _ (lt_of_heap hblk7)).trans hblk7)
        exact ⟨c0, c1, c2, e0, e1, e2⟩
      have HSP' := hide HSP
      obtain ⟨c0, c1, c2, e0, e1, e2⟩ := HSP _ (Below.refl _ _)
      clear HSP hg1 hg3 hH7 hS7 hblk7 hgot7 g2
      go_cut [2] (fun v4 w' => v4 = .bool true ∧ Hid (Below w.heap.size w w'))
      case first =>
        go_region_held3 (fun w' => w'.cell? ⟨g, 0, none⟩ = some (.string (bs ty)) ∧ w'.cell? ⟨g, 1, none⟩ = some (.slice p6 ls6.length cap6) ∧ w'.cell? ⟨g, 2, none⟩ = some (.slice q6 d.length bc6) ∧ w'.cell? ⟨b0, 0, none⟩ = some (.string (bs ty)) ∧ w'.cell? ⟨b0, 1, none⟩ = some (.slice p5 ls.length cap5) ∧ w'.cell? ⟨b0, 2, none⟩ = some (.slice q d.length bc))
          (first | exact unhide HSP' _ (unhide HBc) | exact unhide HSP' _ (unhide HBb) | exact unhide HSP' _ (unhide HBa) | exact unhide HSP' _ (drewN_below w7 1) | go_keep)
          (first
            | (go_at_call_of 17 (Value.slice p6 ls6.length cap6)
               refine (block_any ty _ ls6 q6 d.length bc6 _ ((unhide HG7).1.below (by first | exact drewN_below w7 1 | exact unhide HBb)) hlsn6).mono ?_
               rintro e wA ⟨vA, rfl, hA, hbA⟩
               have HBa : Hid (Below w7.heap.size w7 wA) := by first | exact bstep (drewN_below w7 1) hbA | exact bstep (unhide HBb) hbA
               have HA := hide hA
               have HBA := hide hbA
               clear hA hbA)
            | (go_at_call_of 17 (Value.slice p5 ls.length cap5)
               refine (block_any ty _ ls q d.length bc _ ((unhide HG7).2.2.1.below (by first | exact drewN_below w7 1 | exact unhide HBa)) (by omega)).mono ?_
               rintro e wB ⟨vB, rfl, hB, hbB⟩
               have HBb : Hid (Below w7.heap.size w7 wB) := by first | exact bstep (drewN_below w7 1) hbB | exact bstep (unhide HBa) hbB
               have HB := hide hB
               have HBB := hide hbB
               clear hB hbB)
            | (go_at_call 16
               refine (sameB_any ty d vA vB q6 q bc6 bc ls6 ls _ (by first | exact unhide HA | exact (unhide HA).below (unhide HBB)) (by first | exact unhide HB | exact (unhide HB).below (unhide HBA)) ((unhide HG7).2.1.below (by first | exact unhide HBa | exact unhide HBb)) ((unhide HG7).2.2.2.below (by first | exact unhide HBa | exact unhide HBb)) hlsn6 (by omega) (unhide G2)).mono ?_
               rintro e wC ⟨rfl, hbC⟩
               have HBc : Hid (Below w7.heap.size w7 wC) := by first | exact bstep (unhide HBb) hbC | exact bstep (unhide HBa) hbC
               clear hbC))
        all_goals (
          have HF := hide (bstep (unhide HB7) (unhide HBc))
          go_wp2_with fail
          go_meet
          exact ⟨rfl, unhide HF⟩)
      case rest =>
        obtain ⟨rfl, HF⟩ := hcut
        go_wp2_with fail
        go_ret
        exact ⟨rfl, unhide HF⟩

theorem fnAny_walk (hpem : PemOK) (data : List UInt8) (qd : Option Addr) (cd : Nat) (w : World) (hT : Tabs w) (hS : Sl w (.slice qd data.length cd) data) (hm : data.length ≤ 9223372036854775807) :
    Calls Tryz.prog 4 #[.slice qd data.length cd] w fun e w' => e = .returned (.bool true) ∧ Below w.heap.size w w' := by
  rcases Nat.lt_or_ge 2147483647 data.length with h | h
  · exact fnAny_big _ data qd cd w rfl h hm
  · exact fnAny_small hpem data qd cd w hT hS h
end Go.Proofs.YtpjehmblndjknaaGreatDoor

namespace Go.Proofs.YtpjehmblndjknaaGreatDoor.fnAny
open Go.ChangeShapes Go.WideShapes Go.ChangeAt Go.RowKit
open Go.ChangeMaps (open_string shut_string)
set_option linter.unusedVariables false

theorem own : ownKnob Tryz.prog.godebug = none := by kernel_rfl
theorem laidOut : laidOutB Tryz.prog = true := by kernel_rfl

set_option maxRecDepth 100000 in
theorem contract (H : Type) (enc : TypeId × Value → H) (W : World) (base : Nat) (args : Array Value) (ds gs : List (DataW H)) (before : List MemPlace)
    (hval0 : ∀ (j : Nat) t v, Tryz.f4.params[j]? = some t → args[j]? = some v → Value.okWide Tryz.prog W .any base t v)
    (hW : DataW.Whole enc Tryz.prog Tryz.f4.params.toList Rows.fnAnySpec.vars false W args.toList ds gs before) (hL : laidMetH Tryz.prog laidL W) :
    Calls Tryz.prog 4 args W fun e W' => ∃ v, e = .returned v ∧ Rows.fnAnySpec.post enc Tryz.prog Tryz.f4 false true false false W args v W' := by
  have hval : ∀ (j : Nat) t v, Tryz.f4.params[j]? = some t → args[j]? = some v → Value.okWide Tryz.prog W .any base t v := hval0
  have hW' := hW
  obtain ⟨p, q, hA0, hV, rfl, hfz, hnd⟩ := hW
  have hA : DataW.TrodAll enc Tryz.prog W 0 (fun _ => true) true Tryz.f4.params.toList args.toList ds p := hA0
  rw [Tryz.params4] at hA hval
  obtain ⟨v0, vs0, d0, ds0, p0, pq0, hargs, rfl, rfl, h0, r0⟩ := trodAll_cons hA
  obtain ⟨rfl, rfl, rfl⟩ := trodAll_nil r0
  obtain rfl : args = #[v0] := by cases args; simp_all
  obtain ⟨rfl, rfl⟩ := trodVars_none hV
  have k0 := h0
  have lt0 : ∀ x ∈ p0, x.block < W.heap.size := by obtain ⟨m, hm⟩ := k0; exact DataW.trod_lt m _ _ _ hm
  obtain ⟨q0, bc0, l0, rfl, e01, e02, e04, e05⟩ := open_bytes_arg (hval 0 23 v0 rfl rfl) h0
  have e03 : l0.length ≤ 9223372036854775807 := by omega
  clear hA0 hval0
  have hw := fnAny_walk (fun v data w hs hl hT => pemDecode_any v data w hs hl hT) l0 q0 bc0 W (tabs_of hL) e01 e03
  refine hw.mono fun e W' ⟨he, bel⟩ => ?_
  subst he
  have t0 := Below.trod laidOut (by kernel_rfl) (of_decide_eq_true (by kernel_rfl)) k0 bel lt0
  exact ⟨_, rfl, _, _, _, [], _, [], hW', trodAll_mk1 (shut_bool Tryz.underlying4 _), (trodAll_cons_mk t0 trodAll_mk0), rfl, bel.frame _, fun h => by cases h⟩

theorem reads (os : Os) {H : Type} (enc : TypeId × Value → H) : ∃ places, DataW.whole enc Tryz.prog ((laidWorld os).forCall (fun _ _ => 0) ⟨#[], #[.slice none 0 0], []⟩).memory Tryz.f4.params.toList Rows.fnAnySpec.vars false #[Value.slice none 0 0].toList 8 = some ([.nil], [], places) :=
  ⟨[], by kernel_rfl⟩

set_option maxRecDepth 100000 in
theorem lifted (os : Os) (started : os.Started) (H : Type) (enc : TypeId × Value → H) (F : Stop.Interp) :
    ReturnsInHanded {} Tryz.checked os 4 .any ((OpenSpec.ofChange Rows.fnAnySpec).preRow enc Tryz.prog Tryz.f4 Rows.fnAnyRow.domain false Rows.fnAnyRow.laid) (((OpenSpec.ofChange Rows.fnAnySpec).at F).post enc Tryz.prog Tryz.f4 false true false false) := by
  obtain ⟨places, hx⟩ := reads os enc
  refine returnsInHanded_of_row (C := Tryz.checked) (s := OpenSpec.ofChange Rows.fnAnySpec) own started (by kernel_rfl) Tryz.func4
    (witness_row_atRef (enc := enc) (C := Tryz.checked) false (laidWorld os) #[.slice none 0 0] rfl (by kernel_rfl) (by kernel_rfl) (by kernel_rfl)
      (OpenSpec.preRow_of_cond 8 hx (by kernel_rfl) (fun k hk => by cases hk) (by kernel_rfl) (laid_met os _))) ?_
  intro W base args ds gs before hval hW _ hcond _ hL _ _
  exact contract H enc W base args ds gs before hval hW hL

theorem said : Rows.FnAnySaid :=
  OpenClaim.holds_of_cond 4 Tryz.f4 rfl rfl rfl rfl rfl rfl rfl ⟨rfl, rfl, rfl, rfl, rfl⟩ rfl rfl rfl rfl rfl (by kernel_rfl) Tryz.func4 (by kernel_rfl)
    (of_decide_eq_true (by kernel_rfl)) (by unfold Func.isWrapper; first | (rw [if_pos (by decide +kernel)]; kernel_rfl) | (rw [if_neg (by decide +kernel)]; exact ⟨rfl, rfl⟩))
    (fun os started H enc _ F => by rw [OpenClaim.pre_eq_preRow]; exact lifted os started H enc F)

/-- No parameter wants a stand-in; the program's own looks are off: what the card asks. -/
theorem plain (f : FuncId) (fn : Func) (hf : Tryz.pinned.checked.prog.funcNamed "pemblocks/laws.FnAny" = some f) (hfn : Tryz.pinned.checked.prog.funcs[f]? = some fn) :
    false = Tryz.pinned.checked.prog.looks [] ∧ ∀ (j : Nat) t, fn.params[j]? = some t → Tryz.pinned.checked.prog.wantsStandIn t = false := by
  obtain rfl : f = 4 := Option.some.inj ((show Tryz.prog.funcNamed "pemblocks/laws.FnAny" = some 4 by kernel_rfl).symm.trans hf) |>.symm
  obtain rfl : fn = Tryz.f4 := (Option.some.inj (Tryz.func4.symm.trans hfn)).symm
  refine ⟨by kernel_rfl, fun j t ht => ?_⟩
  rw [Tryz.params4] at ht
  have hm := Array.mem_of_getElem? ht
  simp at hm
  subst hm
  exact (show Tryz.prog.wantsStandIn 23 = false by kernel_rfl)
end Go.Proofs.YtpjehmblndjknaaGreatDoor.fnAny
namespace Go.Proofs.YtpjehmblndjknaaGreatDoor
theorem fnAny_card : Rows.FnAnyCardSaid :=
  Claim7.holds_tied_plain_at .later [] _ _ _ _ fnAny.said (fun _ h => by cases h) (by kernel_rfl) (fun _ h => by cases h) fnAny_row_tie rfl ⟨rfl, rfl⟩ (by kernel_rfl) rfl fnAny.plain (by kernel_rfl)
#print axioms fnAny_card
end Go.Proofs.YtpjehmblndjknaaGreatDoor
