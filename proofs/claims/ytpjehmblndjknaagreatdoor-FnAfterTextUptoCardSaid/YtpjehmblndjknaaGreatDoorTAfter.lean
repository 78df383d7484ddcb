/-
  The law FnAfterText, where what is handed in is of the given bulk at most: for every text, block and rest the call returns true and what was handed in reads as it did.
  Its one condition is the second form's own: the bulk of what is handed in. The card.
-/
import Derived.Test.YtpjehmblndjknaaGreatDoorStr
import Derived.Test.YtpjehmblndjknaaGreatDoorRows
import Derived.Lib.Index
import Derived.Handy
import Derived.Outline
import Derived.Test.YtpjehmblndjknaaGreatDoorTCom
import Derived.Deep.RegionHeld3
import Derived.Deep.RegionWith
import Derived.Deep.DeepCutAuto
import Derived.Test.YtpjehmblndjknaaGreatDoorPem
import Derived.Test.YtpjehmblndjknaaGreatDoorCards
import Derived.Test.YtpjehmblndjknaaGreatDoorTie

namespace Go.Proofs.YtpjehmblndjknaaGreatDoor
open Go.RowKit
set_option linter.unusedSimpArgs false
set_option linter.unusedVariables false

/-- what stands somewhere in s. -/
def hasB (s what : List UInt8) : Bool := (List.range (s.length + 1)).any fun j => Lib.occAt s what j
theorem hasB_no {s what : List UInt8} (hne : what ≠ []) (h : hasB s what = false) : ∀ j, Lib.occAt s what j = false := by
  intro j
  unfold hasB at h
  rw [List.any_eq_false] at h
  rcases Nat.lt_or_ge j (s.length + 1) with h1 | h1
  · exact Bool.eq_false_iff.2 (h j (List.mem_range.2 h1))
  · refine Bool.eq_false_iff.2 fun h2 => ?_
    rcases Lib.occAt_room h2 with h3 | h3
    · omega
    · exact hne h3
theorem hasB_yes {s what : List UInt8} {j : Nat} (hj : j ≤ s.length) (h : Lib.occAt s what j = true) : hasB s what = true := by
  unfold hasB
  rw [List.any_eq_true]
  exact ⟨j, List.mem_range.2 (by omega), h⟩
theorem hasB_none {s what : List UInt8} (hne : what ≠ []) (h : ∀ j, j + what.length ≤ s.length → Lib.occAt s what j = false) : hasB s what = false := by
  unfold hasB
  rw [List.any_eq_false]
  intro j _ h2
  rcases Lib.occAt_room h2 with h3 | h3
  · rw [h j h3] at h2; cases h2
  · exact hne h3

theorem occ_extract {s what : List UInt8} {j : Nat} (hj : j + what.length ≤ s.length) : (List.drop j (List.take (j + what.length) s) == what) = Lib.occAt s what j := by
  rw [Lib.occAt_iff_take s what j hj, List.drop_take, Nat.add_sub_cancel_left]

set_option maxRecDepth 100000 in
set_option maxHeartbeats 800000 in
theorem has_any (s what : List UInt8) (w : World) (hs : s.length ≤ 281474976710656) (hw : what.length ≤ 281474976710656) (hne : what ≠ []) :
    Calls Tryz.prog 13 #[.string (bs s), .string (bs what)] w fun e w' => e = .returned (.bool (hasB s what)) ∧ w' = w := by
  have HNE := hide hne
  clear hne
  go_enter Tryz.func13, Tryz.ntmps13
  go_wp2_with fail
  go_loop [5] (fun vi => ∃ k : Nat, k ≤ s.length + 1 ∧ vi = .int .i64 k ∧ Hid (∀ j, j < k → Lib.occAt s what j = false)) (fun vi => s.length + 1 - (intOf vi).toNat)
  case atStart => exact ⟨0, Nat.zero_le _, rfl, fun j h => absurd h (by omega)⟩
  case round =>
    obtain ⟨k, hk, rfl, HA⟩ := hrel
    by_cases hlt : k + what.length ≤ s.length
    · have ho := occ_extract hlt
      have hi : (k : Int) + (what.length : Int) ≤ (s.length : Int) := by omega
      cases hq : Lib.occAt s what k with
      | true =>
        have HR := hide (hasB_yes (by omega) hq)
        rw [hq] at ho
        clear hq
        go_wp2_with fail
        go_ret
        rw [unhide HR]
        exact ⟨rfl, rfl⟩
      | false =>
        have HA2 : Hid (∀ j, j < k + 1 → Lib.occAt s what j = false) := by
          intro j hj
          by_cases e : j = k
          · subst e; exact hq
          · exact unhide HA j (by omega)
        rw [hq] at ho
        clear hq
        go_wp2_with fail
        refine ⟨⟨k + 1, by omega, by go_num, HA2⟩, ?_⟩
        simp [intOf]; omega
    · have hi : ¬ (k : Int) + (what.length : Int) ≤ (s.length : Int) := by omega
      have HR := hide (hasB_none (unhide HNE) (fun j hj => unhide HA j (by omega)))
      go_wp2_with fail
      go_ret
      rw [unhide HR]
      exact ⟨rfl, rfl⟩
end Go.Proofs.YtpjehmblndjknaaGreatDoor

namespace Go.Proofs.YtpjehmblndjknaaGreatDoor
open Go.RowKit Go.Maps
set_option linter.unusedSimpArgs false
set_option linter.unusedVariables false

set_option maxRecDepth 100000 in
set_option maxHeartbeats 4000000 in
theorem fnAfter_walk (hpem : PemOK) (before ty d rest : List UInt8) (hv : Value) (q qr : Option Addr) (bc rc : Nat) (hs : Hdrs) (w : World) (hT : Tabs w) (hH : Hd w hv hs) (hS : Sl w (.slice q d.length bc) d) (hbc : bc ≤ 9223372036854775807) (hR : Sl w (.slice qr rest.length rc) rest)
   (h1 : ty.length ≤ 1048576) (hn : hs.length ≤ 1048576) (hx : ∀ p ∈ hs, p.1.length ≤ 1048576 ∧ p.2.length ≤ 1048576) (hd : d.length ≤ 1048576) (hr : rest.length ≤ 1048576) (hbf : before.length ≤ 1048576) :
    Calls Tryz.prog 3 #[.string (bs before), .agg #[.string (bs ty), hv, .slice q d.length bc], .slice qr rest.length rc] w fun e w' => e = .returned (.bool true) ∧ Below w.heap.size w w' := by
  have hb0 : Below w.heap.size w (w.alloc (.cells #[.string (bs ty), hv, .slice q d.length bc] 25)) := balloc (Below.refl _ _) _
  have hfit := zzFits1_any ty d hv _ hs _ (hH.below hb0) (hS.below hb0) (by omega) (by omega) (by omega) (fun p hp => by have := hx p hp; omega)
  rw [World.size_alloc, fits_sm h1 hn hx hd] at hfit
  have HF := hide hfit
  have HH := hide hH
  have HS := hide hS
  have HR := hide hR
  have HX := hide hx
  have HT := hide hT
  have hpl := pemOut_bound h1 (by omega) hd hx
  obtain ⟨p, cap, rfl, _⟩ := hH
  clear hfit hb0 hS hx hR hT
  go_enter Tryz.func3, Tryz.ntmps3
  go_wp2_with fail
  refine (unhide HF).mono ?_
  rintro e w1 ⟨rfl, hb1⟩
  have HB1 : Hid (Below w.heap.size w w1) := (balloc (Below.refl _ _) _).trans (hb1.mono (by omega))
  have hz1 : w.heap.size < w1.heap.size := by have := hb1.size; rw [World.size_alloc] at this; omega
  have hblk1 : w1.heap[w.heap.size]? = some (.cells #[.string (bs ty), .slice p hs.length cap, .slice q d.length bc] 25 (0, 0)) := by
    rw [hb1.block _ (by omega)]; exact heap_new w _
  obtain ⟨c10, c11, c12, -⟩ := cells3 hblk1
  have henc := hide (encoded_any ty d (.slice p hs.length cap) q bc hs w1 ((unhide HH).below (unhide HB1)) ((unhide HS).below (unhide HB1)) hbc (fun p hp => by have := unhide HX p hp; omega) (by omega) (by omega) (fun _ => by omega))
  have HBLK1 := hide hblk1
  clear hb1 HF hblk1
  go_wp2_with fail
  refine (unhide henc).mono ?_
  rintro e w2 ⟨hb2, hcase⟩
  have HB2 : Hid (Below w.heap.size w w2) := bstep (unhide HB1) hb2
  have hblk2 := (hb2.block _ hz1).trans (unhide HBLK1)
  have hz2 : w.heap.size < w2.heap.size := lt_of_heap hblk2
  have HBLK2 := hide hblk2
  clear henc hb2 hblk2 HBLK1 c10 c11 c12
  rcases hcase with ⟨hpr, rfl⟩ | ⟨hpr, s, rfl⟩
  rotate_left
  · have hwk := hide (works_any w2)
    clear hpr
    go_wp2_with fail
    refine (unhide hwk).mono ?_
    rintro e w7 ⟨rfl, hb7⟩
    have HB7 : Hid (Below w.heap.size w w7) := bstep (unhide HB2) hb7
    clear hb7 hwk
    go_wp2
    go_ret
    exact ⟨rfl, unhide HB7⟩
  · have hhas := has_any before dashP w2 (by omega) (by decide) (by decide)
    rw [show bs dashP = ⟨#[45, 45, 45, 45, 45]⟩ from rfl] at hhas
    obtain ⟨hb, hhb⟩ : ∃ x, x = hasB before dashP := ⟨_, rfl⟩
    rw [← hhb] at hhas
    have HHAS := hide hhas
    have HPR := hide (And.intro hpr hhb)
    clear hhas hpr hhb
    go_wp2_with fail
    refine (unhide HHAS).mono ?_
    rintro e w2 ⟨rfl, rfl⟩
    clear HHAS
    cases hb with
    | true =>
      have hwk := hide (works_any w2)
      clear HPR
      go_wp2_with fail
      refine (unhide hwk).mono ?_
      rintro e w7 ⟨rfl, hb7⟩
      have HB7 : Hid (Below w.heap.size w w7) := bstep (unhide HB2) hb7
      clear hb7 hwk
      go_wp2
      go_ret
      exact ⟨rfl, unhide HB7⟩
    | false =>
    obtain ⟨hpr, hhb⟩ := unhide HPR
    obtain ⟨hty, hph, hnd⟩ := plainH_of hpr
    have hno := hasB_no (by decide) hhb.symm
    obtain ⟨Y, hY⟩ : ∃ Y, Y = before ++ 10 :: pemOut ty hs d := ⟨_, rfl⟩
    have hYl : Y.length ≤ 3000002000000 := by rw [hY]; simp only [List.length_append, List.length_cons]; omega
    have hcv : (convert 9 23 (.string (bs (before ++ 10 :: pemOut ty hs d)))).run Tryz.prog w2 = .ok (.slice (some ⟨w2.heap.size, 0, none⟩) Y.length (grownCap w2 Y.length 0 5)) (Lib.bytesWorld w2 5 (bs Y)) := by rw [← hY]; exact conv_bl Y w2
    have hB12 : Below w.heap.size w (Lib.bytesWorld w2 5 (bs Y)) := bstep (unhide HB2) (bytesWorld_below w2 5 (bs Y))
    obtain ⟨v4, w4, hr4, ha4, hb4⟩ := append_apd 23 (Apd.conv w2 Y) (src_sl ((unhide HR).below hB12)) (by rw [Lib.bytesWorld_size]; omega) (by omega)
    have hb24 : Below w2.heap.size w2 w4 := (bytesWorld_below w2 5 (bs Y)).trans hb4
    have HB4 : Hid (Below w.heap.size w w4) := bstep (unhide HB2) hb24
    have hblk4 := (hb24.block _ hz2).trans (unhide HBLK2)
    have HBLK4 := hide hblk4
    have hdec := hide (decode_found hpem v4 _ w4 ha4.sl (by rw [List.length_append]; omega) ((unhide HT).below (unhide HB4)) (ty := ty) (d := d) (rest := rest) hnd (by omega) (fun o ho => law_after hno hty hph (by rw [← pemOut_written]; rw [hY] at ho; simpa using ho)))
    generalize pemOut ty hs d = X at *
    clear hno hhb HPR hY
    clear ha4 hb4 hb24 hblk4 hB12 hpr hty hph hnd HBLK2 hYl
    go_wp2_with (first
      | (at_builtin; refine Lib.wpList_append_run_sl _ rfl _ _ 23 rfl _ _ rfl rfl hr4 ?_)
      | fail)
    refine (unhide hdec).mono ?_
    rintro e w5 ⟨hb5, hv5, rv, q5, bc5, ls, rfl, g1, g2, g3, g4, g5⟩
    clear hdec hcv hr4
    obtain ⟨p5, cap5, rfl, hc5⟩ := g1
    have g1 : Hd w5 (.slice p5 ls.length cap5) ls := ⟨p5, cap5, rfl, hc5⟩
    clear hc5
    have hblk5 := (hb5.block _ (lt_of_heap (unhide HBLK4))).trans (unhide HBLK4)
    have hb56 : Below w5.heap.size w5 (w5.alloc (.cells #[.string (bs ty), .slice p5 ls.length cap5, .slice q5 d.length bc5] 25)) := balloc (Below.refl _ _) _
    have hblk6 := (hb56.block _ (lt_of_heap hblk5)).trans hblk5
    have hgot6 := heap_new w5 (.cells #[.string (bs ty), .slice p5 ls.length cap5, .slice q5 d.length bc5] 25)
    have HB6 : Hid (Below w.heap.size w (w5.alloc (.cells #[.string (bs ty), .slice p5 ls.length cap5, .slice q5 d.length bc5] 25))) := bstep (bstep (unhide HB4) hb5) hb56
    have hg1 := g1.below hb56
    have hg3 := g3.below hb56
    have hg4 := g4.below hb56
    have hH6 := (unhide HH).below (unhide HB6)
    have hS6 := (unhide HS).below (unhide HB6)
    have hR6 := (unhide HR).below (unhide HB6)
    clear hblk5 hb56 hb5 g1 g3 g4 HBLK4
    go_upto_region 7 with (fail)
    generalize hw6 : w5.alloc (.cells #[.string (bs ty), .slice p5 ls.length cap5, .slice q5 d.length bc5] 25) = w6 at HB6 hg1 hg3 hg4 hH6 hS6 hR6 hblk6 hgot6 ⊢
    clear hw6
    generalize w5.heap.size = g at hgot6 ⊢
    have HKP : Hid (∀ W, Below w6.heap.size w6 W → W.heap[g]? = some (.cells #[.string (bs ty), .slice p5 ls.length cap5, .slice q5 d.length bc5] 25 (0, 0)) ∧ W.heap[w.heap.size]? = some (.cells #[.string (bs ty), .slice p hs.length cap, .slice q d.length bc] 25 (0, 0))) := fun W hW => ⟨(hW.block _ (lt_of_heap hgot6)).trans hgot6, (hW.block _ (lt_of_heap hblk6)).trans hblk6⟩
    have HG6 := hide (And.intro hg1 (And.intro hg3 (And.intro hg4 (And.intro hH6 (And.intro hS6 hR6)))))
    have G2 := hide g2
    clear hg1 hg3 hg4 hH6 hS6 hR6 hblk6 hgot6 g2
    go_cut [6] (fun v4 w' => v4 = .bool true ∧ Hid (Below w.heap.size w w'))
    case first =>
      have HSP : ∀ W, Below w6.heap.size w6 W → W.cell? ⟨g, 0, none⟩ = some (.string (bs ty)) ∧ W.cell? ⟨g, 1, none⟩ = some (.slice p5 ls.length cap5) ∧ W.cell? ⟨g, 2, none⟩ = some (.slice q5 d.length bc5) ∧ W.cell? ⟨w.heap.size, 0, none⟩ = some (.string (bs ty)) ∧ W.cell? ⟨w.heap.size, 1, none⟩ = some (.slice p hs.length cap) ∧ W.cell? ⟨w.heap.size, 2, none⟩ = some (.slice q d.length bc) ∧ (convert 23 9 rv).run Tryz.prog W = .ok (.string (bs rest)) W ∧ (convert 23 9 (.slice qr rest.length rc)).run Tryz.prog W = .ok (.string (bs rest)) W := fun W hW => by
        obtain ⟨k1, k2⟩ := unhide HKP W hW
        obtain ⟨c0, c1, c2, -⟩ := cells3 k1
        obtain ⟨e0, e1, e2, -⟩ := cells3 k2
        exact ⟨c0, c1, c2, e0, e1, e2, conv_sl2 (unhide HG6).2.2.1 W hW, conv_sl2 (unhide HG6).2.2.2.2.2 W hW⟩
      have HSP' := hide HSP
      obtain ⟨c0, c1, c2, e0, e1, e2, k1, k2⟩ := HSP _ (Below.refl _ _)
      have hlsn : ls.length ≤ 4294967295 := by rw [sameH_len (unhide G2)]; omega
      clear HSP HKP
      go_region_held3 (fun w' => w'.cell? ⟨g, 0, none⟩ = some (.string (bs ty)) ∧ w'.cell? ⟨g, 1, none⟩ = some (.slice p5 ls.length cap5) ∧ w'.cell? ⟨g, 2, none⟩ = some (.slice q5 d.length bc5) ∧ w'.cell? ⟨w.heap.size, 0, none⟩ = some (.string (bs ty)) ∧ w'.cell? ⟨w.heap.size, 1, none⟩ = some (.slice p hs.length cap) ∧ w'.cell? ⟨w.heap.size, 2, none⟩ = some (.slice q d.length bc) ∧ (convert 23 9 rv).run Tryz.prog w' = .ok (.string (bs rest)) w' ∧ (convert 23 9 (.slice qr rest.length rc)).run Tryz.prog w' = .ok (.string (bs rest)) w')
        (first | exact unhide HSP' _ (unhide HBc) | exact unhide HSP' _ (unhide HBb) | exact unhide HSP' _ (unhide HBa) | exact unhide HSP' _ (drewN_below w6 1) | go_keep)
        (first
          | (go_at_call_of 17 (Value.slice p5 ls.length cap5)
             refine (block_any ty _ ls q5 d.length bc5 _ ((unhide HG6).1.below (by first | exact drewN_below w6 1 | exact unhide HBb)) hlsn).mono ?_
             rintro e wA ⟨vA, rfl, hA, hbA⟩
             have HBa : Hid (Below w6.heap.size w6 wA) := by first | exact bstep (drewN_below w6 1) hbA | exact bstep (unhide HBb) hbA
             have HA := hide hA
             have HBA := hide hbA
             clear hA hbA)
          | (go_at_call_of 17 (Value.slice p hs.length cap)
             refine (block_any ty _ hs q d.length bc _ ((unhide HG6).2.2.2.1.below (by first | exact drewN_below w6 1 | exact unhide HBa)) (by omega)).mono ?_
             rintro e wB ⟨vB, rfl, hB, hbB⟩
             have HBb : Hid (Below w6.heap.size w6 wB) := by first | exact bstep (drewN_below w6 1) hbB | exact bstep (unhide HBa) hbB
             have HB := hide hB
             have HBB := hide hbB
             clear hB hbB)
          | (go_at_call 16
             refine (sameB_any ty d vA vB q5 q bc5 bc ls hs _ (by first | exact unhide HA | exact (unhide HA).below (unhide HBB)) (by first | exact unhide HB | exact (unhide HB).below (unhide HBA)) ((unhide HG6).2.1.below (by first | exact unhide HBa | exact unhide HBb)) ((unhide HG6).2.2.2.2.1.below (by first | exact unhide HBa | exact unhide HBb)) hlsn (by omega) (unhide G2)).mono ?_
             rintro e wC ⟨rfl, hbC⟩
             have HBc : Hid (Below w6.heap.size w6 wC) := by first | exact bstep (unhide HBb) hbC | exact bstep (unhide HBa) hbC
             clear hbC))
      all_goals (
        have HF := hide (bstep (unhide HB6) (unhide HBc))
        go_wp2_with fail
        go_meet
        exact ⟨rfl, unhide HF⟩)
    case rest =>
      obtain ⟨rfl, HF⟩ := hcut
      go_wp2_with fail
      go_ret
      exact ⟨rfl, unhide HF⟩
end Go.Proofs.YtpjehmblndjknaaGreatDoor

namespace Go.Proofs.YtpjehmblndjknaaGreatDoor.fnAfterText
open Go.ChangeShapes Go.WideShapes Go.ChangeAt Go.RowKit
open Go.ChangeMaps (open_string shut_string)
set_option linter.unusedVariables false

theorem own : ownKnob Tryz.prog.godebug = none := by kernel_rfl
theorem laidOut : laidOutB Tryz.prog = true := by kernel_rfl

set_option maxRecDepth 100000 in
theorem contract (H : Type) (enc : TypeId × Value → H) (W : World) (base : Nat) (args : Array Value) (ds gs : List (DataW H)) (before : List MemPlace)
    (hval0 : ∀ (j : Nat) t v, Tryz.f3.params[j]? = some t → args[j]? = some v → Value.okWide Tryz.prog W .any base t v)
    (hW : DataW.Whole enc Tryz.prog Tryz.f3.params.toList Rows.fnAfterTextSpec.vars false W args.toList ds gs before) (hk : Rows.uptoSmall H (ds ++ gs) = true) (hL : laidMetH Tryz.prog laidL W) :
    Calls Tryz.prog 3 args W fun e W' => ∃ v, e = .returned v ∧ Rows.fnAfterTextSpec.post enc Tryz.prog Tryz.f3 false true false false W args v W' := by
  have hval : ∀ (j : Nat) t v, Tryz.f3.params[j]? = some t → args[j]? = some v → Value.okWide Tryz.prog W .any base t v := hval0
  have hW' := hW
  obtain ⟨p, q, hA0, hV, rfl, hfz, hnd⟩ := hW
  have hA : DataW.TrodAll enc Tryz.prog W 0 (fun _ => true) true Tryz.f3.params.toList args.toList ds p := hA0
  rw [Tryz.params3] at hA hval
  obtain ⟨v0, vs0, d0, ds0, p0, pq0, hargs, rfl, rfl, h0, r0⟩ := trodAll_cons hA
  obtain ⟨v1, vs1, d1, ds1, p1, pq1, rfl, rfl, rfl, h1, r1⟩ := trodAll_cons r0
  obtain ⟨v2, vs2, d2, ds2, p2, pq2, rfl, rfl, rfl, h2, r2⟩ := trodAll_cons r1
  obtain ⟨rfl, rfl, rfl⟩ := trodAll_nil r2
  obtain rfl : args = #[v0, v1, v2] := by cases args; simp_all
  obtain ⟨rfl, rfl⟩ := trodVars_none hV
  have k0 := h0
  have lt0 : ∀ x ∈ p0, x.block < W.heap.size := by obtain ⟨m, hm⟩ := k0; exact DataW.trod_lt m _ _ _ hm
  have k1 := h1
  have lt1 : ∀ x ∈ p1, x.block < W.heap.size := by obtain ⟨m, hm⟩ := k1; exact DataW.trod_lt m _ _ _ hm
  have k2 := h2
  have lt2 : ∀ x ∈ p2, x.block < W.heap.size := by obtain ⟨m, hm⟩ := k2; exact DataW.trod_lt m _ _ _ hm
  obtain ⟨l0, rfl, s01, s02⟩ := open_str_arg (hval 0 9 v0 rfl rfl) h0
  obtain ⟨ty1, by1, hv1, q1, bc1, hs1, rfl, o11, o12, o13, o14, o15, o16, o17⟩ := open_block_u (hval 1 25 v1 rfl rfl) h1
  obtain ⟨q2, bc2, l2, rfl, e21, e22, e24, e25⟩ := open_bytes_arg (hval 2 23 v2 rfl rfl) h2
  have e23 : l2.length ≤ 9223372036854775807 := by omega
  have hbulk : Rows.uptoBulk d0 + Rows.uptoBulk d1 + Rows.uptoBulk d2 ≤ 1048576 := by
    have h2 := of_decide_eq_true hk
    simp only [List.append_nil, Rows.uptoBulkAll] at h2
    omega
  clear hA0 hval0
  have hw := fnAfter_walk (fun v data w hs hl hT => pemDecode_any v data w hs hl hT) l0 ty1 by1 l2 hv1 q1 q2 bc1 bc2 hs1 W (tabs_of hL) o11 o12 o13 e21 (by omega) (by omega) (fun p hp => by have := o17 p hp; omega) (by omega) (by omega) (by omega)
  refine hw.mono fun e W' ⟨he, bel⟩ => ?_
  subst he
  have t0 := Below.trod laidOut (by kernel_rfl) (of_decide_eq_true (by kernel_rfl)) k0 bel lt0
  have t1 := Below.trod laidOut (by kernel_rfl) (of_decide_eq_true (by kernel_rfl)) k1 bel lt1
  have t2 := Below.trod laidOut (by kernel_rfl) (of_decide_eq_true (by kernel_rfl)) k2 bel lt2
  exact ⟨_, rfl, _, _, _, [], _, [], hW', trodAll_mk1 (shut_bool Tryz.underlying4 _), (trodAll_cons_mk t0 (trodAll_cons_mk t1 (trodAll_cons_mk t2 trodAll_mk0))), rfl, bel.frame _, fun h => by cases h⟩

theorem reads (os : Os) {H : Type} (enc : TypeId × Value → H) : ∃ places, DataW.whole enc Tryz.prog ((laidWorld os).forCall (fun _ _ => 0) ⟨#[], #[.string ⟨#[]⟩, .agg #[.string ⟨#[]⟩, .slice none 0 0, .slice none 0 0], .slice none 0 0], []⟩).memory Tryz.f3.params.toList Rows.fnAfterTextSpec.vars false #[Value.string ⟨#[]⟩, .agg #[.string ⟨#[]⟩, .slice none 0 0, .slice none 0 0], .slice none 0 0].toList 8 = some ([.lit (.string []), .agg [.lit (.string []), .nil, .nil], .nil], [], places) :=
  ⟨[], by kernel_rfl⟩

set_option maxRecDepth 100000 in
theorem lifted (os : Os) (started : os.Started) (H : Type) (enc : TypeId × Value → H) (F : Stop.Interp) :
    ReturnsInHanded {} Tryz.checked os 3 .any ((Rows.OpenSpec.upto Rows.fnAfterTextSpec).preRow enc Tryz.prog Tryz.f3 Rows.fnAfterTextUptoRow.domain false Rows.fnAfterTextUptoRow.laid) (((Rows.OpenSpec.upto Rows.fnAfterTextSpec).at F).post enc Tryz.prog Tryz.f3 false true false false) := by
  obtain ⟨places, hx⟩ := reads os enc
  refine returnsInHanded_of_row (C := Tryz.checked) (s := Rows.OpenSpec.upto Rows.fnAfterTextSpec) own started (by kernel_rfl) Tryz.func3
    (witness_row_atRef (enc := enc) (C := Tryz.checked) false (laidWorld os) #[.string ⟨#[]⟩, .agg #[.string ⟨#[]⟩, .slice none 0 0, .slice none 0 0], .slice none 0 0] rfl (by kernel_rfl) (by kernel_rfl) (by kernel_rfl)
      (OpenSpec.preRow_of_cond 8 hx (by kernel_rfl) (fun k hk => by cases hk; kernel_rfl) (by kernel_rfl) (laid_met os _))) ?_
  intro W base args ds gs before hval hW _ hcond _ hL _ _
  exact contract H enc W base args ds gs before hval hW (hcond _ rfl) hL

theorem said : Rows.FnAfterTextUptoSaid :=
  OpenClaim.holds_of_cond 3 Tryz.f3 rfl rfl rfl rfl rfl rfl rfl ⟨rfl, rfl, rfl, rfl, rfl⟩ rfl rfl rfl rfl rfl (by kernel_rfl) Tryz.func3 (by kernel_rfl)
    (of_decide_eq_true (by kernel_rfl)) (by unfold Func.isWrapper; first | (rw [if_pos (by decide +kernel)]; kernel_rfl) | (rw [if_neg (by decide +kernel)]; exact ⟨rfl, rfl⟩))
    (fun os started H enc _ F => by rw [OpenClaim.pre_eq_preRow]; exact lifted os started H enc F)

/-- No parameter wants a stand-in; the program's own looks are off: what the card asks. -/
theorem plain (f : FuncId) (fn : Func) (hf : Tryz.pinned.checked.prog.funcNamed "pemblocks/laws.FnAfterText" = some f) (hfn : Tryz.pinned.checked.prog.funcs[f]? = some fn) :
    false = Tryz.pinned.checked.prog.looks [] ∧ ∀ (j : Nat) t, fn.params[j]? = some t → Tryz.pinned.checked.prog.wantsStandIn t = false := by
  obtain rfl : f = 3 := Option.some.inj ((show Tryz.prog.funcNamed "pemblocks/laws.FnAfterText" = some 3 by kernel_rfl).symm.trans hf) |>.symm
  obtain rfl : fn = Tryz.f3 := (Option.some.inj (Tryz.func3.symm.trans hfn)).symm
  refine ⟨by kernel_rfl, fun j t ht => ?_⟩
  rw [Tryz.params3] at ht
  have hm := Array.mem_of_getElem? ht
  simp at hm
  rcases hm with rfl | rfl | rfl
  · exact (show Tryz.prog.wantsStandIn 9 = false by kernel_rfl)
  · exact (show Tryz.prog.wantsStandIn 25 = false by kernel_rfl)
  · exact (show Tryz.prog.wantsStandIn 23 = false by kernel_rfl)
end Go.Proofs.YtpjehmblndjknaaGreatDoor.fnAfterText
namespace Go.Proofs.YtpjehmblndjknaaGreatDoor
theorem fnAfterTextUpto_card : Rows.FnAfterTextUptoCardSaid :=
  Claim7.holds_tied_plain_at .later [] _ _ _ _ fnAfterText.said (fun _ h => by cases h) (by kernel_rfl) (fun _ h => by cases h) fnAfterTextUpto_row_tie rfl ⟨rfl, rfl⟩ (by kernel_rfl) rfl fnAfterText.plain (by kernel_rfl)
#print axioms fnAfterTextUpto_card
end Go.Proofs.YtpjehmblndjknaaGreatDoor
