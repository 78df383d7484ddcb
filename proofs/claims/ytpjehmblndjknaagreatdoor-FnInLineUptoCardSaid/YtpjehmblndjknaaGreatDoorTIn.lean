/-
  The law FnInLine, where what is handed in is of the given bulk at most: for every two texts and every block the call returns true and what was handed in reads as it did.
  Its one condition is the second form's own: the bulk of what is handed in. The card.
-/
import Derived.Test.YtpjehmblndjknaaGreatDoorTCom
import Derived.Deep.RegionHeld3
import Derived.Deep.RegionWith
import Derived.Deep.DeepCutAuto
import Derived.Test.YtpjehmblndjknaaGreatDoorPem
import Derived.Test.YtpjehmblndjknaaGreatDoorCards
import Derived.Test.YtpjehmblndjknaaGreatDoorTie

namespace Go.Proofs.YtpjehmblndjknaaGreatDoor
open Go.RowKit Go.Maps
set_option linter.unusedSimpArgs false
set_option linter.unusedVariables false

theorem blockT_app (eol ty : List UInt8) (ls : Hdrs) (x : List UInt8) : ∃ A, ∀ q, blockT eol ty ls x q = A ++ q :=
  ⟨begP ++ (ty ++ (dashP ++ (eol ++ (mapE eol (hlinesL ls) ++ (mapE eol (bodyL ls x) ++ endP))))), fun q => by unfold blockT; simp only [List.append_assoc]⟩
theorem written_cut {ty b : List UInt8} {ls : Hdrs} (ht : plainS ty = true) (behind : List UInt8) : (writtenP ty ls b).take ((writtenP ty ls b).length - 1) ++ (behind ++ [10]) = blockT [10] ty ls (b64 b) (ty ++ (dashP ++ (behind ++ [10]))) := by
  obtain ⟨A, hA⟩ := blockT_app [10] ty ls (b64 b)
  have h := written_block (ls := ls) (b := b) ht []
  rw [List.append_nil, hA] at h
  have e : goodQ [10] ty [] = (ty ++ dashP) ++ [10] := by unfold goodQ; simp
  rw [e, ← List.append_assoc] at h
  rw [h, hA, List.length_append, List.length_singleton, Nat.add_sub_cancel, List.take_left']
  · simp only [List.append_assoc]
  · rfl

set_option maxRecDepth 100000 in
set_option maxHeartbeats 4000000 in
theorem fnIn_walk (hpem : PemOK) (before behind ty d : List UInt8) (hv : Value) (q : Option Addr) (bc : Nat) (hs : Hdrs) (w : World) (hT : Tabs w) (hH : Hd w hv hs) (hS : Sl w (.slice q d.length bc) d) (hbc : bc ≤ 9223372036854775807)
   (h1 : ty.length ≤ 1048576) (hn : hs.length ≤ 1048576) (hx : ∀ p ∈ hs, p.1.length ≤ 1048576 ∧ p.2.length ≤ 1048576) (hd : d.length ≤ 1048576) (hbf : before.length ≤ 1048576) (hbh : behind.length ≤ 1048576) :
    Calls Tryz.prog 8 #[.string (bs before), .agg #[.string (bs ty), hv, .slice q d.length bc], .string (bs behind)] w fun e w' => e = .returned (.bool true) ∧ Below w.heap.size w w' := by
  have hb0 : Below w.heap.size w (w.alloc (.cells #[.string (bs ty), hv, .slice q d.length bc] 25)) := balloc (Below.refl _ _) _
  have hfit := zzFits1_any ty d hv _ hs _ (hH.below hb0) (hS.below hb0) (by omega) (by omega) (by omega) (fun p hp => by have := hx p hp; omega)
  rw [World.size_alloc, fits_sm h1 hn hx hd] at hfit
  have HF := hide hfit
  have HH := hide hH
  have HS := hide hS
  have HX := hide hx
  have HT := hide hT
  have hpl := pemOut_bound h1 (by omega) hd hx
  obtain ⟨p, cap, rfl, _⟩ := hH
  clear hfit hb0 hS hx hT
  go_enter Tryz.func8, Tryz.ntmps8
  go_wp2_with fail
  refine (unhide HF).mono ?_
  rintro e w1 ⟨rfl, hb1⟩
  have HB1 : Hid (Below w.heap.size w w1) := (balloc (Below.refl _ _) _).trans (hb1.mono (by omega))
  have hz1 : w.heap.size < w1.heap.size := by have := hb1.size; rw [World.size_alloc] at this; omega
  have hblk1 : w1.heap[w.heap.size]? = some (.cells #[.string (bs ty), .slice p hs.length cap, .slice q d.length bc] 25 (0, 0)) := by
    rw [hb1.block _ (by omega)]; exact heap_new w _
  obtain ⟨c10, c11, c12, -⟩ := cells3 hblk1
  have henc := hide (encoded_any ty d (.slice p hs.length cap) q bc hs w1 ((unhide HH).below (unhide HB1)) ((unhide HS).below (unhide HB1)) hbc (fun p hp => by have := unhide HX p hp; omega) (by omega) (by omega) (fun _ => by omega))
  have HBLK1 := hide hblk1
  clear hb1 HF hblk1
  go_wp2_with fail
  refine (unhide henc).mono ?_
  rintro e w2 ⟨hb2, hcase⟩
  have HB2 : Hid (Below w.heap.size w w2) := bstep (unhide HB1) hb2
  have hblk2 := (hb2.block _ hz1).trans (unhide HBLK1)
  have hz2 : w.heap.size < w2.heap.size := lt_of_heap hblk2
  have HBLK2 := hide hblk2
  clear henc hb2 hblk2 HBLK1 c10 c11 c12
  rcases hcase with ⟨hpr, rfl⟩ | ⟨hpr, s, rfl⟩
  rotate_left
  · have hwk := hide (works_any w2)
    clear hpr
    go_wp2_with fail
    refine (unhide hwk).mono ?_
    rintro e w7 ⟨rfl, hb7⟩
    have HB7 : Hid (Below w.heap.size w w7) := bstep (unhide HB2) hb7
    clear hb7 hwk
    go_wp2
    go_ret
    exact ⟨rfl, unhide HB7⟩
  · have hp1 := plain_any before w2 (by omega)
    obtain ⟨hb, hhb⟩ : ∃ x, x = plainS before := ⟨_, rfl⟩
    rw [← hhb] at hp1
    have HP1 := hide hp1
    have HPR := hide (And.intro hpr hhb)
    clear hp1 hpr hhb
    go_wp2_with fail
    refine (unhide HP1).mono ?_
    rintro e w2 ⟨rfl, rfl⟩
    clear HP1
    cases hb with
    | false =>
      have hwk := hide (works_any w2)
      clear HPR
      go_wp2_with fail
      refine (unhide hwk).mono ?_
      rintro e w7 ⟨rfl, hb7⟩
      have HB7 : Hid (Below w.heap.size w w7) := bstep (unhide HB2) hb7
      clear hb7 hwk
      go_wp2
      go_ret
      exact ⟨rfl, unhide HB7⟩
    | true =>
    have hp2 := plain_any behind w2 (by omega)
    obtain ⟨hc, hhc⟩ : ∃ x, x = plainS behind := ⟨_, rfl⟩
    rw [← hhc] at hp2
    have HP2 := hide hp2
    have HPC := hide hhc
    clear hp2 hhc
    go_wp2_with fail
    refine (unhide HP2).mono ?_
    rintro e w2 ⟨rfl, rfl⟩
    clear HP2
    cases hc with
    | false =>
      have hwk := hide (works_any w2)
      clear HPR
      go_wp2_with fail
      refine (unhide hwk).mono ?_
      rintro e w7 ⟨rfl, hb7⟩
      have HB7 : Hid (Below w.heap.size w w7) := bstep (unhide HB2) hb7
      clear hb7 hwk
      go_wp2
      go_ret
      exact ⟨rfl, unhide HB7⟩
    | true =>
    obtain ⟨hpr, hhb⟩ := unhide HPR
    obtain ⟨hty, hph, hnd⟩ := plainH_of hpr
    have hX0 : 0 < (pemOut ty hs d).length := pemOut_ne ty hs d
    have HL1 : Hid (∀ o, Dec (before ++ pemOut ty hs d) o → o = none) := fun o ho => law_inline hhb.symm hty hph (by rw [← pemOut_written]; exact ho)
    have HL2 : Hid (∀ o, Dec ((pemOut ty hs d).take ((pemOut ty hs d).length - 1) ++ (behind ++ [10])) o → o = none) := fun o ho => law_behind (unhide HPC).symm hty hph (by rw [pemOut_written, written_cut hty] at ho; exact ho)
    generalize pemOut ty hs d = X at *
    clear hpr hty hph hnd HPR HPC hhb
    have hXI : (1 : Int) ≤ (X.length : Int) := by omega
    go_upto_region 6 with (fail)
    go_cut [9, 10] (fun v9 v10 w' => Hid (Sl w' v9 (before ++ X) ∧ Sl w' v10 (X.take (X.length - 1) ++ (behind ++ [10])) ∧ Below w2.heap.size w2 w'))
    case first =>
      have hn1 : ¬ 9223372036854775807 < before.length + X.length := by omega
      have hcv1 := conv_bl (before ++ X)
      obtain ⟨k, hk⟩ : ∃ k, k = X.length - 1 := ⟨_, rfl⟩
      have hw : IntKind.i64.wrap ((X.length : Int) - 1) = (k : Int) := by rw [IntWalk.i64_in _ (by omega)]; omega
      have hkI : (k : Int) ≤ (X.length : Int) := by omega
      have HKE := hide hk
      clear hk
      have hn2 : ¬ 9223372036854775807 < min k X.length + behind.length := by omega
      have hn3 : ¬ 9223372036854775807 < min k X.length + behind.length + 1 := by omega
      have hcv2 := conv_bl (X.take k ++ (behind ++ [10]))
      go_region
      all_goals (go_wp2_with fail; go_meet)
      all_goals (
        have E1 : before.length + X.length = (before ++ X).length := by simp
        have E2 : min k X.length + (behind.length + 1) = (X.take k ++ (behind ++ [10])).length := by simp
        rw [E1, E2, ← unhide HKE]
        first
          | exact ⟨(Apd.conv w2.drew (before ++ X)).sl.below (bytesWorld_below _ _ _), (Apd.conv _ (X.take k ++ (behind ++ [10]))).sl, bstep (bstep (drewN_below w2 1) (bytesWorld_below _ _ _)) (bytesWorld_below _ _ _)⟩
          | exact ⟨(Apd.conv _ (before ++ X)).sl, (Apd.conv w2.drew (X.take k ++ (behind ++ [10]))).sl.below (bytesWorld_below _ _ _), bstep (bstep (drewN_below w2 1) (bytesWorld_below _ _ _)) (bytesWorld_below _ _ _)⟩)
    case rest =>
      obtain ⟨sX, sY, hb3⟩ := unhide hcut
      have hl1 : (before ++ X).length ≤ 4000000000000 := by rw [List.length_append]; omega
      have hl2 : (X.take (X.length - 1) ++ (behind ++ [10])).length ≤ 4000000000000 := by simp only [List.length_append, List.length_take, List.length_singleton]; omega
      have HB3 : Hid (Below w.heap.size w wc) := bstep (unhide HB2) hb3
      have hd1 := hide (decode_no hpem u9 _ wc sX (by omega) ((unhide HT).below (unhide HB3)) (unhide HL1))
      have HSX := hide (And.intro sX sY)
      clear hcut sX sY hb3 HBLK2
      go_wp2_with fail
      refine (unhide hd1).mono ?_
      rintro e w3 ⟨hb4, rfl⟩
      have hb45 : Below wc.heap.size wc (w3.alloc (.cells #[.string ⟨#[]⟩, .slice none 0 0, .slice none 0 0] 25)) := bstep hb4 (balloc (Below.refl _ _) _)
      have HB5 : Hid (Below w.heap.size w (w3.alloc (.cells #[.string ⟨#[]⟩, .slice none 0 0, .slice none 0 0] 25))) := bstep (unhide HB3) hb45
      have hd2 := hide (decode_no hpem u10 _ _ ((unhide HSX).2.below hb45) (by omega) ((unhide HT).below (unhide HB5)) (unhide HL2))
      have HB45 := hide hb45
      clear hd1 hb4 hb45
      go_wp2_with fail
      refine (unhide hd2).mono ?_
      rintro e w5 ⟨hb6, rfl⟩
      have hb7 : Below wc.heap.size wc (w5.alloc (.cells #[.string ⟨#[]⟩, .slice none 0 0, .slice none 0 0] 25)) := bstep (bstep (unhide HB45) hb6) (balloc (Below.refl _ _) _)
      have k1 := conv_sl2 (unhide HSX).1 _ hb7
      have k2 := conv_sl2 (unhide HSX).2 _ hb7
      have HB7 : Hid (Below w.heap.size w (w5.alloc (.cells #[.string ⟨#[]⟩, .slice none 0 0, .slice none 0 0] 25))) := bstep (unhide HB3) hb7
      clear hd2 hb6 hb7 HSX HL1 HL2 hl1 hl2
      go_wp2_with fail
      go_ret
      exact ⟨rfl, unhide HB7⟩
end Go.Proofs.YtpjehmblndjknaaGreatDoor

namespace Go.Proofs.YtpjehmblndjknaaGreatDoor.fnInLine
open Go.ChangeShapes Go.WideShapes Go.ChangeAt Go.RowKit
open Go.ChangeMaps (open_string shut_string)
set_option linter.unusedVariables false

theorem own : ownKnob Tryz.prog.godebug = none := by kernel_rfl
theorem laidOut : laidOutB Tryz.prog = true := by kernel_rfl

set_option maxRecDepth 100000 in
theorem contract (H : Type) (enc : TypeId × Value → H) (W : World) (base : Nat) (args : Array Value) (ds gs : List (DataW H)) (before : List MemPlace)
    (hval0 : ∀ (j : Nat) t v, Tryz.f8.params[j]? = some t → args[j]? = some v → Value.okWide Tryz.prog W .any base t v)
    (hW : DataW.Whole enc Tryz.prog Tryz.f8.params.toList Rows.fnInLineSpec.vars false W args.toList ds gs before) (hk : Rows.uptoSmall H (ds ++ gs) = true) (hL : laidMetH Tryz.prog laidL W) :
    Calls Tryz.prog 8 args W fun e W' => ∃ v, e = .returned v ∧ Rows.fnInLineSpec.post enc Tryz.prog Tryz.f8 false true false false W args v W' := by
  have hval : ∀ (j : Nat) t v, Tryz.f8.params[j]? = some t → args[j]? = some v → Value.okWide Tryz.prog W .any base t v := hval0
  have hW' := hW
  obtain ⟨p, q, hA0, hV, rfl, hfz, hnd⟩ := hW
  have hA : DataW.TrodAll enc Tryz.prog W 0 (fun _ => true) true Tryz.f8.params.toList args.toList ds p := hA0
  rw [Tryz.params8] at hA hval
  obtain ⟨v0, vs0, d0, ds0, p0, pq0, hargs, rfl, rfl, h0, r0⟩ := trodAll_cons hA
  obtain ⟨v1, vs1, d1, ds1, p1, pq1, rfl, rfl, rfl, h1, r1⟩ := trodAll_cons r0
  obtain ⟨v2, vs2, d2, ds2, p2, pq2, rfl, rfl, rfl, h2, r2⟩ := trodAll_cons r1
  obtain ⟨rfl, rfl, rfl⟩ := trodAll_nil r2
  obtain rfl : args = #[v0, v1, v2] := by cases args; simp_all
  obtain ⟨rfl, rfl⟩ := trodVars_none hV
  have k0 := h0
  have lt0 : ∀ x ∈ p0, x.block < W.heap.size := by obtain ⟨m, hm⟩ := k0; exact DataW.trod_lt m _ _ _ hm
  have k1 := h1
  have lt1 : ∀ x ∈ p1, x.block < W.heap.size := by obtain ⟨m, hm⟩ := k1; exact DataW.trod_lt m _ _ _ hm
  have k2 := h2
  have lt2 : ∀ x ∈ p2, x.block < W.heap.size := by obtain ⟨m, hm⟩ := k2; exact DataW.trod_lt m _ _ _ hm
  obtain ⟨l0, rfl, s01, s02⟩ := open_str_arg (hval 0 9 v0 rfl rfl) h0
  obtain ⟨ty1, by1, hv1, q1, bc1, hs1, rfl, o11, o12, o13, o14, o15, o16, o17⟩ := open_block_u (hval 1 25 v1 rfl rfl) h1
  obtain ⟨l2, rfl, s21, s22⟩ := open_str_arg (hval 2 9 v2 rfl rfl) h2
  have hbulk : Rows.uptoBulk d0 + Rows.uptoBulk d1 + Rows.uptoBulk d2 ≤ 1048576 := by
    have h2 := of_decide_eq_true hk
    simp only [List.append_nil, Rows.uptoBulkAll] at h2
    omega
  clear hA0 hval0
  have hw := fnIn_walk (fun v data w hs hl hT => pemDecode_any v data w hs hl hT) l0 l2 ty1 by1 hv1 q1 bc1 hs1 W (tabs_of hL) o11 o12 o13 (by omega) (by omega) (fun p hp => by have := o17 p hp; omega) (by omega) (by omega) (by omega)
  refine hw.mono fun e W' ⟨he, bel⟩ => ?_
  subst he
  have t0 := Below.trod laidOut (by kernel_rfl) (of_decide_eq_true (by kernel_rfl)) k0 bel lt0
  have t1 := Below.trod laidOut (by kernel_rfl) (of_decide_eq_true (by kernel_rfl)) k1 bel lt1
  have t2 := Below.trod laidOut (by kernel_rfl) (of_decide_eq_true (by kernel_rfl)) k2 bel lt2
  exact ⟨_, rfl, _, _, _, [], _, [], hW', trodAll_mk1 (shut_bool Tryz.underlying4 _), (trodAll_cons_mk t0 (trodAll_cons_mk t1 (trodAll_cons_mk t2 trodAll_mk0))), rfl, bel.frame _, fun h => by cases h⟩

theorem reads (os : Os) {H : Type} (enc : TypeId × Value → H) : ∃ places, DataW.whole enc Tryz.prog ((laidWorld os).forCall (fun _ _ => 0) ⟨#[], #[.string ⟨#[]⟩, .agg #[.string ⟨#[]⟩, .slice none 0 0, .slice none 0 0], .string ⟨#[]⟩], []⟩).memory Tryz.f8.params.toList Rows.fnInLineSpec.vars false #[Value.string ⟨#[]⟩, .agg #[.string ⟨#[]⟩, .slice none 0 0, .slice none 0 0], .string ⟨#[]⟩].toList 8 = some ([.lit (.string []), .agg [.lit (.string []), .nil, .nil], .lit (.string [])], [], places) :=
  ⟨[], by kernel_rfl⟩

set_option maxRecDepth 100000 in
theorem lifted (os : Os) (started : os.Started) (H : Type) (enc : TypeId × Value → H) (F : Stop.Interp) :
    ReturnsInHanded {} Tryz.checked os 8 .any ((Rows.OpenSpec.upto Rows.fnInLineSpec).preRow enc Tryz.prog Tryz.f8 Rows.fnInLineUptoRow.domain false Rows.fnInLineUptoRow.laid) (((Rows.OpenSpec.upto Rows.fnInLineSpec).at F).post enc Tryz.prog Tryz.f8 false true false false) := by
  obtain ⟨places, hx⟩ := reads os enc
  refine returnsInHanded_of_row (C := Tryz.checked) (s := Rows.OpenSpec.upto Rows.fnInLineSpec) own started (by kernel_rfl) Tryz.func8
    (witness_row_atRef (enc := enc) (C := Tryz.checked) false (laidWorld os) #[.string ⟨#[]⟩, .agg #[.string ⟨#[]⟩, .slice none 0 0, .slice none 0 0], .string ⟨#[]⟩] rfl (by kernel_rfl) (by kernel_rfl) (by kernel_rfl)
      (OpenSpec.preRow_of_cond 8 hx (by kernel_rfl) (fun k hk => by cases hk; kernel_rfl) (by kernel_rfl) (laid_met os _))) ?_
  intro W base args ds gs before hval hW _ hcond _ hL _ _
  exact contract H enc W base args ds gs before hval hW (hcond _ rfl) hL

theorem said : Rows.FnInLineUptoSaid :=
  OpenClaim.holds_of_cond 8 Tryz.f8 rfl rfl rfl rfl rfl rfl rfl ⟨rfl, rfl, rfl, rfl, rfl⟩ rfl rfl rfl rfl rfl (by kernel_rfl) Tryz.func8 (by kernel_rfl)
    (of_decide_eq_true (by kernel_rfl)) (by unfold Func.isWrapper; first | (rw [if_pos (by decide +kernel)]; kernel_rfl) | (rw [if_neg (by decide +kernel)]; exact ⟨rfl, rfl⟩))
    (fun os started H enc _ F => by rw [OpenClaim.pre_eq_preRow]; exact lifted os started H enc F)

/-- No parameter wants a stand-in; the program's own looks are off: what the card asks. -/
theorem plain (f : FuncId) (fn : Func) (hf : Tryz.pinned.checked.prog.funcNamed "pemblocks/laws.FnInLine" = some f) (hfn : Tryz.pinned.checked.prog.funcs[f]? = some fn) :
    false = Tryz.pinned.checked.prog.looks [] ∧ ∀ (j : Nat) t, fn.params[j]? = some t → Tryz.pinned.checked.prog.wantsStandIn t = false := by
  obtain rfl : f = 8 := Option.some.inj ((show Tryz.prog.funcNamed "pemblocks/laws.FnInLine" = some 8 by kernel_rfl).symm.trans hf) |>.symm
  obtain rfl : fn = Tryz.f8 := (Option.some.inj (Tryz.func8.symm.trans hfn)).symm
  refine ⟨by kernel_rfl, fun j t ht => ?_⟩
  rw [Tryz.params8] at ht
  have hm := Array.mem_of_getElem? ht
  simp at hm
  rcases hm with rfl | rfl | rfl
  · exact (show Tryz.prog.wantsStandIn 9 = false by kernel_rfl)
  · exact (show Tryz.prog.wantsStandIn 25 = false by kernel_rfl)
  · exact (show Tryz.prog.wantsStandIn 9 = false by kernel_rfl)
end Go.Proofs.YtpjehmblndjknaaGreatDoor.fnInLine
namespace Go.Proofs.YtpjehmblndjknaaGreatDoor
theorem fnInLineUpto_card : Rows.FnInLineUptoCardSaid :=
  Claim7.holds_tied_plain_at .later [] _ _ _ _ fnInLine.said (fun _ h => by cases h) (by kernel_rfl) (fun _ h => by cases h) fnInLineUpto_row_tie rfl ⟨rfl, rfl⟩ (by kernel_rfl) rfl fnInLine.plain (by kernel_rfl)
#print axioms fnInLineUpto_card
end Go.Proofs.YtpjehmblndjknaaGreatDoor
