/-
  The law FnLineEnds, where what is handed in is of the given bulk at most: for every block the call returns true and what was handed in reads as it did.
  Its one condition is the second form's own: the bulk of what is handed in. The card.
-/
import Derived.Test.YtpjehmblndjknaaGreatDoorDecP
import Derived.Deep.DeepMust
import Derived.Maps.AppendAt
import Derived.Test.YtpjehmblndjknaaGreatDoorTCom
import Derived.Deep.RegionHeld3
import Derived.Deep.RegionWith
import Derived.Deep.DeepCutAuto
import Derived.Test.YtpjehmblndjknaaGreatDoorPem
import Derived.Test.YtpjehmblndjknaaGreatDoorCards
import Derived.Test.YtpjehmblndjknaaGreatDoorTie

namespace Go.Proofs.YtpjehmblndjknaaGreatDoor
set_option linter.unusedSimpArgs false
set_option linter.unusedVariables false
open Go.RowKit

def crlf : List UInt8 → List UInt8 := mapE [13, 10]
theorem crlf_take {l : List UInt8} {k : Nat} {x : UInt8} (h : l[k]? = some x) : crlf (l.take (k + 1)) = crlf (l.take k) ++ (if x = 10 then [13, 10] else [x]) := by
  unfold crlf
  rw [List.take_add_one, h, mapE_append]
  show _ ++ mapE _ [x] = _
  rw [mapE_cons, mapE_nil, List.append_nil]
theorem mapE_len (eol : List UInt8) (h : 1 ≤ eol.length) : ∀ l : List UInt8, (mapE eol l).length ≤ l.length * eol.length
  | [] => by simp [mapE_nil]
  | c :: l => by
    have := mapE_len eol h l
    rw [mapE_cons, List.length_append, List.length_cons, Nat.succ_mul]
    split
    · omega
    · rw [List.length_singleton]; omega

/-- append(v, b): one byte behind. -/
theorem append_u8 {w : World} {base n : Nat} {v : Value} {xs : List Value} (b : Int) (hown : w.ownsRow base 5 1 v n xs) (hsz : n + 1 ≤ 140737488355328) (hbase : base ≤ w.heap.size) :
    ∃ v' w', (Builtin.append_ #[23, 23] 23 #[v, .slice (some ⟨w.heap.size, 0, none⟩) 1 1]).run Tryz.prog (w.alloc (.cells #[.int .u8 b] 5)) = .ok v' w' ∧ w'.ownsRow base 5 1 v' (n + 1) (xs ++ [.int .u8 b]) ∧ (w.alloc (.cells #[.int .u8 b] 5)).grownBy w' v.ownBlock := by
  obtain ⟨i0, hi, hz0, hz1, hz2⟩ := info_parts info_u8
  obtain ⟨v', w', r1, r2, r3, _⟩ := run_append_own (P := Tryz.prog) (w := w.alloc (.cells #[.int .u8 b] 5)) base 23 23 5 i0 (.int .u8 0) 1 1 Tryz.underlying23 hi hz0 hz1 hz2 rfl (by decide) v n xs (hown.alloc _) ⟨w.heap.size, 0, none⟩ 1 1 [.int .u8 b] rfl (cell_one_new _ _ _) (by simp [Value.oneCell']) (by unfold maxLen; omega) (by omega) (by rw [World.size_alloc]; omega)
  exact ⟨v', w', r1, r2, r3⟩

set_option maxRecDepth 100000 in
set_option maxHeartbeats 800000 in
theorem crlf_any (s : List UInt8) (w : World) (hm : s.length ≤ 17592186044416) :
    Calls Tryz.prog 22 #[.string (bs s)] w fun e w' => e = .returned (.string (bs (crlf s))) ∧ Below w.heap.size w w' := by
  obtain ⟨i0, hi, hz0, hz1, hz2⟩ := info_parts info_u8
  have HM := hide hm
  have hm63 : s.length ≤ 9223372036854775807 := by omega
  clear hm
  go_enter Tryz.func22, Tryz.ntmps22
  go_wp2
  go_loopw [3, 7] (fun v i wr => ∃ k : Nat, k ≤ s.length ∧ i = .int .i64 k ∧ wr.ownsRow w.heap.size 5 1 v (crlf (s.take k)).length ((crlf (s.take k)).map bv) ∧ Below w.heap.size w wr) (fun _ i _ => s.length - (intOf i).toNat)
  case atStart => exact ⟨0, Nat.zero_le _, rfl, by simpa [crlf, mapE_nil] using World.ownsRow_nil w w.heap.size 5 1, Below.refl _ _⟩
  case round =>
    obtain ⟨k, hk, rfl, hown, hbw⟩ := hrel
    have hle : (crlf (s.take k)).length ≤ 2 * k := by
      have := mapE_len [13, 10] (by decide) (s.take k)
      rw [List.length_take, Nat.min_eq_left hk] at this
      have e : ([13, 10] : List UInt8).length = 2 := rfl
      rw [e] at this
      unfold crlf; omega
    by_cases hlt : k < s.length
    · obtain ⟨x, hx⟩ : ∃ x, s[k] = x := ⟨_, rfl⟩
      have hx2 : s[k]? = some x := by rw [List.getElem?_eq_getElem hlt, hx]
      have hbx := bounds_byte x
      have HS := hide (crlf_take hx2)
      clear hx2
      generalize hn : (crlf (s.take k)).length = n at hown hle
      generalize hxs : (crlf (s.take k)).map bv = xs at hown
      have HN := hide (And.intro hn hxs)
      clear hn hxs
      by_cases h10 : x = 10
      · subst h10
        have q1 : (((10 : UInt8).toNat : Int) == 10) = true := by decide
        have q2 : ((10 : UInt8).toNat : Int) = 10 := rfl
        have hws := hbw.size
        obtain ⟨v1, w1, hr1, hown1, hg1⟩ := append_u8 13 hown (by have := unhide HM; omega) hws
        have hb1 : Below w.heap.size w w1 := Below.grown (hbw.alloc hws _) hg1 (by simp; omega) (fun j hj => (hown.lt j hj).1)
        have hws1 := hb1.size
        obtain ⟨v2, w2, hr2, hown2, hg2⟩ := append_u8 10 hown1 (by have := unhide HM; omega) hws1
        have hb2 : Below w.heap.size w w2 := Below.grown (hb1.alloc hws1 _) hg2 (by simp; omega) (fun j hj => (hown1.lt j hj).1)
        have HE : Hid (w2.ownsRow w.heap.size 5 1 v2 (crlf (s.take (k + 1))).length ((crlf (s.take (k + 1))).map bv)) := by
          show World.ownsRow _ _ _ _ _ _ _
          rw [unhide HS, if_pos rfl, List.length_append, List.map_append, (unhide HN).1, (unhide HN).2]
          have h := hown2
          rw [List.append_assoc] at h
          exact h
        have HB2 := hide hb2
        clear hown1 hg1 hb1 hown2 hg2 hb2 hws hws1 hown hbw HS
        go_wp2_with (first
          | (at_builtin; refine Lib.wpList_append_run_sl _ rfl _ _ 23 rfl _ _ rfl rfl hr1 ?_)
          | (at_builtin; refine Lib.wpList_append_run_sl _ rfl _ _ 23 rfl _ _ rfl rfl hr2 ?_)
          | fail)
        refine ⟨⟨k + 1, by omega, by go_num, unhide HE, unhide HB2⟩, ?_⟩
        simp [intOf]; omega
      · have q1 : ((x.toNat : Int) == 10) = false := by
          rw [beq_eq_false_iff_ne]
          intro e
          apply h10
          rw [← UInt8.toNat_inj]
          have : (10 : UInt8).toNat = 10 := rfl
          omega
        have hws := hbw.size
        obtain ⟨v1, w1, hr1, hown1, hg1⟩ := append_u8 (x.toNat : Int) hown (by have := unhide HM; omega) hws
        have hb1 : Below w.heap.size w w1 := Below.grown (hbw.alloc hws _) hg1 (by simp; omega) (fun j hj => (hown.lt j hj).1)
        have HE : Hid (w1.ownsRow w.heap.size 5 1 v1 (crlf (s.take (k + 1))).length ((crlf (s.take (k + 1))).map bv)) := by
          show World.ownsRow _ _ _ _ _ _ _
          rw [unhide HS, if_neg h10, List.length_append, List.map_append, (unhide HN).1, (unhide HN).2]
          exact hown1
        have HB1 := hide hb1
        clear hown1 hg1 hb1 hws hown hbw HS h10
        go_wp2_with (first
          | (at_builtin; refine Lib.wpList_append_run_sl _ rfl _ _ 23 rfl _ _ rfl rfl hr1 ?_)
          | fail)
        refine ⟨⟨k + 1, by omega, by go_num, unhide HE, unhide HB1⟩, ?_⟩
        simp [intOf]; omega
    · obtain rfl : k = s.length := by omega
      rw [List.take_length] at hown
      have hcv := run_conv_sl (P := Tryz.prog) (Sl.of_owns hown) 23 5 9 Tryz.underlying23 Tryz.underlying5 Tryz.underlying9
      have HB := hide hbw
      clear hown hbw
      go_wp2
      go_ret
      exact ⟨rfl, unhide HB⟩
end Go.Proofs.YtpjehmblndjknaaGreatDoor

namespace Go.Proofs.YtpjehmblndjknaaGreatDoor
open Go.RowKit Go.Maps
set_option linter.unusedSimpArgs false
set_option linter.unusedVariables false

set_option maxRecDepth 100000 in
set_option maxHeartbeats 4000000 in
theorem fnEnds_walk (hpem : PemOK) (ty d : List UInt8) (hv : Value) (q : Option Addr) (bc : Nat) (hs : Hdrs) (w : World) (hT : Tabs w) (hH : Hd w hv hs) (hS : Sl w (.slice q d.length bc) d) (hbc : bc ≤ 9223372036854775807)
   (h1 : ty.length ≤ 1048576) (hn : hs.length ≤ 1048576) (hx : ∀ p ∈ hs, p.1.length ≤ 1048576 ∧ p.2.length ≤ 1048576) (hd : d.length ≤ 1048576) :
    Calls Tryz.prog 9 #[.agg #[.string (bs ty), hv, .slice q d.length bc]] w fun e w' => e = .returned (.bool true) ∧ Below w.heap.size w w' := by
  have hb0 : Below w.heap.size w (w.alloc (.cells #[.string (bs ty), hv, .slice q d.length bc] 25)) := balloc (Below.refl _ _) _
  have hfit := zzFits1_any ty d hv _ hs _ (hH.below hb0) (hS.below hb0) (by omega) (by omega) (by omega) (fun p hp => by have := hx p hp; omega)
  rw [World.size_alloc, fits_sm h1 hn hx hd] at hfit
  have HF := hide hfit
  have HH := hide hH
  have HS := hide hS
  have HX := hide hx
  have HT := hide hT
  have hpl := pemOut_bound h1 (by omega) hd hx
  obtain ⟨p, cap, rfl, _⟩ := hH
  clear hfit hb0 hS hx hT
  go_enter Tryz.func9, Tryz.ntmps9
  go_wp2_with fail
  refine (unhide HF).mono ?_
  rintro e w1 ⟨rfl, hb1⟩
  have HB1 : Hid (Below w.heap.size w w1) := (balloc (Below.refl _ _) _).trans (hb1.mono (by omega))
  have hz1 : w.heap.size < w1.heap.size := by have := hb1.size; rw [World.size_alloc] at this; omega
  have hblk1 : w1.heap[w.heap.size]? = some (.cells #[.string (bs ty), .slice p hs.length cap, .slice q d.length bc] 25 (0, 0)) := by
    rw [hb1.block _ (by omega)]; exact heap_new w _
  obtain ⟨c10, c11, c12, -⟩ := cells3 hblk1
  have henc := hide (encoded_any ty d (.slice p hs.length cap) q bc hs w1 ((unhide HH).below (unhide HB1)) ((unhide HS).below (unhide HB1)) hbc (fun p hp => by have := unhide HX p hp; omega) (by omega) (by omega) (fun _ => by omega))
  have HBLK1 := hide hblk1
  clear hb1 HF hblk1
  go_wp2_with fail
  refine (unhide henc).mono ?_
  rintro e w2 ⟨hb2, hcase⟩
  have HB2 : Hid (Below w.heap.size w w2) := bstep (unhide HB1) hb2
  have hblk2 := (hb2.block _ hz1).trans (unhide HBLK1)
  have hz2 : w.heap.size < w2.heap.size := lt_of_heap hblk2
  have HBLK2 := hide hblk2
  clear henc hb2 hblk2 HBLK1 c10 c11 c12
  rcases hcase with ⟨hpr, rfl⟩ | ⟨hpr, s, rfl⟩
  rotate_left
  · have hwk := hide (works_any w2)
    clear hpr
    go_wp2_with fail
    refine (unhide hwk).mono ?_
    rintro e w7 ⟨rfl, hb7⟩
    have HB7 : Hid (Below w.heap.size w w7) := bstep (unhide HB2) hb7
    clear hb7 hwk
    go_wp2
    go_ret
    exact ⟨rfl, unhide HB7⟩
  · obtain ⟨hty, hph, hnd⟩ := plainH_of hpr
    have hcr := crlf_any (pemOut ty hs d) w2 (by omega)
    obtain ⟨Y, hY⟩ : ∃ Y, Y = crlf (pemOut ty hs d) := ⟨_, rfl⟩
    have hYl : Y.length ≤ 6000000000000 := by
      have h3 := mapE_len [13, 10] (by decide) (pemOut ty hs d)
      have e2 : ([13, 10] : List UInt8).length = 2 := rfl
      rw [e2] at h3
      rw [hY]; unfold crlf; omega
    rw [← hY] at hcr
    have HCR := hide hcr
    have HLAW : Hid (∀ o, Dec Y o → o = some ⟨ty, wlist hs, d, []⟩) := fun o ho => law_ends (.inl rfl) hty hph (by rw [← pemOut_written]; rw [hY] at ho; exact ho)
    have HND := hide hnd
    generalize pemOut ty hs d = X at *
    clear hcr hY hpr hty hph hnd
    go_wp2_with fail
    refine (unhide HCR).mono ?_
    rintro e w3 ⟨rfl, hb3⟩
    have hblk3 := (hb3.block _ hz2).trans (unhide HBLK2)
    have HB3 : Hid (Below w.heap.size w w3) := bstep (unhide HB2) hb3
    have hb34 : Below w3.heap.size w3 (Lib.bytesWorld w3 5 (bs Y)) := bytesWorld_below w3 5 (bs Y)
    have hcv := conv_bl Y w3
    have HB4 : Hid (Below w.heap.size w (Lib.bytesWorld w3 5 (bs Y))) := bstep (unhide HB3) hb34
    have hblk4 := (hb34.block _ (lt_of_heap hblk3)).trans hblk3
    have HBLK4 := hide hblk4
    have hdec := hide (decode_found hpem _ Y (Lib.bytesWorld w3 5 (bs Y)) (Apd.conv w3 Y).sl (by omega) ((unhide HT).below (unhide HB4)) (ty := ty) (d := d) (rest := []) (unhide HND) (by omega) (unhide HLAW))
    generalize Lib.bytesWorld w3 5 (bs Y) = w4 at *
    clear HCR hb3 hblk3 hb34 hblk4 HLAW HND HBLK2 hYl
    go_wp2_with fail
    refine (unhide hdec).mono ?_
    rintro e w5 ⟨hb5, hv5, rv, q5, bc5, ls, rfl, g1, g2, g3, g4, g5⟩
    clear hdec hcv
    obtain ⟨prv, crv, rfl, -, -⟩ := g4
    obtain ⟨p5, cap5, rfl, hc5⟩ := g1
    have g1 : Hd w5 (.slice p5 ls.length cap5) ls := ⟨p5, cap5, rfl, hc5⟩
    clear hc5
    have hblk5 := (hb5.block _ (lt_of_heap (unhide HBLK4))).trans (unhide HBLK4)
    have hb56 : Below w5.heap.size w5 (w5.alloc (.cells #[.string (bs ty), .slice p5 ls.length cap5, .slice q5 d.length bc5] 25)) := balloc (Below.refl _ _) _
    have hblk6 := (hb56.block _ (lt_of_heap hblk5)).trans hblk5
    have hgot6 := heap_new w5 (.cells #[.string (bs ty), .slice p5 ls.length cap5, .slice q5 d.length bc5] 25)
    have HB6 : Hid (Below w.heap.size w (w5.alloc (.cells #[.string (bs ty), .slice p5 ls.length cap5, .slice q5 d.length bc5] 25))) := bstep (bstep (unhide HB4) hb5) hb56
    have hg1 := g1.below hb56
    have hg3 := g3.below hb56
    have hH6 := (unhide HH).below (unhide HB6)
    have hS6 := (unhide HS).below (unhide HB6)
    clear hblk5 hb56 hb5 g1 g3 HBLK4
    go_upto_region 7 with (fail)
    generalize hw6 : w5.alloc (.cells #[.string (bs ty), .slice p5 ls.length cap5, .slice q5 d.length bc5] 25) = w6 at HB6 hg1 hg3 hH6 hS6 hblk6 hgot6 ⊢
    clear hw6
    generalize w5.heap.size = g at hgot6 ⊢
    have HKP : Hid (∀ W, Below w6.heap.size w6 W → W.heap[g]? = some (.cells #[.string (bs ty), .slice p5 ls.length cap5, .slice q5 d.length bc5] 25 (0, 0)) ∧ W.heap[w.heap.size]? = some (.cells #[.string (bs ty), .slice p hs.length cap, .slice q d.length bc] 25 (0, 0))) := fun W hW => ⟨(hW.block _ (lt_of_heap hgot6)).trans hgot6, (hW.block _ (lt_of_heap hblk6)).trans hblk6⟩
    have HG6 := hide (And.intro hg1 (And.intro hg3 (And.intro hH6 hS6)))
    have G2 := hide g2
    clear hg1 hg3 hH6 hS6 hblk6 hgot6 g2
    go_cut [2] (fun v4 w' => v4 = .bool true ∧ Hid (Below w.heap.size w w'))
    case first =>
      have HSP : ∀ W, Below w6.heap.size w6 W → W.cell? ⟨g, 0, none⟩ = some (.string (bs ty)) ∧ W.cell? ⟨g, 1, none⟩ = some (.slice p5 ls.length cap5) ∧ W.cell? ⟨g, 2, none⟩ = some (.slice q5 d.length bc5) ∧ W.cell? ⟨w.heap.size, 0, none⟩ = some (.string (bs ty)) ∧ W.cell? ⟨w.heap.size, 1, none⟩ = some (.slice p hs.length cap) ∧ W.cell? ⟨w.heap.size, 2, none⟩ = some (.slice q d.length bc) := fun W hW => by
        obtain ⟨k1, k2⟩ := unhide HKP W hW
        obtain ⟨c0, c1, c2, -⟩ := cells3 k1
        obtain ⟨e0, e1, e2, -⟩ := cells3 k2
        exact ⟨c0, c1, c2, e0, e1, e2⟩
      have HSP' := hide HSP
      obtain ⟨c0, c1, c2, e0, e1, e2⟩ := HSP _ (Below.refl _ _)
      have hlsn : ls.length ≤ 4294967295 := by rw [sameH_len (unhide G2)]; omega
      clear HSP HKP
      go_region_held3 (fun w' => w'.cell? ⟨g, 0, none⟩ = some (.string (bs ty)) ∧ w'.cell? ⟨g, 1, none⟩ = some (.slice p5 ls.length cap5) ∧ w'.cell? ⟨g, 2, none⟩ = some (.slice q5 d.length bc5) ∧ w'.cell? ⟨w.heap.size, 0, none⟩ = some (.string (bs ty)) ∧ w'.cell? ⟨w.heap.size, 1, none⟩ = some (.slice p hs.length cap) ∧ w'.cell? ⟨w.heap.size, 2, none⟩ = some (.slice q d.length bc))
        (first | exact unhide HSP' _ (unhide HBc) | exact unhide HSP' _ (unhide HBb) | exact unhide HSP' _ (unhide HBa) | exact unhide HSP' _ (drewN_below w6 1) | go_keep)
        (first
          | (go_at_call_of 17 (Value.slice p5 ls.length cap5)
             refine (block_any ty _ ls q5 d.length bc5 _ ((unhide HG6).1.below (by first | exact drewN_below w6 1 | exact unhide HBb)) hlsn).mono ?_
             rintro e wA ⟨vA, rfl, hA, hbA⟩
             have HBa : Hid (Below w6.heap.size w6 wA) := by first | exact bstep (drewN_below w6 1) hbA | exact bstep (unhide HBb) hbA
             have HA := hide hA
             have HBA := hide hbA
             clear hA hbA)
          | (go_at_call_of 17 (Value.slice p hs.length cap)
             refine (block_any ty _ hs q d.length bc _ ((unhide HG6).2.2.1.below (by first | exact drewN_below w6 1 | exact unhide HBa)) (by omega)).mono ?_
             rintro e wB ⟨vB, rfl, hB, hbB⟩
             have HBb : Hid (Below w6.heap.size w6 wB) := by first | exact bstep (drewN_below w6 1) hbB | exact bstep (unhide HBa) hbB
             have HB := hide hB
             have HBB := hide hbB
             clear hB hbB)
          | (go_at_call 16
             refine (sameB_any ty d vA vB q5 q bc5 bc ls hs _ (by first | exact unhide HA | exact (unhide HA).below (unhide HBB)) (by first | exact unhide HB | exact (unhide HB).below (unhide HBA)) ((unhide HG6).2.1.below (by first | exact unhide HBa | exact unhide HBb)) ((unhide HG6).2.2.2.below (by first | exact unhide HBa | exact unhide HBb)) hlsn (by omega) (unhide G2)).mono ?_
             rintro e wC ⟨rfl, hbC⟩
             have HBc : Hid (Below w6.heap.size w6 wC) := by first | exact bstep (unhide HBb) hbC | exact bstep (unhide HBa) hbC
             clear hbC))
      all_goals (
        have HF := hide (bstep (unhide HB6) (unhide HBc))
        go_wp2_with fail
        go_meet
        exact ⟨rfl, unhide HF⟩)
    case rest =>
      obtain ⟨rfl, HF⟩ := hcut
      go_wp2_with fail
      go_ret
      exact ⟨rfl, unhide HF⟩
end Go.Proofs.YtpjehmblndjknaaGreatDoor

namespace Go.Proofs.YtpjehmblndjknaaGreatDoor.fnLineEnds
open Go.ChangeShapes Go.WideShapes Go.ChangeAt Go.RowKit
open Go.ChangeMaps (open_string shut_string)
set_option linter.unusedVariables false

theorem own : ownKnob Tryz.prog.godebug = none := by kernel_rfl
theorem laidOut : laidOutB Tryz.prog = true := by kernel_rfl

set_option maxRecDepth 100000 in
theorem contract (H : Type) (enc : TypeId × Value → H) (W : World) (base : Nat) (args : Array Value) (ds gs : List (DataW H)) (before : List MemPlace)
    (hval0 : ∀ (j : Nat) t v, Tryz.f9.params[j]? = some t → args[j]? = some v → Value.okWide Tryz.prog W .any base t v)
    (hW : DataW.Whole enc Tryz.prog Tryz.f9.params.toList Rows.fnLineEndsSpec.vars false W args.toList ds gs before) (hk : Rows.uptoSmall H (ds ++ gs) = true) (hL : laidMetH Tryz.prog laidL W) :
    Calls Tryz.prog 9 args W fun e W' => ∃ v, e = .returned v ∧ Rows.fnLineEndsSpec.post enc Tryz.prog Tryz.f9 false true false false W args v W' := by
  have hval : ∀ (j : Nat) t v, Tryz.f9.params[j]? = some t → args[j]? = some v → Value.okWide Tryz.prog W .any base t v := hval0
  have hW' := hW
  obtain ⟨p, q, hA0, hV, rfl, hfz, hnd⟩ := hW
  have hA : DataW.TrodAll enc Tryz.prog W 0 (fun _ => true) true Tryz.f9.params.toList args.toList ds p := hA0
  rw [Tryz.params9] at hA hval
  obtain ⟨v0, vs0, d0, ds0, p0, pq0, hargs, rfl, rfl, h0, r0⟩ := trodAll_cons hA
  obtain ⟨rfl, rfl, rfl⟩ := trodAll_nil r0
  obtain rfl : args = #[v0] := by cases args; simp_all
  obtain ⟨rfl, rfl⟩ := trodVars_none hV
  have k0 := h0
  have lt0 : ∀ x ∈ p0, x.block < W.heap.size := by obtain ⟨m, hm⟩ := k0; exact DataW.trod_lt m _ _ _ hm
  obtain ⟨ty0, by0, hv0, q0, bc0, hs0, rfl, o01, o02, o03, o04, o05, o06, o07⟩ := open_block_u (hval 0 25 v0 rfl rfl) h0
  have hbulk : Rows.uptoBulk d0 ≤ 1048576 := by
    have h2 := of_decide_eq_true hk
    simp only [List.append_nil, Rows.uptoBulkAll] at h2
    omega
  clear hA0 hval0
  have hw := fnEnds_walk (fun v data w hs hl hT => pemDecode_any v data w hs hl hT) ty0 by0 hv0 q0 bc0 hs0 W (tabs_of hL) o01 o02 o03 (by omega) (by omega) (fun p hp => by have := o07 p hp; omega) (by omega)
  refine hw.mono fun e W' ⟨he, bel⟩ => ?_
  subst he
  have t0 := Below.trod laidOut (by kernel_rfl) (of_decide_eq_true (by kernel_rfl)) k0 bel lt0
  exact ⟨_, rfl, _, _, _, [], _, [], hW', trodAll_mk1 (shut_bool Tryz.underlying4 _), (trodAll_cons_mk t0 trodAll_mk0), rfl, bel.frame _, fun h => by cases h⟩

theorem reads (os : Os) {H : Type} (enc : TypeId × Value → H) : ∃ places, DataW.whole enc Tryz.prog ((laidWorld os).forCall (fun _ _ => 0) ⟨#[], #[.agg #[.string ⟨#[]⟩, .slice none 0 0, .slice none 0 0]], []⟩).memory Tryz.f9.params.toList Rows.fnLineEndsSpec.vars false #[Value.agg #[.string ⟨#[]⟩, .slice none 0 0, .slice none 0 0]].toList 8 = some ([.agg [.lit (.string []), .nil, .nil]], [], places) :=
  ⟨[], by kernel_rfl⟩

set_option maxRecDepth 100000 in
theorem lifted (os : Os) (started : os.Started) (H : Type) (enc : TypeId × Value → H) (F : Stop.Interp) :
    ReturnsInHanded {} Tryz.checked os 9 .any ((Rows.OpenSpec.upto Rows.fnLineEndsSpec).preRow enc Tryz.prog Tryz.f9 Rows.fnLineEndsUptoRow.domain false Rows.fnLineEndsUptoRow.laid) (((Rows.OpenSpec.upto Rows.fnLineEndsSpec).at F).post enc Tryz.prog Tryz.f9 false true false false) := by
  obtain ⟨places, hx⟩ := reads os enc
  refine returnsInHanded_of_row (C := Tryz.checked) (s := Rows.OpenSpec.upto Rows.fnLineEndsSpec) own started (by kernel_rfl) Tryz.func9
    (witness_row_atRef (enc := enc) (C := Tryz.checked) false (laidWorld os) #[.agg #[.string ⟨#[]⟩, .slice none 0 0, .slice none 0 0]] rfl (by kernel_rfl) (by kernel_rfl) (by kernel_rfl)
      (OpenSpec.preRow_of_cond 8 hx (by kernel_rfl) (fun k hk => by cases hk; kernel_rfl) (by kernel_rfl) (laid_met os _))) ?_
  intro W base args ds gs before hval hW _ hcond _ hL _ _
  exact contract H enc W base args ds gs before hval hW (hcond _ rfl) hL

theorem said : Rows.FnLineEndsUptoSaid :=
  OpenClaim.holds_of_cond 9 Tryz.f9 rfl rfl rfl rfl rfl rfl rfl ⟨rfl, rfl, rfl, rfl, rfl⟩ rfl rfl rfl rfl rfl (by kernel_rfl) Tryz.func9 (by kernel_rfl)
    (of_decide_eq_true (by kernel_rfl)) (by unfold Func.isWrapper; first | (rw [if_pos (by decide +kernel)]; kernel_rfl) | (rw [if_neg (by decide +kernel)]; exact ⟨rfl, rfl⟩))
    (fun os started H enc _ F => by rw [OpenClaim.pre_eq_preRow]; exact lifted os started H enc F)

/-- No parameter wants a stand-in; the program's own looks are off: what the card asks. -/
theorem plain (f : FuncId) (fn : Func) (hf : Tryz.pinned.checked.prog.funcNamed "pemblocks/laws.FnLineEnds" = some f) (hfn : Tryz.pinned.checked.prog.funcs[f]? = some fn) :
    false = Tryz.pinned.checked.prog.looks [] ∧ ∀ (j : Nat) t, fn.params[j]? = some t → Tryz.pinned.checked.prog.wantsStandIn t = false := by
  obtain rfl : f = 9 := Option.some.inj ((show Tryz.prog.funcNamed "pemblocks/laws.FnLineEnds" = some 9 by kernel_rfl).symm.trans hf) |>.symm
  obtain rfl : fn = Tryz.f9 := (Option.some.inj (Tryz.func9.symm.trans hfn)).symm
  refine ⟨by kernel_rfl, fun j t ht => ?_⟩
  rw [Tryz.params9] at ht
  have hm := Array.mem_of_getElem? ht
  simp at hm
  subst hm
  exact (show Tryz.prog.wantsStandIn 25 = false by kernel_rfl)
end Go.Proofs.YtpjehmblndjknaaGreatDoor.fnLineEnds
namespace Go.Proofs.YtpjehmblndjknaaGreatDoor
theorem fnLineEndsUpto_card : Rows.FnLineEndsUptoCardSaid :=
  Claim7.holds_tied_plain_at .later [] _ _ _ _ fnLineEnds.said (fun _ h => by cases h) (by kernel_rfl) (fun _ h => by cases h) fnLineEndsUpto_row_tie rfl ⟨rfl, rfl⟩ (by kernel_rfl) rfl fnLineEnds.plain (by kernel_rfl)
#print axioms fnLineEndsUpto_card
end Go.Proofs.YtpjehmblndjknaaGreatDoor
