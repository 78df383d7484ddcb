/-
  The law FnBlanks: for every block and every text the call returns true and what was handed in reads as it did.
  No condition. The card.
-/
import Derived.Test.YtpjehmblndjknaaGreatDoorDecP
import Derived.Deep.DeepMust
import Derived.Maps.AppendAt
import Derived.Test.YtpjehmblndjknaaGreatDoorSolid
import Derived.Test.YtpjehmblndjknaaGreatDoorTCom
import Derived.Deep.RegionHeld3
import Derived.Deep.RegionWith
import Derived.Deep.DeepCutAuto
import Derived.Test.YtpjehmblndjknaaGreatDoorPem
import Derived.Test.YtpjehmblndjknaaGreatDoorCards
import Derived.Test.YtpjehmblndjknaaGreatDoorTie

namespace Go.Proofs.YtpjehmblndjknaaGreatDoor
set_option linter.unusedSimpArgs false
set_option linter.unusedVariables false
open Go.RowKit

def crlf : List UInt8 → List UInt8 := mapE [13, 10]
theorem crlf_take {l : List UInt8} {k : Nat} {x : UInt8} (h : l[k]? = some x) : crlf (l.take (k + 1)) = crlf (l.take k) ++ (if x = 10 then [13, 10] else [x]) := by
  unfold crlf
  rw [List.take_add_one, h, mapE_append]
  show _ ++ mapE _ [x] = _
  rw [mapE_cons, mapE_nil, List.append_nil]
theorem mapE_len (eol : List UInt8) (h : 1 ≤ eol.length) : ∀ l : List UInt8, (mapE eol l).length ≤ l.length * eol.length
  | [] => by simp [mapE_nil]
  | c :: l => by
    have := mapE_len eol h l
    rw [mapE_cons, List.length_append, List.length_cons, Nat.succ_mul]
    split
    · omega
    · rw [List.length_singleton]; omega

/-- append(v, b): one byte behind. -/
theorem append_u8 {w : World} {base n : Nat} {v : Value} {xs : List Value} (b : Int) (hown : w.ownsRow base 5 1 v n xs) (hsz : n + 1 ≤ 140737488355328) (hbase : base ≤ w.heap.size) :
    ∃ v' w', (Builtin.append_ #[23, 23] 23 #[v, .slice (some ⟨w.heap.size, 0, none⟩) 1 1]).run Tryz.prog (w.alloc (.cells #[.int .u8 b] 5)) = .ok v' w' ∧ w'.ownsRow base 5 1 v' (n + 1) (xs ++ [.int .u8 b]) ∧ (w.alloc (.cells #[.int .u8 b] 5)).grownBy w' v.ownBlock := by
  obtain ⟨i0, hi, hz0, hz1, hz2⟩ := info_parts info_u8
  obtain ⟨v', w', r1, r2, r3, _⟩ := run_append_own (P := Tryz.prog) (w := w.alloc (.cells #[.int .u8 b] 5)) base 23 23 5 i0 (.int .u8 0) 1 1 Tryz.underlying23 hi hz0 hz1 hz2 rfl (by decide) v n xs (hown.alloc _) ⟨w.heap.size, 0, none⟩ 1 1 [.int .u8 b] rfl (cell_one_new _ _ _) (by simp [Value.oneCell']) (by unfold maxLen; omega) (by omega) (by rw [World.size_alloc]; omega)
  exact ⟨v', w', r1, r2, r3⟩

set_option maxRecDepth 100000 in
set_option maxHeartbeats 800000 in
theorem crlf_any (s : List UInt8) (w : World) (hm : s.length ≤ 17592186044416) :
    Calls Tryz.prog 22 #[.string (bs s)] w fun e w' => e = .returned (.string (bs (crlf s))) ∧ Below w.heap.size w w' := by
  obtain ⟨i0, hi, hz0, hz1, hz2⟩ := info_parts info_u8
  have HM := hide hm
  have hm63 : s.length ≤ 9223372036854775807 := by omega
  clear hm
  go_enter Tryz.func22, Tryz.ntmps22
  go_wp2
  go_loopw [3, 7] (fun v i wr => ∃ k : Nat, k ≤ s.length ∧ i = .int .i64 k ∧ wr.ownsRow w.heap.size 5 1 v (crlf (s.take k)).length ((crlf (s.take k)).map bv) ∧ Below w.heap.size w wr) (fun _ i _ => s.length - (intOf i).toNat)
  case atStart => exact ⟨0, Nat.zero_le _, rfl, by simpa [crlf, mapE_nil] using World.ownsRow_nil w w.heap.size 5 1, Below.refl _ _⟩
  case round =>
    obtain ⟨k, hk, rfl, hown, hbw⟩ := hrel
    have hle : (crlf (s.take k)).length ≤ 2 * k := by
      have := mapE_len [13, 10] (by decide) (s.take k)
      rw [List.length_take, Nat.min_eq_left hk] at this
      have e : ([13, 10] : List UInt8).length = 2 := rfl
      rw [e] at this
      unfold crlf; omega
    by_cases hlt : k < s.length
    · obtain ⟨x, hx⟩ : ∃ x, s[k] = x := ⟨_, rfl⟩
      have hx2 : s[k]? = some x := by rw [List.getElem?_eq_getElem hlt, hx]
      have hbx := bounds_byte x
      have HS := hide (crlf_take hx2)
      clear hx2
      generalize hn : (crlf (s.take k)).length = n at hown hle
      generalize hxs : (crlf (s.take k)).map bv = xs at hown
      have HN := hide (And.intro hn hxs)
      clear hn hxs
      by_cases h10 : x = 10
      · subst h10
        have q1 : (((10 : UInt8).toNat : Int) == 10) = true := by decide
        have q2 : ((10 : UInt8).toNat : Int) = 10 := rfl
        have hws := hbw.size
        obtain ⟨v1, w1, hr1, hown1, hg1⟩ := append_u8 13 hown (by have := unhide HM; omega) hws
        have hb1 : Below w.heap.size w w1 := Below.grown (hbw.alloc hws _) hg1 (by simp; omega) (fun j hj => (hown.lt j hj).1)
        have hws1 := hb1.size
        obtain ⟨v2, w2, hr2, hown2, hg2⟩ := append_u8 10 hown1 (by have := unhide HM; omega) hws1
        have hb2 : Below w.heap.size w w2 := Below.grown (hb1.alloc hws1 _) hg2 (by simp; omega) (fun j hj => (hown1.lt j hj).1)
        have HE : Hid (w2.ownsRow w.heap.size 5 1 v2 (crlf (s.take (k + 1))).length ((crlf (s.take (k + 1))).map bv)) := by
          show World.ownsRow _ _ _ _ _ _ _
          rw [unhide HS, if_pos rfl, List.length_append, List.map_append, (unhide HN).1, (unhide HN).2]
          have h := hown2
          rw [List.append_assoc] at h
          exact h
        have HB2 := hide hb2
        clear hown1 hg1 hb1 hown2 hg2 hb2 hws hws1 hown hbw HS
        go_wp2_with (first
          | (at_builtin; refine Lib.wpList_append_run_sl _ rfl _ _ 23 rfl _ _ rfl rfl hr1 ?_)
          | (at_builtin; refine Lib.wpList_append_run_sl _ rfl _ _ 23 rfl _ _ rfl rfl hr2 ?_)
          | fail)
        refine ⟨⟨k + 1, by omega, by go_num, unhide HE, unhide HB2⟩, ?_⟩
        simp [intOf]; omega
      · have q1 : ((x.toNat : Int) == 10) = false := by
          rw [beq_eq_false_iff_ne]
          intro e
          apply h10
          rw [← UInt8.toNat_inj]
          have : (10 : UInt8).toNat = 10 := rfl
          omega
        have hws := hbw.size
        obtain ⟨v1, w1, hr1, hown1, hg1⟩ := append_u8 (x.toNat : Int) hown (by have := unhide HM; omega) hws
        have hb1 : Below w.heap.size w w1 := Below.grown (hbw.alloc hws _) hg1 (by simp; omega) (fun j hj => (hown.lt j hj).1)
        have HE : Hid (w1.ownsRow w.heap.size 5 1 v1 (crlf (s.take (k + 1))).length ((crlf (s.take (k + 1))).map bv)) := by
          show World.ownsRow _ _ _ _ _ _ _
          rw [unhide HS, if_neg h10, List.length_append, List.map_append, (unhide HN).1, (unhide HN).2]
          exact hown1
        have HB1 := hide hb1
        clear hown1 hg1 hb1 hws hown hbw HS h10
        go_wp2_with (first
          | (at_builtin; refine Lib.wpList_append_run_sl _ rfl _ _ 23 rfl _ _ rfl rfl hr1 ?_)
          | fail)
        refine ⟨⟨k + 1, by omega, by go_num, unhide HE, unhide HB1⟩, ?_⟩
        simp [intOf]; omega
    · obtain rfl : k = s.length := by omega
      rw [List.take_length] at hown
      have hcv := run_conv_sl (P := Tryz.prog) (Sl.of_owns hown) 23 5 9 Tryz.underlying23 Tryz.underlying5 Tryz.underlying9
      have HB := hide hbw
      clear hown hbw
      go_wp2
      go_ret
      exact ⟨rfl, unhide HB⟩
end Go.Proofs.YtpjehmblndjknaaGreatDoor

namespace Go.Proofs.YtpjehmblndjknaaGreatDoor
set_option linter.unusedSimpArgs false
set_option linter.unusedVariables false
open Go.RowKit

set_option maxRecDepth 100000 in
set_option maxHeartbeats 400000 in
theorem specSolid_any (s : ByteArray) (w : World) (hm : s.size ≤ 140737488351232) :
    Calls Tryz.prog 20 #[.string s] w fun e w' => e = .returned (.string (bs (solid s.data.toList))) ∧ Below w.heap.size w w' := by
  obtain ⟨i0, hi, hz0, hz1, hz2⟩ := info_parts info_u8
  have hm63 : s.size ≤ 9223372036854775807 := by omega
  have HM := hide hm
  clear hm
  go_enter Tryz.func20, Tryz.ntmps20
  go_wp2
  go_loopw [3, 7] (fun v i wr => ∃ k : Nat, k ≤ s.size ∧ i = .int .i64 k ∧ wr.ownsRow w.heap.size 5 1 v (solid (s.data.toList.take k)).length ((solid (s.data.toList.take k)).map bv) ∧ Below w.heap.size w wr) (fun _ i _ => s.size - (intOf i).toNat)
  case atStart => exact ⟨0, Nat.zero_le _, rfl, by simpa [solid] using World.ownsRow_nil w w.heap.size 5 1, Below.refl _ _⟩
  case round =>
    obtain ⟨k, hk, rfl, hown, hbw⟩ := hrel
    by_cases hlt : k < s.size
    · obtain ⟨x, hx⟩ : ∃ x, s[k] = x := ⟨_, rfl⟩
      have hbx := bounds_byte x
      have HS : Hid (solid (s.data.toList.take (k + 1)) = if isBl x then solid (s.data.toList.take k) else solid (s.data.toList.take k) ++ [x]) := by
        have h1 := solid_snoc (s.data.toList.take k) x
        rw [← h1, List.take_add_one]
        have h2 : s.data.toList[k]? = some x := by
          rw [Array.getElem?_toList, ← hx]
          exact Array.getElem?_eq_getElem hlt
        rw [h2]
        rfl
      have hle : (solid (s.data.toList.take k)).length ≤ k := Nat.le_trans (solid_le _) (List.length_take_le _ _)
      have HSX : Hid (isBl x = (decide ((x.toNat : Int) = 32) || decide ((x.toNat : Int) = 9))) := by
        show _ = _
        rw [isBl_nat]
        congr 1 <;> rw [decide_eq_decide] <;> omega
      have R1 : isBl x = true → Hid (∃ k_1 : Nat, k_1 ≤ s.size ∧ Value.int .i64 ((k : Int) + 1) = .int .i64 (k_1 : Int) ∧ wr.ownsRow w.heap.size 5 1 u3 (solid (s.data.toList.take k_1)).length ((solid (s.data.toList.take k_1)).map bv) ∧ Below w.heap.size w wr) := by
        intro hx1
        have e := unhide HS
        rw [if_pos hx1] at e
        exact ⟨k + 1, by omega, by rw [Int.natCast_add]; rfl, by rw [e]; exact hown, hbw⟩
      by_cases q1 : ((x.toNat : Int) != 32) = false
      · have R := R1 (by rw [unhide HSX]; simp at q1; simp [q1])
        clear R1
        go_wp2
        refine ⟨unhide R, ?_⟩
        simp [intOf]; omega
      · have q1 : ((x.toNat : Int) != 32) = true := by simpa using q1
        by_cases q2 : ((x.toNat : Int) != 9) = false
        · have R := R1 (by rw [unhide HSX]; simp at q2; simp [q2])
          clear R1
          go_wp2
          refine ⟨unhide R, ?_⟩
          simp [intOf]; omega
        · have q2 : ((x.toNat : Int) != 9) = true := by simpa using q2
          have E : Hid (solid (s.data.toList.take (k + 1)) = solid (s.data.toList.take k) ++ [x]) := by
            have e := unhide HS
            rw [if_neg (by rw [unhide HSX]; simp at q1 q2; simp [q1, q2])] at e
            exact e
          clear R1 HS HSX
          go_wp2_with (at_builtin; go_must (refine wpList_append_own _ rfl _ _ 23 rfl w.heap.size 5 i0 (.int .u8 0) 1 1 Tryz.underlying23 hi hz0 hz1 hz2 rfl (by decide) _ _ _ rfl (hown.alloc _) ⟨wr.heap.size, 0, none⟩ 1 1 [.int .u8 (x.toNat : Int)] rfl rfl (cell_one_new _ _ _) (by simp [Value.oneCell']) (by have := unhide HM; unfold maxLen; omega) (by have := unhide HM; omega) (by have := hbw.size; simp; omega) ?_); intro v' w2 hown' hgrow _)
          have hb2 : Below w.heap.size w w2 := Below.grown (hbw.alloc hbw.size _) hgrow (by have := hbw.size; simp; omega) (fun j hj => (hown.lt j hj).1)
          refine ⟨⟨k + 1, by omega, by rw [Int.natCast_add]; rfl, ?_, hb2⟩, ?_⟩
          · rw [unhide E, List.length_append, List.map_append]
            exact hown'
          · simp [intOf]; omega
    · obtain rfl : k = s.size := by omega
      rw [← len_of, List.take_length] at hown
      have hcv := run_conv_sl (P := Tryz.prog) (Sl.of_owns hown) 23 5 9 Tryz.underlying23 Tryz.underlying5 Tryz.underlying9
      clear hown
      go_wp2
      go_ret
      exact ⟨rfl, hbw⟩
end Go.Proofs.YtpjehmblndjknaaGreatDoor

namespace Go.Proofs.YtpjehmblndjknaaGreatDoor
open Go.RowKit Go.Maps
set_option linter.unusedSimpArgs false
set_option linter.unusedVariables false

theorem plain_mem {l : List UInt8} (h : plainS l = true) : (58 : UInt8) ∉ l ∧ (10 : UInt8) ∉ l := ⟨fun hc => (plain_no h hc).2.1 rfl, fun hc => (plain_no h hc).1 rfl⟩
theorem mapE_count (eol : List UInt8) : ∀ l : List UInt8, (mapE eol l).length ≤ l.length + l.count 10 * eol.length
  | [] => by simp [mapE_nil]
  | c :: l => by
    have := mapE_count eol l
    rw [mapE_cons, List.length_append, List.length_cons, List.count_cons]
    by_cases h : c = 10
    · subst h
      rw [if_pos rfl, if_pos (by decide), Nat.add_mul, Nat.one_mul]; omega
    · rw [if_neg h, if_neg (by simpa using h), List.length_singleton]
      simp only [Nat.add_zero]; omega
theorem mapE_take {eol l : List UInt8} {k : Nat} {x : UInt8} (h : l[k]? = some x) : mapE eol (l.take (k + 1)) = mapE eol (l.take k) ++ (if x = 10 then eol else [x]) := by
  rw [List.take_add_one, h, mapE_append]
  show _ ++ mapE _ [x] = _
  rw [mapE_cons, mapE_nil, List.append_nil]
theorem mapE_take_le (eol l : List UInt8) (k : Nat) : (mapE eol (l.take k)).length ≤ l.length + l.count 10 * eol.length := by
  refine Nat.le_trans (mapE_count eol _) ?_
  have h1 : (l.take k).length ≤ l.length := List.length_take_le' _ _
  have h2 : (l.take k).count 10 ≤ l.count 10 := (List.take_sublist k l).count_le 10
  have h3 := Nat.mul_le_mul_right eol.length h2
  omega
theorem written_nls {ty d : List UInt8} (ht : plainS ty = true) : (writtenP ty [] d).count 10 ≤ 2 * (b64 d).length + 2 := by
  have h2 := lines64_length _ (b64 d) (Nat.le_refl _)
  have h3 : (lines64 (b64 d)).count 10 ≤ (lines64 (b64 d)).length := List.count_le_length
  have ht0 : ty.count 10 = 0 := List.count_eq_zero.2 (fun h => (plain_mem ht).2 h)
  have e : writtenP ty [] d = begP ++ ty ++ (dashP ++ [10]) ++ [] ++ [] ++ lines64 (b64 d) ++ endP ++ ty ++ (dashP ++ [10]) := rfl
  have e1 : begP.count 10 = 0 := by decide
  have e2 : endP.count 10 = 0 := by decide
  have e3 : (dashP ++ [10]).count 10 = 1 := by decide
  rw [e]
  simp only [List.count_append] at e3 ⊢
  simp only [List.count_append, e1, e2, ht0, List.count_nil]
  omega
theorem solid_nil {l : List UInt8} (h : solid l = []) : ∀ c ∈ l, isBl c = true := by
  intro c hc
  rcases Bool.eq_false_or_eq_true (isBl c) with h1 | h1
  · exact h1
  · have : c ∈ solid l := List.mem_filter.2 ⟨hc, by rw [h1]; rfl⟩
    rw [h] at this; cases this

set_option maxRecDepth 100000 in
set_option maxHeartbeats 4000000 in
theorem fnBlanks_main (hpem : PemOK) (ty d bl : List UInt8) (hv : Value) (q : Option Addr) (bc : Nat) (w : World) (hT : Tabs w) (hH : Hd w hv []) (hS : Sl w (.slice q d.length bc) d) (hbc : bc ≤ 9223372036854775807)
   (hfb : fitsB ty [] d = true) (hbl : bl.length ≤ 2147483647) :
    Calls Tryz.prog 7 #[.agg #[.string (bs ty), hv, .slice q d.length bc], .string (bs bl)] w fun e w' => e = .returned (.bool true) ∧ Below w.heap.size w w' := by
  have hb0 : Below w.heap.size w (w.alloc (.cells #[.string (bs ty), hv, .slice q d.length bc] 25)) := balloc (Below.refl _ _) _
  obtain ⟨h1, _, hd, _⟩ := fits_ty hfb
  have hfit := zzFits1_any ty d hv _ [] _ (hH.below hb0) (hS.below hb0) (by omega) (by simp) (by omega) (fun p hp => by cases hp)
  rw [World.size_alloc, hfb] at hfit
  have HF := hide hfit
  have HH := hide hH
  have HS := hide hS
  have HT := hide hT
  have hpl : (pemOut ty [] d).length ≤ 20000000000 := by have := pemOut_bulk (ty := ty) (d := d) (hs := []); simp only [bulk] at this; omega
  obtain ⟨p, cap, rfl, -⟩ := hH
  clear hfit hb0 hS hT hfb
  go_enter Tryz.func7, Tryz.ntmps7
  go_wp2_with fail
  refine (unhide HF).mono ?_
  rintro e w1 ⟨rfl, hb1⟩
  have HB1 : Hid (Below w.heap.size w w1) := (balloc (Below.refl _ _) _).trans (hb1.mono (by omega))
  have hz1 : w.heap.size < w1.heap.size := by have := hb1.size; rw [World.size_alloc] at this; omega
  have hblk1 : w1.heap[w.heap.size]? = some (.cells #[.string (bs ty), .slice p 0 cap, .slice q d.length bc] 25 (0, 0)) := by
    rw [hb1.block _ (by omega)]; exact heap_new w _
  obtain ⟨c10, c11, c12, -⟩ := cells3 hblk1
  have HBLK1 := hide hblk1
  clear hb1 HF hblk1
  have hsol := hide (specSolid_any (bs bl) w1 (by rw [bs_size]; omega))
  go_wp2_with fail
  refine (unhide hsol).mono ?_
  rintro e w0 ⟨rfl, hb01⟩
  rw [bs_toList]
  have hblk0 := (hb01.block _ hz1).trans (unhide HBLK1)
  have HB0 : Hid (Below w.heap.size w w0) := bstep (unhide HB1) hb01
  have hz0 : w.heap.size < w0.heap.size := lt_of_heap hblk0
  obtain ⟨c00, c01, c02, -⟩ := cells3 hblk0
  have HBLK0 := hide hblk0
  clear hsol hb01 hblk0 HBLK1 c10 c11 c12
  obtain ⟨sb, hsb⟩ : ∃ x, x = solid bl := ⟨_, rfl⟩
  rw [← hsb]
  by_cases hsb0 : sb = []
  rotate_left
  · have hq : sb.isEmpty = false := by simpa using hsb0
    have hwk := hide (works_any w0)
    clear hsb hsb0
    go_wp2_with fail
    refine (unhide hwk).mono ?_
    rintro e w7 ⟨rfl, hb7⟩
    have HB7 : Hid (Below w.heap.size w w7) := bstep (unhide HB0) hb7
    clear hb7 hwk
    go_wp2
    go_ret
    exact ⟨rfl, unhide HB7⟩
  rw [hsb0]
  have HBL := hide (solid_nil (hsb.symm.trans hsb0))
  clear hsb hsb0
  have henc := hide (encoded_any ty d (.slice p 0 cap) q bc [] w0 ((unhide HH).below (unhide HB0)) ((unhide HS).below (unhide HB0)) hbc (fun p hp => by cases hp) (by simp) (by omega) (fun _ => by omega))
  go_wp2_with fail
  refine (unhide henc).mono ?_
  rintro e w2 ⟨hb2, hcase⟩
  have HB2 : Hid (Below w.heap.size w w2) := bstep (unhide HB0) hb2
  have hblk2 := (hb2.block _ hz0).trans (unhide HBLK0)
  have hz2 : w.heap.size < w2.heap.size := lt_of_heap hblk2
  have HBLK2 := hide hblk2
  clear henc hb2 hblk2 HBLK0 c00 c01 c02
  rcases hcase with ⟨hpr, rfl⟩ | ⟨hpr, s, rfl⟩
  rotate_left
  · have hwk := hide (works_any w2)
    clear hpr
    go_wp2_with fail
    refine (unhide hwk).mono ?_
    rintro e w7 ⟨rfl, hb7⟩
    have HB7 : Hid (Below w.heap.size w w7) := bstep (unhide HB2) hb7
    clear hb7 hwk
    go_wp2
    go_ret
    exact ⟨rfl, unhide HB7⟩
  · obtain ⟨hty, hph, hnd⟩ := plainH_of hpr
    have hd5 : d.length ≤ 5000 := by
      unfold properB at hpr
      simp only [Bool.and_eq_true, decide_eq_true_eq] at hpr
      exact hpr.1.2
    have hnl : (pemOut ty [] d).count 10 ≤ 14000 := by
      have h3 := written_nls (d := d) hty
      rw [b64_length] at h3
      rw [pemOut_written, wlist_nil.2 rfl]
      omega
    have hML : ∀ k, (mapE (bl ++ [10]) ((pemOut ty [] d).take k)).length ≤ 40000000000000 := by
      intro k
      refine Nat.le_trans (mapE_take_le _ _ k) ?_
      have h4 := Nat.mul_le_mul hnl (show (bl ++ [10]).length ≤ 2147483648 by simp; omega)
      omega
    have HML := hide hML
    have HLAW : Hid (∀ o, Dec (mapE (bl ++ [10]) (pemOut ty [] d)) o → o = some ⟨ty, wlist [], d, []⟩) := fun o ho => law_ends (.inr ⟨bl, unhide HBL, rfl⟩) hty hph (by rw [← pemOut_written]; exact ho)
    generalize pemOut ty [] d = X at *
    clear hpr hty hph hnd hML hnl hd5 HBL
    go_wp2_with fail
    go_loop [7, 40] (fun v7 v40 => ∃ k : Nat, k ≤ X.length ∧ v40 = .int .i64 k ∧ v7 = .string (bs (mapE (bl ++ [10]) (X.take k)))) (fun _ v40 => X.length - (intOf v40).toNat)
    case atStart => exact ⟨0, Nat.zero_le _, rfl, rfl⟩
    case round =>
    obtain ⟨k, hk, rfl, rfl⟩ := hrel
    by_cases hlt : k < X.length
    · obtain ⟨x, hx⟩ : ∃ x, X[k] = x := ⟨_, rfl⟩
      have hx2 : X[k]? = some x := by rw [List.getElem?_eq_getElem hlt, hx]
      have hbx := bounds_byte x
      have HS1 := hide (mapE_take (eol := bl ++ [10]) hx2)
      have hM := unhide HML k
      have hdt : List.drop k (List.take (k + 1) X) = [x] := by
        rw [List.take_add_one, hx2, List.drop_left' (by rw [List.length_take]; omega)]; rfl
      have HDT := hide hdt
      clear hx2 hdt
      generalize mapE (bl ++ [10]) (X.take k) = M at *
      by_cases h10 : x = 10
      · subst h10
        have q1 : (((10 : UInt8).toNat : Int) == 10) = true := by decide
        go_wp2_with fail
        refine ⟨⟨k + 1, by omega, by go_num, ?_⟩, by simp [intOf]; omega⟩
        rw [unhide HS1, if_pos rfl, unhide HDT]
        try simp
      · have q1 : ((x.toNat : Int) == 10) = false := by
          rw [beq_eq_false_iff_ne]
          intro e
          apply h10
          rw [← UInt8.toNat_inj]
          have : (10 : UInt8).toNat = 10 := rfl
          omega
        have HN10 := hide h10
        clear h10
        go_wp2_with fail
        refine ⟨⟨k + 1, by omega, by go_num, ?_⟩, by simp [intOf]; omega⟩
        rw [unhide HS1, if_neg (unhide HN10), unhide HDT]
    · obtain rfl : k = X.length := by omega
      rw [List.take_length]
      have hYl := unhide HML X.length
      rw [List.take_length] at hYl
      generalize mapE (bl ++ [10]) X = Y at *
      have hb34 : Below w2.heap.size w2 (Lib.bytesWorld w2 5 (bs Y)) := bytesWorld_below w2 5 (bs Y)
      have hcv := conv_bl Y w2
      have HB4 : Hid (Below w.heap.size w (Lib.bytesWorld w2 5 (bs Y))) := bstep (unhide HB2) hb34
      have hblk4 := (hb34.block _ hz2).trans (unhide HBLK2)
      have HBLK4 := hide hblk4
      have hdec := hide (decode_found hpem _ Y (Lib.bytesWorld w2 5 (bs Y)) (Apd.conv w2 Y).sl (by omega) ((unhide HT).below (unhide HB4)) (ty := ty) (d := d) (rest := []) (hd := []) List.nodup_nil (by simp) (unhide HLAW))
      generalize Lib.bytesWorld w2 5 (bs Y) = w4 at *
      clear hblk4 hb34 HLAW HBLK2 hYl HML
      go_wp2_with fail
      refine (unhide hdec).mono ?_
      rintro e w5 ⟨hb5, hv5, rv, q5, bc5, ls, rfl, g1, g2, g3, g4, g5⟩
      clear hdec hcv
      obtain ⟨prv, crv, rfl, -, -⟩ := g4
      obtain ⟨p5, cap5, rfl, hc5⟩ := g1
      have g1 : Hd w5 (.slice p5 ls.length cap5) ls := ⟨p5, cap5, rfl, hc5⟩
      clear hc5
      have hblk5 := (hb5.block _ (lt_of_heap (unhide HBLK4))).trans (unhide HBLK4)
      have hb56 : Below w5.heap.size w5 (w5.alloc (.cells #[.string (bs ty), .slice p5 ls.length cap5, .slice q5 d.length bc5] 25)) := balloc (Below.refl _ _) _
      have hblk6 := (hb56.block _ (lt_of_heap hblk5)).trans hblk5
      have hgot6 := heap_new w5 (.cells #[.string (bs ty), .slice p5 ls.length cap5, .slice q5 d.length bc5] 25)
      have HB6 : Hid (Below w.heap.size w (w5.alloc (.cells #[.string (bs ty), .slice p5 ls.length cap5, .slice q5 d.length bc5] 25))) := bstep (bstep (unhide HB4) hb5) hb56
      have hg1 := g1.below hb56
      have hg3 := g3.below hb56
      have hH6 := (unhide HH).below (unhide HB6)
      have hS6 := (unhide HS).below (unhide HB6)
      clear hblk5 hb56 hb5 g1 g3 HBLK4
      go_upto_region 17 with (fail)
      generalize hw6 : w5.alloc (.cells #[.string (bs ty), .slice p5 ls.length cap5, .slice q5 d.length bc5] 25) = w6 at HB6 hg1 hg3 hH6 hS6 hblk6 hgot6 ⊢
      clear hw6
      generalize w5.heap.size = g at hgot6 ⊢
      have HKP : Hid (∀ W, Below w6.heap.size w6 W → W.heap[g]? = some (.cells #[.string (bs ty), .slice p5 ls.length cap5, .slice q5 d.length bc5] 25 (0, 0)) ∧ W.heap[w.heap.size]? = some (.cells #[.string (bs ty), .slice p 0 cap, .slice q d.length bc] 25 (0, 0))) := fun W hW => ⟨(hW.block _ (lt_of_heap hgot6)).trans hgot6, (hW.block _ (lt_of_heap hblk6)).trans hblk6⟩
      have HG6 := hide (And.intro hg1 (And.intro hg3 (And.intro hH6 hS6)))
      have G2 := hide g2
      clear hg1 hg3 hH6 hS6 hblk6 hgot6 g2
      go_cut [4] (fun v4 w' => v4 = .bool true ∧ Hid (Below w.heap.size w w'))
      case first =>
        have HSP : ∀ W, Below w6.heap.size w6 W → W.cell? ⟨g, 0, none⟩ = some (.string (bs ty)) ∧ W.cell? ⟨g, 1, none⟩ = some (.slice p5 ls.length cap5) ∧ W.cell? ⟨g, 2, none⟩ = some (.slice q5 d.length bc5) ∧ W.cell? ⟨w.heap.size, 0, none⟩ = some (.string (bs ty)) ∧ W.cell? ⟨w.heap.size, 1, none⟩ = some (.slice p 0 cap) ∧ W.cell? ⟨w.heap.size, 2, none⟩ = some (.slice q d.length bc) := fun W hW => by
          obtain ⟨k1, k2⟩ := unhide HKP W hW
          obtain ⟨c0, c1, c2, -⟩ := cells3 k1
          obtain ⟨e0, e1, e2, -⟩ := cells3 k2
          exact ⟨c0, c1, c2, e0, e1, e2⟩
        have HSP' := hide HSP
        obtain ⟨c0, c1, c2, e0, e1, e2⟩ := HSP _ (Below.refl _ _)
        have hlsn : ls.length ≤ 4294967295 := by rw [sameH_len (unhide G2)]; omega
        clear HSP HKP
        go_region_held3 (fun w' => w'.cell? ⟨g, 0, none⟩ = some (.string (bs ty)) ∧ w'.cell? ⟨g, 1, none⟩ = some (.slice p5 ls.length cap5) ∧ w'.cell? ⟨g, 2, none⟩ = some (.slice q5 d.length bc5) ∧ w'.cell? ⟨w.heap.size, 0, none⟩ = some (.string (bs ty)) ∧ w'.cell? ⟨w.heap.size, 1, none⟩ = some (.slice p 0 cap) ∧ w'.cell? ⟨w.heap.size, 2, none⟩ = some (.slice q d.length bc))
          (first | exact unhide HSP' _ (unhide HBc) | exact unhide HSP' _ (unhide HBb) | exact unhide HSP' _ (unhide HBa) | exact unhide HSP' _ (drewN_below w6 1) | go_keep)
          (first
            | (go_at_call_of 17 (Value.slice p5 ls.length cap5)
               refine (block_any ty _ ls q5 d.length bc5 _ ((unhide HG6).1.below (by first | exact drewN_below w6 1 | exact unhide HBb)) hlsn).mono ?_
               rintro e wA ⟨vA, rfl, hA, hbA⟩
               have HBa : Hid (Below w6.heap.size w6 wA) := by first | exact bstep (drewN_below w6 1) hbA | exact bstep (unhide HBb) hbA
               have HA := hide hA
               have HBA := hide hbA
               clear hA hbA)
            | (go_at_call_of 17 (Value.slice p 0 cap)
               refine (block_any ty _ [] q d.length bc _ ((unhide HG6).2.2.1.below (by first | exact drewN_below w6 1 | exact unhide HBa)) (by omega)).mono ?_
               rintro e wB ⟨vB, rfl, hB, hbB⟩
               have HBb : Hid (Below w6.heap.size w6 wB) := by first | exact bstep (drewN_below w6 1) hbB | exact bstep (unhide HBa) hbB
               have HB := hide hB
               have HBB := hide hbB
               clear hB hbB)
            | (go_at_call 16
               refine (sameB_any ty d vA vB q5 q bc5 bc ls [] _ (by first | exact unhide HA | exact (unhide HA).below (unhide HBB)) (by first | exact unhide HB | exact (unhide HB).below (unhide HBA)) ((unhide HG6).2.1.below (by first | exact unhide HBa | exact unhide HBb)) ((unhide HG6).2.2.2.below (by first | exact unhide HBa | exact unhide HBb)) hlsn (by omega) (unhide G2)).mono ?_
               rintro e wC ⟨rfl, hbC⟩
               have HBc : Hid (Below w6.heap.size w6 wC) := by first | exact bstep (unhide HBb) hbC | exact bstep (unhide HBa) hbC
               clear hbC))
        all_goals (
          have HF := hide (bstep (unhide HB6) (unhide HBc))
          go_wp2_with fail
          go_meet
          exact ⟨rfl, unhide HF⟩)
      case rest =>
        obtain ⟨rfl, HF⟩ := hcut
        go_wp2_with fail
        go_ret
        exact ⟨rfl, unhide HF⟩

set_option maxRecDepth 100000 in
set_option maxHeartbeats 4000000 in
theorem fnBlanks_walk (hpem : PemOK) (ty d bl : List UInt8) (hv : Value) (q : Option Addr) (bc : Nat) (hs : Hdrs) (w : World) (hT : Tabs w) (hH : Hd w hv hs) (hS : Sl w (.slice q d.length bc) d) (hbc : bc ≤ 9223372036854775807)
   (h1 : ty.length ≤ 9223372036854775807) (hn : hs.length ≤ 9223372036854775807) (hx : ∀ p ∈ hs, p.1.length ≤ 9223372036854775807 ∧ p.2.length ≤ 9223372036854775807) (hd : d.length ≤ 9223372036854775807) (hbl : bl.length ≤ 9223372036854775807) :
    Calls Tryz.prog 7 #[.agg #[.string (bs ty), hv, .slice q d.length bc], .string (bs bl)] w fun e w' => e = .returned (.bool true) ∧ Below w.heap.size w w' := by
  by_cases h0 : hs = [] ∧ fitsB ty hs d = true ∧ bl.length ≤ 2147483647
  · obtain ⟨rfl, h2, h3⟩ := h0
    exact fnBlanks_main hpem ty d bl hv q bc w hT hH hS hbc h2 h3
  · have hb0 : Below w.heap.size w (w.alloc (.cells #[.string (bs ty), hv, .slice q d.length bc] 25)) := balloc (Below.refl _ _) _
    have hfit := zzFits1_any ty d hv _ hs _ (hH.below hb0) (hS.below hb0) h1 hn hd hx
    rw [World.size_alloc] at hfit
    have HF := hide hfit
    obtain ⟨p, cap, rfl, -⟩ := hH
    clear hfit hb0 hS hx h1 hT
    cases hfb : fitsB ty hs d with
    | false =>
      have HK := hide hfb
      clear hfb h0
      go_enter Tryz.func7, Tryz.ntmps7
      go_wp2_with fail
      refine (unhide HF).mono ?_
      rintro e w1 ⟨rfl, hb1⟩
      rw [unhide HK]
      have HB1 : Hid (Below w.heap.size w w1) := (balloc (Below.refl _ _) _).trans (hb1.mono (by omega))
      clear hb1 HF
      go_wp2
      go_ret
      exact ⟨rfl, unhide HB1⟩
    | true =>
      have HK := hide hfb
      rw [hfb] at h0
      clear hfb
      by_cases h3 : bl.length ≤ 2147483647
      · have h4 : hs ≠ [] := fun e => h0 ⟨e, rfl, h3⟩
        have hpos : (0 : Int) < (hs.length : Int) := by have := List.length_pos_iff.2 h4; omega
        have hposN : 0 < hs.length := List.length_pos_iff.2 h4
        have hne : ¬ hs.length = 0 := by omega
        have hneq : ¬ hs = [] := h4
        have hi : ¬ (2147483647 : Int) < (bl.length : Int) := by omega
        clear h0 h4
        go_enter Tryz.func7, Tryz.ntmps7
        go_wp2_with fail
        refine (unhide HF).mono ?_
        rintro e w1 ⟨rfl, hb1⟩
        rw [unhide HK]
        have HB1 : Hid (Below w.heap.size w w1) := (balloc (Below.refl _ _) _).trans (hb1.mono (by omega))
        have hblk1 : w1.heap[w.heap.size]? = some (.cells #[.string (bs ty), .slice p hs.length cap, .slice q d.length bc] 25 (0, 0)) := by
          rw [hb1.block _ (by omega)]; exact heap_new w _
        obtain ⟨c10, c11, c12, -⟩ := cells3 hblk1
        have hwk := hide (works_any w1)
        clear hb1 HF hblk1
        go_wp2_with fail
        refine (unhide hwk).mono ?_
        rintro e w7 ⟨rfl, hb7⟩
        have HB7 : Hid (Below w.heap.size w w7) := bstep (unhide HB1) hb7
        clear hb7 hwk
        go_wp2
        go_ret
        exact ⟨rfl, unhide HB7⟩
      · have hi : (2147483647 : Int) < (bl.length : Int) := by omega
        clear h0 h3
        go_enter Tryz.func7, Tryz.ntmps7
        go_wp2_with fail
        refine (unhide HF).mono ?_
        rintro e w1 ⟨rfl, hb1⟩
        rw [unhide HK]
        have HB1 : Hid (Below w.heap.size w w1) := (balloc (Below.refl _ _) _).trans (hb1.mono (by omega))
        clear hb1 HF
        go_wp2
        go_ret
        exact ⟨rfl, unhide HB1⟩
end Go.Proofs.YtpjehmblndjknaaGreatDoor

namespace Go.Proofs.YtpjehmblndjknaaGreatDoor.fnBlanks
open Go.ChangeShapes Go.WideShapes Go.ChangeAt Go.RowKit
open Go.ChangeMaps (open_string shut_string)
set_option linter.unusedVariables false

theorem own : ownKnob Tryz.prog.godebug = none := by kernel_rfl
theorem laidOut : laidOutB Tryz.prog = true := by kernel_rfl

set_option maxRecDepth 100000 in
theorem contract (H : Type) (enc : TypeId × Value → H) (W : World) (base : Nat) (args : Array Value) (ds gs : List (DataW H)) (before : List MemPlace)
    (hval0 : ∀ (j : Nat) t v, Tryz.f7.params[j]? = some t → args[j]? = some v → Value.okWide Tryz.prog W .any base t v)
    (hW : DataW.Whole enc Tryz.prog Tryz.f7.params.toList Rows.fnBlanksSpec.vars false W args.toList ds gs before) (hL : laidMetH Tryz.prog laidL W) :
    Calls Tryz.prog 7 args W fun e W' => ∃ v, e = .returned v ∧ Rows.fnBlanksSpec.post enc Tryz.prog Tryz.f7 false true false false W args v W' := by
  have hval : ∀ (j : Nat) t v, Tryz.f7.params[j]? = some t → args[j]? = some v → Value.okWide Tryz.prog W .any base t v := hval0
  have hW' := hW
  obtain ⟨p, q, hA0, hV, rfl, hfz, hnd⟩ := hW
  have hA : DataW.TrodAll enc Tryz.prog W 0 (fun _ => true) true Tryz.f7.params.toList args.toList ds p := hA0
  rw [Tryz.params7] at hA hval
  obtain ⟨v0, vs0, d0, ds0, p0, pq0, hargs, rfl, rfl, h0, r0⟩ := trodAll_cons hA
  obtain ⟨v1, vs1, d1, ds1, p1, pq1, rfl, rfl, rfl, h1, r1⟩ := trodAll_cons r0
  obtain ⟨rfl, rfl, rfl⟩ := trodAll_nil r1
  obtain rfl : args = #[v0, v1] := by cases args; simp_all
  obtain ⟨rfl, rfl⟩ := trodVars_none hV
  have k0 := h0
  have lt0 : ∀ x ∈ p0, x.block < W.heap.size := by obtain ⟨m, hm⟩ := k0; exact DataW.trod_lt m _ _ _ hm
  have k1 := h1
  have lt1 : ∀ x ∈ p1, x.block < W.heap.size := by obtain ⟨m, hm⟩ := k1; exact DataW.trod_lt m _ _ _ hm
  obtain ⟨ty0, by0, hv0, q0, bc0, hs0, rfl, o01, o02, o03, o04, o05, o06, o07⟩ := open_block (hval 0 25 v0 rfl rfl) h0
  obtain ⟨l1, rfl, s11, s12⟩ := open_str_arg (hval 1 9 v1 rfl rfl) h1
  clear hA0 hval0
  have hw := fnBlanks_walk (fun v data w hs hl hT => pemDecode_any v data w hs hl hT) ty0 by0 l1 hv0 q0 bc0 hs0 W (tabs_of hL) o01 o02 o03 o04 o05 o07 o06 s12
  refine hw.mono fun e W' ⟨he, bel⟩ => ?_
  subst he
  have t0 := Below.trod laidOut (by kernel_rfl) (of_decide_eq_true (by kernel_rfl)) k0 bel lt0
  have t1 := Below.trod laidOut (by kernel_rfl) (of_decide_eq_true (by kernel_rfl)) k1 bel lt1
  exact ⟨_, rfl, _, _, _, [], _, [], hW', trodAll_mk1 (shut_bool Tryz.underlying4 _), (trodAll_cons_mk t0 (trodAll_cons_mk t1 trodAll_mk0)), rfl, bel.frame _, fun h => by cases h⟩

theorem reads (os : Os) {H : Type} (enc : TypeId × Value → H) : ∃ places, DataW.whole enc Tryz.prog ((laidWorld os).forCall (fun _ _ => 0) ⟨#[], #[.agg #[.string ⟨#[]⟩, .slice none 0 0, .slice none 0 0], .string ⟨#[]⟩], []⟩).memory Tryz.f7.params.toList Rows.fnBlanksSpec.vars false #[Value.agg #[.string ⟨#[]⟩, .slice none 0 0, .slice none 0 0], .string ⟨#[]⟩].toList 8 = some ([.agg [.lit (.string []), .nil, .nil], .lit (.string [])], [], places) :=
  ⟨[], by kernel_rfl⟩

set_option maxRecDepth 100000 in
theorem lifted (os : Os) (started : os.Started) (H : Type) (enc : TypeId × Value → H) (F : Stop.Interp) :
    ReturnsInHanded {} Tryz.checked os 7 .any ((OpenSpec.ofChange Rows.fnBlanksSpec).preRow enc Tryz.prog Tryz.f7 Rows.fnBlanksRow.domain false Rows.fnBlanksRow.laid) (((OpenSpec.ofChange Rows.fnBlanksSpec).at F).post enc Tryz.prog Tryz.f7 false true false false) := by
  obtain ⟨places, hx⟩ := reads os enc
  refine returnsInHanded_of_row (C := Tryz.checked) (s := OpenSpec.ofChange Rows.fnBlanksSpec) own started (by kernel_rfl) Tryz.func7
    (witness_row_atRef (enc := enc) (C := Tryz.checked) false (laidWorld os) #[.agg #[.string ⟨#[]⟩, .slice none 0 0, .slice none 0 0], .string ⟨#[]⟩] rfl (by kernel_rfl) (by kernel_rfl) (by kernel_rfl)
      (OpenSpec.preRow_of_cond 8 hx (by kernel_rfl) (fun k hk => by cases hk) (by kernel_rfl) (laid_met os _))) ?_
  intro W base args ds gs before hval hW _ hcond _ hL _ _
  exact contract H enc W base args ds gs before hval hW hL

theorem said : Rows.FnBlanksSaid :=
  OpenClaim.holds_of_cond 7 Tryz.f7 rfl rfl rfl rfl rfl rfl rfl ⟨rfl, rfl, rfl, rfl, rfl⟩ rfl rfl rfl rfl rfl (by kernel_rfl) Tryz.func7 (by kernel_rfl)
    (of_decide_eq_true (by kernel_rfl)) (by unfold Func.isWrapper; first | (rw [if_pos (by decide +kernel)]; kernel_rfl) | (rw [if_neg (by decide +kernel)]; exact ⟨rfl, rfl⟩))
    (fun os started H enc _ F => by rw [OpenClaim.pre_eq_preRow]; exact lifted os started H enc F)

/-- No parameter wants a stand-in; the program's own looks are off: what the card asks. -/
theorem plain (f : FuncId) (fn : Func) (hf : Tryz.pinned.checked.prog.funcNamed "pemblocks/laws.FnBlanks" = some f) (hfn : Tryz.pinned.checked.prog.funcs[f]? = some fn) :
    false = Tryz.pinned.checked.prog.looks [] ∧ ∀ (j : Nat) t, fn.params[j]? = some t → Tryz.pinned.checked.prog.wantsStandIn t = false := by
  obtain rfl : f = 7 := Option.some.inj ((show Tryz.prog.funcNamed "pemblocks/laws.FnBlanks" = some 7 by kernel_rfl).symm.trans hf) |>.symm
  obtain rfl : fn = Tryz.f7 := (Option.some.inj (Tryz.func7.symm.trans hfn)).symm
  refine ⟨by kernel_rfl, fun j t ht => ?_⟩
  rw [Tryz.params7] at ht
  have hm := Array.mem_of_getElem? ht
  simp at hm
  rcases hm with rfl | rfl
  · exact (show Tryz.prog.wantsStandIn 25 = false by kernel_rfl)
  · exact (show Tryz.prog.wantsStandIn 9 = false by kernel_rfl)
end Go.Proofs.YtpjehmblndjknaaGreatDoor.fnBlanks
namespace Go.Proofs.YtpjehmblndjknaaGreatDoor
theorem fnBlanks_card : Rows.FnBlanksCardSaid :=
  Claim7.holds_tied_plain_at .later [] _ _ _ _ fnBlanks.said (fun _ h => by cases h) (by kernel_rfl) (fun _ h => by cases h) fnBlanks_row_tie rfl ⟨rfl, rfl⟩ (by kernel_rfl) rfl fnBlanks.plain (by kernel_rfl)
#print axioms fnBlanks_card
end Go.Proofs.YtpjehmblndjknaaGreatDoor
