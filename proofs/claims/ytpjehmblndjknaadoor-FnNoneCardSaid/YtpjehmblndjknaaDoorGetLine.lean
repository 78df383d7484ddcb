/-
  Walks: bytes.IndexByte at the line feed, getLine.
-/
import Derived.Test.YtpjehmblndjknaaDoorTrim
import Derived.Deep.RegionWith
import Derived.Lib.Bytealg
namespace Go.Proofs.YtpjehmblndjknaaDoor
open Go.RowKit
set_option linter.unusedSimpArgs false
set_option linter.unusedVariables false

theorem indexByte_nl (l : List UInt8) : Lib.indexByte l 10 = if hasNL l then ((preNL l).length : Int) else -1 := by
  unfold hasNL preNL
  induction l with
  | nil => rfl
  | cons x r ih =>
    rw [Lib.indexByte, List.any_cons, List.takeWhile_cons]
    by_cases hx : x = 10
    · subst hx; simp
    · have h1 : (x == 10) = false := by simpa using hx
      have h2 : (x != 10) = true := by simpa using hx
      rw [h1, h2, Bool.false_or, ih]
      cases hh : (r.any fun b => b == 10) with
      | true =>
        simp only [if_true, if_false, Bool.false_eq_true]
        have : ¬ (((r.takeWhile fun b => b != 10).length : Int) == -1) = true := by simp
        rw [if_neg this, List.length_cons]
        omega
      | false => simp

theorem index_extern (l c : Nat) (W : World) : (callFunc 44 #[.slice none l c, .int .u8 10]).run Tryd.prog W = .ok (.value (.int .i64 (-1))) W := by kernel_rfl

theorem indexNL_any (v : Value) (l : List UInt8) (w : World) (hs : Sl w v l) :
    Calls Tryd.prog 27 #[v, .int .u8 10] w fun e w' => e = .returned (.int .i64 (if hasNL l then ((preNL l).length : Int) else -1)) ∧ w = w' := by
  obtain ⟨p, cap, rfl, hlc, hc⟩ := hs
  rcases hl : l with _ | ⟨y, r⟩
  · subst hl
    cases p with
    | none =>
      have hx := index_extern 0 cap
      go_enter Tryd.func27, Tryd.ntmps27
      go_wp2
      go_ret
      exact ⟨rfl, rfl⟩
    | some a =>
      refine (Tryd.bytes_IndexByte_at a 0 cap [] 10 w rfl (fun i hi => absurd hi (by omega))).mono ?_
      rintro e w' ⟨rfl, rfl⟩
      exact ⟨rfl, rfl⟩
  · rw [← hl]
    obtain ⟨b, o, rfl, hcell⟩ := hc (by rw [hl]; simp)
    have hb : Lib.bytesOf (l.map fun x : UInt8 => (x.toNat : Int)) = l := by
      unfold Lib.bytesOf
      rw [List.map_map]
      refine (List.map_congr_left (fun x _ => ?_)).trans (List.map_id l)
      simp
    refine (Tryd.bytes_IndexByte_at ⟨b, o, none⟩ l.length cap (l.map fun x : UInt8 => (x.toNat : Int)) 10 w (List.length_map _) (fun i hi => ?_)).mono ?_
    · rw [addr_add, hcell i (l[i]'hi) (List.getElem?_eq_getElem hi)]
      simp [List.getD, hi]
    · rintro e w' ⟨rfl, rfl⟩
      rw [hb, ← indexByte_nl]
      exact ⟨rfl, rfl⟩

/-- What getLine says. -/
def LineSays (l : List UInt8) (w : World) (e : Ending) (w' : World) : Prop :=
  ∃ v1 v2, e = .returned (.tuple #[v1, v2, .int .i64 (consP l : Int)]) ∧ Sl w' v1 (lineP l) ∧ Sl w' v2 (restP l) ∧ Below w.heap.size w w'

set_option maxRecDepth 100000 in
set_option maxHeartbeats 800000 in
theorem getLine_no (v : Value) (l : List UInt8) (w : World) (hs : Sl w v l) (hm : l.length ≤ 9223372036854775806) (hnl : hasNL l = false) :
    Calls Tryd.prog 14 #[v] w (LineSays l w) := by
  have hidx := indexNL_any v l w hs
  rw [hnl, if_neg (by decide)] at hidx
  obtain ⟨v1, hv1, hs1⟩ := hs.cutHi l.length (Nat.le_refl _)
  obtain ⟨v2, hv2, hs2⟩ := hs.cutLo l.length (Nat.le_refl _)
  rw [List.take_length] at hs1
  rw [List.drop_length] at hs2
  have e1 : lineP l = trimR l := by unfold lineP; rw [if_neg (by rw [hnl]; decide)]
  have e2 : restP l = [] := by unfold restP; rw [if_neg (by rw [hnl]; decide)]
  have e3 : consP l = l.length := by unfold consP; rw [if_neg (by rw [hnl]; decide)]
  have HI := hide hidx
  have HS2 := hide hs2
  have HTR := hide (trimRight_any v1 l w.drew hs1 (by omega))
  have HE := hide (And.intro e1 (And.intro e2 e3))
  obtain ⟨p, cap, rfl, hlc, hc⟩ := hs
  clear hidx hs1 hs2 hc hlc e1 e2 e3 hnl
  go_enter Tryd.func14, Tryd.ntmps14
  go_wp2_with fail
  refine (unhide HI).mono ?_
  rintro e w' ⟨rfl, rfl⟩
  clear HI
  go_wp2
  go_region_with (first
    | (go_at_call 28; refine (unhide HTR).mono ?_; rintro e w1 ⟨⟨v3, rfl, hs3⟩, hb3⟩))
  have HF : Hid (Sl w1 v3 (lineP l) ∧ Sl w1 v2 (restP l) ∧ Below w.heap.size w w1) := by
    obtain ⟨e1, e2, e3⟩ := unhide HE
    have hb : Below w.heap.size w w1 := bstep (drewN_below w 1) hb3
    exact ⟨by rw [e1]; exact hs3, by rw [e2]; exact (unhide HS2).below hb, hb⟩
  clear hs3 hb3
  go_wp2
  go_ret3
  obtain ⟨f1, f2, f3⟩ := unhide HF
  exact ⟨v3, v2, by rw [(unhide HE).2.2]; rfl, f1, f2, f3⟩

set_option maxRecDepth 100000 in
set_option maxHeartbeats 800000 in
theorem getLine_first (v : Value) (l : List UInt8) (w : World) (hs : Sl w v l) (hm : l.length ≤ 9223372036854775806) (hnl : hasNL l = true) (h0 : (preNL l).length = 0) :
    Calls Tryd.prog 14 #[v] w (LineSays l w) := by
  have hidx := indexNL_any v l w hs
  rw [hnl, if_pos rfl] at hidx
  have hlt := preNL_lt hnl
  have hpt := preNL_take l
  have hdc : dropCR (preNL l) = l.take (0) := by
    have : preNL l = [] := List.eq_nil_of_length_eq_zero h0
    rw [this]; rfl
  have e1 : lineP l = trimR (l.take (0)) := by unfold lineP; rw [if_pos hnl, hdc]
  have e2 : restP l = l.drop ((preNL l).length + 1) := by unfold restP; rw [if_pos hnl]
  have e3 : consP l = (preNL l).length + 1 := by unfold consP; rw [if_pos hnl]
  clear hdc hpt
  obtain ⟨v1, hv1, hs1⟩ := hs.cutHi (0) (by omega)
  obtain ⟨v2, hv2, hs2⟩ := hs.cutLo ((preNL l).length + 1) (by omega)
  have HI := hide hidx
  have HS2 := hide hs2
  have HTR := hide (trimRight_any v1 (l.take (0)) w.drew hs1 (by rw [List.length_take]; omega))
  have HE := hide (And.intro e1 (And.intro e2 e3))
  obtain ⟨p, cap, rfl, hlc, hc⟩ := hs
  have hz : ((preNL l).length : Int) = 0 := by omega
  have HZ := hide hz
  clear hz
  clear hidx hs1 hs2 hc hlc e1 e2 e3 hnl
  rw [h0] at HI HE hv2 HS2
  have HI0 : Hid (Calls Tryd.prog 27 #[.slice p l.length cap, .int .u8 10] w fun e w' => e = .returned (.int .i64 0) ∧ w = w') := unhide HI
  have hv2' : ∀ W, (Instr.sliceAt 22 (.slice p l.length cap) (some (.int .i64 1)) none none).run Tryd.prog W = .ok v2 W := hv2
  have hv1' : ∀ W, (Instr.sliceAt 22 (.slice p l.length cap) (some (.int .i64 0)) (some (.int .i64 0)) none).run Tryd.prog W = .ok v1 W := hv1
  clear h0 HZ hlt HI hv1 hv2
  have HI := HI0
  clear HI0
  go_enter Tryd.func14, Tryd.ntmps14
  go_wp2_with fail
  refine (unhide HI).mono ?_
  rintro e w' ⟨rfl, rfl⟩
  clear HI
  go_wp2
  go_region_with (first
    | (go_at_call 28; refine (unhide HTR).mono ?_; rintro e w1 ⟨⟨v3, rfl, hs3⟩, hb3⟩))
  have HF : Hid (Sl w1 v3 (lineP l) ∧ Sl w1 v2 (restP l) ∧ Below w.heap.size w w1) := by
    obtain ⟨e1, e2, e3⟩ := unhide HE
    have hb : Below w.heap.size w w1 := bstep (drewN_below w 1) hb3
    exact ⟨by rw [e1]; exact hs3, by rw [e2]; exact (unhide HS2).below hb, hb⟩
  clear hs3 hb3
  go_wp2
  go_ret3
  obtain ⟨f1, f2, f3⟩ := unhide HF
  exact ⟨v3, v2, by rw [(unhide HE).2.2]; rfl, f1, f2, f3⟩

set_option maxRecDepth 100000 in
set_option maxHeartbeats 800000 in
theorem getLine_cr (v : Value) (l : List UInt8) (w : World) (hs : Sl w v l) (hm : l.length ≤ 9223372036854775806) (hnl : hasNL l = true) (h0 : 0 < (preNL l).length) (x : UInt8) (hx : l[(preNL l).length - 1]? = some x) (h13 : ((x.toNat : Int) == 13) = true) :
    Calls Tryd.prog 14 #[v] w (LineSays l w) := by
  have hidx := indexNL_any v l w hs
  rw [hnl, if_pos rfl] at hidx
  have hlt := preNL_lt hnl
  have hpt := preNL_take l
  have hdc : dropCR (preNL l) = l.take ((preNL l).length - 1) := by
    have hl2 : (preNL l).getLast? = some x := by
      rw [List.getLast?_eq_getElem?, hpt, List.getElem?_take]
      have e : (l.take (preNL l).length).length = (preNL l).length := by rw [List.length_take]; omega
      rw [e, if_pos (by omega)]
      exact hx
    unfold dropCR
    have hx13 : x = 13 := by
      have h : (x.toNat : Int) = 13 := by simpa using h13
      rw [← UInt8.toNat_inj]
      have : (13 : UInt8).toNat = 13 := rfl
      omega
    rw [hl2, hx13, if_pos rfl, List.dropLast_eq_take]
    conv => lhs; arg 2; rw [hpt]
    rw [List.take_take, Nat.min_eq_left (by omega)]
  have e1 : lineP l = trimR (l.take ((preNL l).length - 1)) := by unfold lineP; rw [if_pos hnl, hdc]
  have e2 : restP l = l.drop ((preNL l).length + 1) := by unfold restP; rw [if_pos hnl]
  have e3 : consP l = (preNL l).length + 1 := by unfold consP; rw [if_pos hnl]
  clear hdc hpt
  obtain ⟨v1, hv1, hs1⟩ := hs.cutHi ((preNL l).length - 1) (by omega)
  obtain ⟨v2, hv2, hs2⟩ := hs.cutLo ((preNL l).length + 1) (by omega)
  have HI := hide hidx
  have HS2 := hide hs2
  have HTR := hide (trimRight_any v1 (l.take ((preNL l).length - 1)) w.drew hs1 (by rw [List.length_take]; omega))
  have HE := hide (And.intro e1 (And.intro e2 e3))
  obtain ⟨p, cap, rfl, hlc, hc⟩ := hs
  obtain ⟨b, o, rfl, hcell⟩ := hc (by rintro rfl; simp at hlt)
  have hcx := hcell ((preNL l).length - 1) x hx
  have hpos : (0 : Int) < ((preNL l).length : Int) := by omega
  have hbx := bounds_byte x

  clear hidx hs1 hs2 hc hlc hcell hx e1 e2 e3 hnl
  generalize hi : (preNL l).length = i at *
  have HIE := hide hi
  clear hi
  have ec : ((i + 1 : Nat) : Int) = (i : Int) + 1 := by omega
  have ec2 : ((i - 1 : Nat) : Int) = (i : Int) - 1 := by omega
  rw [ec] at hv2
  rw [ec2] at hv1
  clear ec ec2
  go_enter Tryd.func14, Tryd.ntmps14
  go_wp2_with fail
  refine (unhide HI).mono ?_
  rintro e w' ⟨rfl, rfl⟩
  clear HI
  go_wp2
  go_region_with (first
    | (go_at_call 28; refine (unhide HTR).mono ?_; rintro e w1 ⟨⟨v3, rfl, hs3⟩, hb3⟩))
  have HF : Hid (Sl w1 v3 (lineP l) ∧ Sl w1 v2 (restP l) ∧ Below w.heap.size w w1) := by
    obtain ⟨e1, e2, e3⟩ := unhide HE
    have hb : Below w.heap.size w w1 := bstep (drewN_below w 1) hb3
    exact ⟨by rw [e1]; exact hs3, by rw [e2]; exact (unhide HS2).below hb, hb⟩
  clear hs3 hb3
  go_wp2
  go_ret3
  obtain ⟨f1, f2, f3⟩ := unhide HF
  exact ⟨v3, v2, by rw [(unhide HE).2.2]; rfl, f1, f2, f3⟩

set_option maxRecDepth 100000 in
set_option maxHeartbeats 800000 in
theorem getLine_plain (v : Value) (l : List UInt8) (w : World) (hs : Sl w v l) (hm : l.length ≤ 9223372036854775806) (hnl : hasNL l = true) (h0 : 0 < (preNL l).length) (x : UInt8) (hx : l[(preNL l).length - 1]? = some x) (h13 : ((x.toNat : Int) == 13) = false) :
    Calls Tryd.prog 14 #[v] w (LineSays l w) := by
  have hidx := indexNL_any v l w hs
  rw [hnl, if_pos rfl] at hidx
  have hlt := preNL_lt hnl
  have hpt := preNL_take l
  have hdc : dropCR (preNL l) = l.take ((preNL l).length) := by
    have hl2 : (preNL l).getLast? = some x := by
      rw [List.getLast?_eq_getElem?, hpt, List.getElem?_take]
      have e : (l.take (preNL l).length).length = (preNL l).length := by rw [List.length_take]; omega
      rw [e, if_pos (by omega)]
      exact hx
    unfold dropCR
    have hx13 : ¬ (preNL l).getLast? = some 13 := by
      rw [hl2]
      intro e
      have : x = 13 := Option.some.inj e
      subst this
      simp at h13
    rw [if_neg hx13]
    exact hpt
  have e1 : lineP l = trimR (l.take ((preNL l).length)) := by unfold lineP; rw [if_pos hnl, hdc]
  have e2 : restP l = l.drop ((preNL l).length + 1) := by unfold restP; rw [if_pos hnl]
  have e3 : consP l = (preNL l).length + 1 := by unfold consP; rw [if_pos hnl]
  clear hdc hpt
  obtain ⟨v1, hv1, hs1⟩ := hs.cutHi ((preNL l).length) (by omega)
  obtain ⟨v2, hv2, hs2⟩ := hs.cutLo ((preNL l).length + 1) (by omega)
  have HI := hide hidx
  have HS2 := hide hs2
  have HTR := hide (trimRight_any v1 (l.take ((preNL l).length)) w.drew hs1 (by rw [List.length_take]; omega))
  have HE := hide (And.intro e1 (And.intro e2 e3))
  obtain ⟨p, cap, rfl, hlc, hc⟩ := hs
  obtain ⟨b, o, rfl, hcell⟩ := hc (by rintro rfl; simp at hlt)
  have hcx := hcell ((preNL l).length - 1) x hx
  have hpos : (0 : Int) < ((preNL l).length : Int) := by omega
  have hbx := bounds_byte x

  clear hidx hs1 hs2 hc hlc hcell hx e1 e2 e3 hnl
  generalize hi : (preNL l).length = i at *
  have HIE := hide hi
  clear hi
  have ec : ((i + 1 : Nat) : Int) = (i : Int) + 1 := by omega
  rw [ec] at hv2
  clear ec
  go_enter Tryd.func14, Tryd.ntmps14
  go_wp2_with fail
  refine (unhide HI).mono ?_
  rintro e w' ⟨rfl, rfl⟩
  clear HI
  go_wp2
  go_region_with (first
    | (go_at_call 28; refine (unhide HTR).mono ?_; rintro e w1 ⟨⟨v3, rfl, hs3⟩, hb3⟩))
  have HF : Hid (Sl w1 v3 (lineP l) ∧ Sl w1 v2 (restP l) ∧ Below w.heap.size w w1) := by
    obtain ⟨e1, e2, e3⟩ := unhide HE
    have hb : Below w.heap.size w w1 := bstep (drewN_below w 1) hb3
    exact ⟨by rw [e1]; exact hs3, by rw [e2]; exact (unhide HS2).below hb, hb⟩
  clear hs3 hb3
  go_wp2
  go_ret3
  obtain ⟨f1, f2, f3⟩ := unhide HF
  exact ⟨v3, v2, by rw [(unhide HE).2.2]; rfl, f1, f2, f3⟩

theorem getLine_any (v : Value) (l : List UInt8) (w : World) (hs : Sl w v l) (hm : l.length ≤ 9223372036854775806) :
    Calls Tryd.prog 14 #[v] w (LineSays l w) := by
  cases hnl : hasNL l with
  | false => exact getLine_no v l w hs hm hnl
  | true =>
    have hlt := preNL_lt hnl
    by_cases h0 : (preNL l).length = 0
    · exact getLine_first v l w hs hm hnl h0
    · obtain ⟨x, hx⟩ : ∃ x, l[(preNL l).length - 1]? = some x := ⟨_, List.getElem?_eq_getElem (by omega)⟩
      cases h13 : ((x.toNat : Int) == 13) with
      | true => exact getLine_cr v l w hs hm hnl (by omega) x hx h13
      | false => exact getLine_plain v l w hs hm hnl (by omega) x hx h13
end Go.Proofs.YtpjehmblndjknaaDoor
