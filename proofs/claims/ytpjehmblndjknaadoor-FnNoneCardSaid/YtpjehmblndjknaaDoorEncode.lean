/-
  Walk: pem.Encode where no key has a colon.
-/
import Derived.Test.YtpjehmblndjknaaDoorSoFar
import Derived.Test.YtpjehmblndjknaaDoorNewEncr
import Derived.Test.YtpjehmblndjknaaDoorForm
import Derived.Deep.DeepCutAuto
import Derived.Deep.RegionWith
import Derived.Deep.Light
namespace Go.Proofs.YtpjehmblndjknaaDoor
open Go.RowKit Go.Maps
set_option linter.unusedSimpArgs false
set_option linter.unusedVariables false

theorem infoS : (Tryd.prog.info? 9).map (fun i => (i.zero, i.size, i.bytes)) = some (some (.string ⟨#[]⟩), 1, 16) := by kernel_rfl
/-- The keys collected but Proc-Type. -/
def notProc (ss : List (List UInt8)) : List (List UInt8) := ss.filter fun k => !decide (k = procT)
theorem notProc_le (ss : List (List UInt8)) : (notProc ss).length ≤ ss.length := List.length_filter_le _ _
theorem notProc_snoc_p (ss : List (List UInt8)) : notProc (ss ++ [procT]) = notProc ss := by unfold notProc; rw [List.filter_append]; simp
theorem notProc_snoc {ss : List (List UInt8)} {x : List UInt8} (h : x ≠ procT) : notProc (ss ++ [x]) = notProc ss ++ [x] := by unfold notProc; rw [List.filter_append]; simp [h]

set_option maxRecDepth 100000 in
set_option maxHeartbeats 20000000 in
theorem encode_main (hso : SortOK) (W : Wr) (hw : WrOK W) (hah : ∀ w, (nilAhead methFuel W.T W.v "Write").run Tryd.prog w = .ok (some false) w) (pb mb sb so bc : Nat) (p : Option Addr) (ty acc d : List UInt8) (hs : Hdrs) (w : World) (hI : W.Inv acc w) (hP : PB w pb ty mb (.slice p d.length bc)) (hM : HM w mb hs)
   (hpb : pb ≠ W.bb) (hmb : mb ≠ W.bb) (hp : d ≠ [] → p = some ⟨sb, so, none⟩) (hsrc : Src w sb so d) (hsb : sb < W.B) (hdc : d.length ≤ bc) (hbc : bc ≤ 9223372036854775807)
   (hkl : ∀ p ∈ hs, p.1.length ≤ 140737488355328) (hnl : hs.length ≤ 4294967296) (hno : ∀ k ∈ hkeys hs, hasColon k = false) (hsz : acc.length + (pemOut ty hs d).length + 8 * d.length ≤ 17592186044416) :
    Calls Tryd.prog 29 #[.iface W.T W.v, .pointer (some ⟨pb, 0, none⟩)] w fun e w' => ∃ ev, e = .returned ev ∧ WroteE W acc (pemOut ty hs d) w ev w' := by
  have HM0 := hide hM
  obtain ⟨n, D, hn, hown, hD⟩ := hM
  have c1 := hP.c1
  have HD := hide hD
  have HKL := hide hkl
  have HNO := hide hno
  have HNL := hide hnl
  have HSZ := hide hsz
  have HP := hide hP
  have HS := hide (And.intro hp (And.intro hsrc (And.intro hsb hdc)))
  have HI := hide hI
  have hbb := hw.lt _ _ hI
  have HNE := hide (And.intro hpb hmb)
  clear hno hnl hsz hD hn hP hkl hp hsrc hsb hdc hI hpb hmb
  go_enter Tryd.func29, Tryd.ntmps29
  go_wp2_with (first
    | (at_range; refine wpList_range_own _ rfl _ 45 rfl 9 9 lawS Tryd.underlying45 _ mb n D rfl hown ?_; intro w0 hrg0 hg0 hs0)
    | fail)
  go_frame
  have hb0 : Below w.heap.size w w0 := (Below.refl _ _).grown hg0 (Nat.le_refl _) (fun j hj => by cases hj)
  clear hs0 hg0
  go_loopw [5] (fun _ wr => ∃ (left : Lit → Bool) (cnt : Nat), wr.ranges Tryd.prog 9 (plainElem Tryd.prog 9) mb w.heap.size n D left cnt ∧ Below w.heap.size w wr) (fun _ wr => wr.rangeLeft mb w.heap.size)
  case atStart => exact ⟨_, _, hrg0, hb0⟩
  case round =>
    clear hrg0 hb0
    obtain ⟨left, cnt, hrg, hb⟩ := hrel
    go_wp2_with (first
      | (at_next; refine wpList_next_ranges _ rfl _ rfl 9 lawS (plainElem Tryd.prog 9) Go.Proofs.encStr Value.string invK invV mb w.heap.size n _ _ _ rfl hrg ?_ ?_)
      | fail)
    rotate_left
    · as_aux_lemma =>
      intro x c kl yd yp w2 cnt2 hkey hlk hv hat hrg2 hlt hg2 hs2 hen
      obtain ⟨x', ex, rfl, hxl⟩ := Maps.keyOf_str Tryd.underlying9 hkey
      obtain rfl : x = x' := encStr_inj ex
      have hb2 : Below w.heap.size w w2 := hb.grown hg2 hb.size (fun j hj => by cases hj; exact Nat.le_refl _)
      obtain ⟨vx, hvx, hyd⟩ := collected_at (unhide HD) hat
      have hxs : x.length ≤ 140737488355328 := unhide HKL _ (hget_mem hvx)
      have hcol := zzContains_colon x w2 (by omega)
      rw [unhide HNO x (hkeys_mem.2 (hget_isSome.1 (by rw [hvx]; rfl)))] at hcol
      have HCOL := hide hcol
      have HL := hide (And.intro hrg.left_eq hrg2.left_eq)
      have HLT := hide hlt
      rw [encStr_bs] at hen
      clear hs2 hg2 hkey hlk hv hat hrg hxl hb ex hlt hvx hyd hcol
      go_wp2_with fail
      refine (unhide HCOL).mono ?_
      rintro e w' ⟨rfl, rfl⟩
      clear hen HCOL
      go_wp2
      refine ⟨⟨_, cnt2, hrg2, hb2⟩, ?_⟩
      rw [(unhide HL).1, (unhide HL).2]
      exact unhide HLT
    · intro hc0 hl0
      have h1 : SoFar W acc [] w wr := by
        refine ⟨FrL.of_below hb (hw.size _ _ (unhide HI)), ?_⟩
        rw [List.append_nil]
        exact hw.keep _ _ _ (unhide HI) (KeepW.below hb)
      have H1 := hide (h1.drew hw)
      obtain ⟨Te, ve, hev⟩ := hw.ev_ne
      obtain ⟨cap1, wb1, hcv1, HW1⟩ := wr_str' hw (unhide H1) begP (by have := unhide HSZ; show _ + 0 + 11 ≤ _; omega) _ beg_ext 11 rfl wr.heap.size rfl
      clear hrg hb hl0 hc0 h1 H1 c1
      have hm := hw.meth
      have hc := hw.call
      go_wp2_with fail
      go_cut [7] (fun v7 w' => Next W acc [] begP w v7 w')
      case first =>
        -- <<1
        as_aux_lemma =>
        go_region_with (first
          | (refine (unhide HW1).mono ?_; rintro e w1 ⟨n1, ev1, rfl, hE1⟩))
        all_goals (go_wp2_with fail; go_meet; exact hE1)
        -- >>1
      clear hcv1 HW1
      rcases hcut with ⟨rfl, h2⟩ | ⟨e7, hE⟩
      rotate_left
      · have HE := hide (fin_err hE (pemOut_1 ty hs d))
        rw [hev] at e7
        subst e7
        clear hE
        go_wp2
        go_ret
        exact ⟨_, congrArg Ending.returned hev.symm, unhide HE⟩
      as_aux_lemma =>
      obtain ⟨w2, hw2⟩ : ∃ w2, w2 = wc := ⟨_, rfl⟩
      subst hw2
      have H2 := hide (SoFar.drew hw h2)
      have P2 := (unhide HP).soFar h2 (unhide HNE).1
      have c0 : w2.cell? ⟨pb, 0, none⟩ = some (.string (bs ty)) := P2.c0
      have htl : ty.length ≤ 17592186044416 := by have := unhide HSZ; have := part_lens ty hs d; omega
      have hs2 : acc.length + ([] ++ begP).length + (ty ++ [45, 45, 45, 45, 45, 10]).length ≤ 140737488355328 := by
        have := unhide HSZ
        have := part_lens ty hs d
        have e6 : (ty ++ [45, 45, 45, 45, 45, 10]).length = ty.length + 6 := by simp
        have e7 : ([] ++ begP).length = 11 := rfl
        omega
      obtain ⟨cap2, wb2, hcv2, HW2⟩ := wr_str' hw (unhide H2) (ty ++ [45, 45, 45, 45, 45, 10]) hs2 _ rfl (ty.length + 6) (by simp) w2.heap.size rfl
      clear h2 P2 hs2
      go_wp2_with fail
      go_cut [9] (fun v9 w' => Next W acc ([] ++ begP) (ty ++ [45, 45, 45, 45, 45, 10]) w v9 w')
      case first =>
        -- <<2
        as_aux_lemma =>
        go_region_with (first
          | (refine (unhide HW2).mono ?_; rintro e w1 ⟨n1, ev1, rfl, hE1⟩))
        all_goals (go_wp2_with fail; go_meet; exact hE1)
        -- >>2
      clear hcv2 HW2
      rcases hcut with ⟨rfl, h3⟩ | ⟨e7, hE⟩
      rotate_left
      · have HE := hide (fin_err hE (pemOut_2 ty hs d))
        rw [hev] at e7
        subst e7
        clear hE
        go_wp2
        go_ret
        exact ⟨_, congrArg Ending.returned hev.symm, unhide HE⟩
      as_aux_lemma =>
      obtain ⟨w3, hw3⟩ : ∃ w3, w3 = wc := ⟨_, rfl⟩
      subst hw3
      have h3 : SoFar W acc (part2 ty) w w3 := h3
      have M3 := (unhide HM0).soFar h3 (unhide HNE).2
      have P3 := (unhide HP).soFar h3 (unhide HNE).1
      have c1 : w3.cell? ⟨pb, 1, none⟩ = some (.map (some mb)) := P3.c1
      have hown3 : w3.ownsMap Tryd.prog 9 (plainElem Tryd.prog 9) mb n D := ownsMap_heap hown (fun es c hb => h3.1.2 mb _ hb (by simpa using (unhide HNE).2) (by intro c fz e; cases e))
      have H3 := hide h3
      clear h3
      go_upto_if 76 with (first
        | (at_len; refine wpList_len_own _ rfl _ 45 rfl 9 9 Tryd.underlying45 _ mb n D rfl hown3 ?_)
        | fail)
      go_cut [] (fun w' => SoFar W acc (part3 ty hs) w w')
      case first =>
        -- <<3
        as_aux_lemma =>
        by_cases h0 : hs = []
        · have hz : ¬ (0 : Int) < ((Maps.size D : Nat) : Int) := by rw [(unhide HD).2.2.2, h0]; decide
          have e3 : part3 ty hs = part2 ty := by unfold part3 headOut; rw [if_pos h0, List.append_nil]
          have H3' : Hid (SoFar W acc (part3 ty hs) w w3) := by rw [e3]; exact unhide H3
          clear e3 h0
          go_wp2_with fail
          go_meet
          exact unhide H3'
        · have hz : (0 : Int) < ((Maps.size D : Nat) : Int) := by
            rw [(unhide HD).2.2.2]
            have : (hkeys hs) ≠ [] := fun e => h0 (hkeys_nil_iff.1 e)
            have := List.length_pos_iff.2 this
            omega
          have hmx : Maps.size D ≤ 4294967296 := by rw [(unhide HD).2.2.2]; have := hkeys_len hs; have := unhide HNL; omega
          have H0 := hide h0
          obtain ⟨i0, hi, hz0, hz1, hz2⟩ := info_parts infoS
          have hml : Maps.size D ≤ maxLen := by unfold maxLen; omega
          have hbl := hown3.lt
          have hpl : pb < w3.heap.size := lt_of_heap P3
          clear h0
          go_wp2_with (first
            | (at_len; refine wpList_len_own _ rfl _ 45 rfl 9 9 Tryd.underlying45 _ mb n D rfl hown3 ?_)
            | (at_make; refine wpList_make_own _ rfl _ _ 102 rfl w3.heap.size 9 i0 (.string ⟨#[]⟩) 1 Tryd.underlying102 hi hz0 hz1 _ _ _ (Maps.size D) rfl rfl rfl (by rw [hz2]; omega) hml (Nat.le_refl _) ?_; intro w4 hrow4 hg4; have c14 : w4.cell? ⟨pb, 1, none⟩ = some (.map (some mb)) := (World.cell?_of_block (hg4.block pb hpl (by simp))).trans c1)
            | (at_range; refine wpList_range_own _ rfl _ 45 rfl 9 9 lawS Tryd.underlying45 _ mb n D rfl (hown3.kept hg4 (by simp)) ?_; intro w5 hrg5 hg5 hs5)
            | fail)
          go_frame
          have h5 : SoFar W acc (part2 ty) w w5 := ((unhide H3).grown hw hbb hg4 (fun j hj => by cases hj)).grown hw hbb hg5 (fun j hj => by cases hj)
          have hrow5 := hrow4.kept hg5 (Or.inr (by simp [Value.ownBlock]))
          have HSZ5 : Hid (w.heap.size ≤ w3.heap.size ∧ w3.heap.size ≤ w4.heap.size) := ⟨(unhide H3).size, hg4.size⟩
          have h15 : pb ≠ w4.heap.size := by have := hg4.size; omega
          have h25 : mb ≠ w4.heap.size := by have := hg4.size; omega
          clear hs5 hg5 hrow4 c1 c14 hown3 H3 M3 P3 hz
          go_loopw [10, 11, 12] (fun v10 v11 _ wr => ∃ (left : Lit → Bool) (cnt : Nat) (ss : List (List UInt8)), wr.ranges Tryd.prog 9 (plainElem Tryd.prog 9) mb w4.heap.size n D left cnt ∧ (notProc ss).length + cnt ≤ Maps.size D ∧
            wr.ownsRow w3.heap.size 9 1 v10 (notProc ss).length ((notProc ss).map Go.Proofs.encStr) ∧ v10 ≠ .slice none 0 0 ∧ v11 = .bool (decide (procT ∈ ss)) ∧ Hid (Collected D left ss) ∧ SoFar W acc (part2 ty) w wr)
            (fun _ _ _ wr => wr.rangeLeft mb w4.heap.size)
          case atStart => exact ⟨_, _, [], hrg5, by simp [notProc], hrow5, by simp, rfl, Collected.start D, h5⟩
          case round =>
            clear hrg5 hrow5 h5
            obtain ⟨left, cnt, ss, hrg, hcs, hrow, hnn, rfl, HC, hS⟩ := hrel
            go_wp2_with (first
              | (at_next; refine wpList_next_ranges _ rfl _ rfl 9 lawS (plainElem Tryd.prog 9) Go.Proofs.encStr Value.string invK invV mb w4.heap.size n _ _ _ rfl hrg ?_ ?_)
              | fail)
            rotate_left
            · as_aux_lemma =>
              intro x c kl yd yp w7 cnt7 hkey hlk hv hat hrg7 hlt hg7 hs7 hen
              obtain ⟨x', ex, rfl, hxl⟩ := Maps.keyOf_str Tryd.underlying9 hkey
              obtain rfl : x = x' := encStr_inj ex
              have HCS := hide ((unhide HC).step hlk hat)
              have hrow7 := hrow.kept hg7 (Or.inr (row_ne_iter hrow hrg).symm)
              have hS7 : SoFar W acc (part2 ty) w w7 := hS.grown hw hbb hg7 (fun j hj => by
                cases hj
                have := unhide HSZ5
                refine ⟨by omega, fun o ho c fz e => ?_⟩
                obtain ⟨_, _, _, _, _, _, _, _, _, hit, _⟩ := hrg
                rw [hit] at ho
                rw [← Option.some.inj ho] at e
                cases e)
              have HL := hide (And.intro hrg.left_eq hlt)
              have HSS := hide (And.intro hS.size (And.intro hg7.size hS7))
              rw [encStr_bs] at hen
              clear hs7 hg7 hkey hlk hv hat hrg hxl ex hlt hrow hS hS7
              by_cases hxp : x = procT
              · have hq : (x == [80, 114, 111, 99, 45, 84, 121, 112, 101]) = true := by rw [hxp]; rfl
                have HE : Hid (notProc (ss ++ [x]) = notProc ss ∧ procT ∈ ss ++ [x]) := by subst hxp; exact ⟨notProc_snoc_p ss, by simp⟩
                have HM7 := hide hrg7.left_eq
                clear hxp
                go_wp2_with fail
                go_light
                refine ⟨⟨_, cnt7, ss ++ [x], hrg7, by rw [(unhide HE).1]; have := (unhide HL).2; omega, by rw [(unhide HE).1]; exact hrow7, hnn, by rw [decide_eq_true (unhide HE).2], unhide HCS, (unhide HSS).2.2⟩, ?_⟩
                rw [(unhide HL).1, unhide HM7]; exact (unhide HL).2
              · have hq : (x == [80, 114, 111, 99, 45, 84, 121, 112, 101]) = false := by
                  rw [beq_eq_false_iff_ne]; exact hxp
                have HE : Hid (notProc (ss ++ [x]) = notProc ss ++ [x] ∧ decide (procT ∈ ss) = decide (procT ∈ ss ++ [x])) := by
                  refine ⟨notProc_snoc hxp, ?_⟩
                  simp [Ne.symm hxp]
                have HLT7 := hide hrg7.lt
                have hlen7 : (notProc ss).length + 1 ≤ 4294967296 := by have := (unhide HL).2; omega
                clear hxp
                go_wp2_with (first
                  | (at_builtin; refine wpList_append_own _ rfl _ _ 102 rfl w3.heap.size 9 i0 (.string ⟨#[]⟩) 1 16 Tryd.underlying102 hi hz0 hz1 hz2 rfl (by decide) _ _ _ rfl (hrow7.alloc _) ⟨w7.heap.size, 0, none⟩ 1 1 [.string (bs x)] rfl rfl (cell_one_new _ _ _) (by simp [Value.oneCell']) (by unfold maxLen; omega) (by omega) (by have := unhide HLT7; have := unhide HSZ5; simp; omega) ?_; intro v' w8 hown8 hg8 hnil8; go_frame)
                  | fail)
                have hg8' : (w7.alloc (.cells #[.string (bs x)] 9)).grownBy w8 u10.ownBlock := hg8
                have hn8' : v' ≠ .slice none 0 0 := fun hv' => by have := (hnil8.1 hv').2; cases this
                clear hg8 hnil8
                go_light
                have hrA := hrow7.alloc (.cells #[.string (bs x)] 9)
                have hrg8 := (hrg7.alloc (.cells #[.string (bs x)] 9)).kept hg8' (row_ne_low hrow7 hbl) (row_ne_iter hrow7 hrg7)
                have h33 : w.heap.size ≤ w3.heap.size := (unhide HSZ5).1
                have hS8 : SoFar W acc (part2 ty) w w8 := ((unhide HSS).2.2.below hw (balloc (Below.refl _ _) _)).grown hw hbb hg8' (fun j hj => ⟨Nat.le_trans h33 (row_block hrA hj).1, (row_block hrA hj).2⟩)
                have e1 := (unhide HE).1
                have e2 := (unhide HL).2
                have hcs8 : (notProc (ss ++ [x])).length + cnt7 ≤ Maps.size D := by rw [e1, List.length_append]; simp; omega
                have hown8' : w8.ownsRow w3.heap.size 9 1 v' (notProc (ss ++ [x])).length ((notProc (ss ++ [x])).map Go.Proofs.encStr) := by rw [e1, List.length_append, List.map_append]; exact hown8
                refine ⟨⟨_, cnt7, ss ++ [x], hrg8, hcs8, hown8', hn8', by rw [(unhide HE).2], unhide HCS, hS8⟩, ?_⟩
                rw [(unhide HL).1, hrg8.left_eq]; exact e2
            · intro hc0 hl0
              have hperm := collected_keys (unhide HD) (unhide HC) hl0
              have hlenS : (notProc ss).length < 4611686018427387904 := by omega
              have HPC := hide hperm
              -- the header Proc-Type
              have h7 : SoFar W acc (part2 ty) w wr := hS
              have M7 := (unhide HM0).soFar h7 (unhide HNE).2
              have P7 := (unhide HP).soFar h7 (unhide HNE).1
              have c17 : wr.cell? ⟨pb, 1, none⟩ = some (.map (some mb)) := P7.c1
              have HROW := hide hrow
              have HNN := hide hnn
              have H7 := hide h7
              have hpi : decide (procT ∈ ss) = (hget hs procT).isSome := by
                rw [Bool.eq_iff_iff, decide_eq_true_iff, hperm.mem_iff, hkeys_mem, hget_isSome]
              have HPI := hide hpi
              clear hrg hc0 hl0 HC hcs hperm hS h7 hpi hrow hnn
              go_upto_if 98 with fail
              go_cut [11] (fun _ w' => SoFar W acc (part2 ty ++ procOut hs) w w' ∧ w'.ownsRow w3.heap.size 9 1 u10 (notProc ss).length ((notProc ss).map Go.Proofs.encStr))
              case first =>
                as_aux_lemma =>
                have h33 : w.heap.size ≤ w3.heap.size := (unhide HSZ5).1
                by_cases hpm : procT ∈ ss
                · have hd : decide (procT ∈ ss) = true := decide_eq_true hpm
                  have HG : ∃ v, hget hs procT = some v := Option.isSome_iff_exists.1 ((unhide HPI).symm.trans hd)
                  obtain ⟨vp, hvp⟩ := HG
                  have hlk : (Instr.lookup 45 (.map (some mb)) (.string ⟨#[80, 114, 111, 99, 45, 84, 121, 112, 101]⟩) false).run Tryd.prog wr = .ok (.string (bs vp)) wr := M7.look hvp (by decide)
                  obtain ⟨hpre, hprl⟩ := headOut_pre (unhide H0) (headLine procT vp) ⟨hlines hs (hsort (hkeys hs)) ++ [10], by rw [procOut_some hvp, List.append_assoc]⟩ ty d
                  have hwh := hide (writeHeader_any W hw (acc ++ part2 ty) procT vp wr (unhide H7).2 (by have := unhide HSZ; have := part_lens ty hs d; rw [List.length_append]; omega))
                  have HPRE := hide hpre
                  have HVP := hide (procOut_some hvp)
                  clear hd hvp hpre hprl M7 P7 HPI
                  go_wp2_with fail
                  refine (unhide hwh).mono ?_
                  rintro e w9 ⟨ev9, rfl, hX9⟩
                  have hrow9 : w9.ownsRow w3.heap.size 9 1 u10 (notProc ss).length ((notProc ss).map Go.Proofs.encStr) := ownsRow_frL (unhide HROW) (hX9.1.toL (bs := [W.bb]) (by simp)) (by intro k hk; simp at hk; omega)
                  rcases (unhide H7).step hX9 with ⟨rfl, h9⟩ | ⟨e7, hE⟩
                  · clear hX9 hwh
                    have HR := hide (And.intro h9 hrow9)
                    clear h9 hrow9
                    go_wp2_with fail
                    go_meet
                    rw [unhide HVP]
                    exact unhide HR
                  · have HE := hide (fin_err hE (unhide HPRE))
                    rw [hev] at e7
                    subst e7
                    clear hE hX9 hrow9 hwh
                    go_wp2_with fail
                    go_ret
                    exact ⟨_, congrArg Ending.returned hev.symm, unhide HE⟩
                · have hd : decide (procT ∈ ss) = false := decide_eq_false hpm
                  have hn0 : hget hs procT = none := by
                    have h1 := (unhide HPI).symm.trans hd
                    cases hx : hget hs procT with
                    | none => rfl
                    | some v => rw [hx] at h1; cases h1
                  have e2 : part2 ty ++ procOut hs = part2 ty := by rw [procOut_none hn0, List.append_nil]
                  have HR : Hid (SoFar W acc (part2 ty ++ procOut hs) w wr ∧ wr.ownsRow w3.heap.size 9 1 u10 (notProc ss).length ((notProc ss).map Go.Proofs.encStr)) := by rw [e2]; exact ⟨unhide H7, unhide HROW⟩
                  clear hd hn0 e2 M7 P7 HPI
                  go_wp2_with fail
                  go_meet
                  exact unhide HR
              case rest =>
                as_aux_lemma =>
                obtain ⟨hS9, hrow9⟩ := hcut
                obtain ⟨g, cap, hv10, hgb, hgt, hsrt⟩ := sort_row hso hrow9 (unhide HNN) hlenS
                have HKS : Hid ((notProc ss).mergeSort leB = hsort (hkeys hs) ∧ (hsort (hkeys hs)).length = (notProc ss).length) := by
                  have e := hsort_perm (unhide HPC)
                  refine ⟨e, ?_⟩
                  rw [← e]; unfold hsort notProc; rw [List.length_mergeSort]
                rw [(unhide HKS).1] at hsrt
                have h33 : w.heap.size ≤ w3.heap.size := (unhide HSZ5).1
                have HSRT := hide hsrt
                have HS9 := hide hS9
                have HGT := hide hgt
                subst hv10
                clear hsrt hrow9 hS9 hgt HNN HROW H7 HPI P7 M7 c17 HPC
                go_wp2_with fail
                refine (unhide HSRT).mono ?_
                rintro e w10 ⟨rfl, hSR, hg10⟩
                have hS10 : SoFar W acc (part2 ty ++ procOut hs) w w10 := (unhide HS9).grown hw hbb hg10 (fun j hj => by
                  cases hj
                  exact ⟨by omega, fun o ho => unhide HGT o ho⟩)
                have HR10 := hide (And.intro hS10 hSR)
                clear hS10 hSR hg10 HSRT HGT HS9
                go_wp2_with fail
                have hgne : g ≠ W.bb := by omega
                go_loopw [113] (fun vk wr => ∃ k : Nat, k ≤ (notProc ss).length ∧ vk = .int .i64 (k : Int) ∧ Hid (SoFar W acc (part2 ty ++ (procOut hs ++ hlines hs ((hsort (hkeys hs)).take k))) w wr ∧ StrRow wr g (hsort (hkeys hs)))) (fun vk _ => (notProc ss).length - (intOf vk).toNat)
                case atStart =>
                  refine ⟨0, Nat.zero_le _, rfl, ?_, (unhide HR10).2⟩
                  have e : part2 ty ++ (procOut hs ++ hlines hs ((hsort (hkeys hs)).take 0)) = part2 ty ++ procOut hs := by simp [hlines]
                  rw [e]; exact (unhide HR10).1
                case round =>
                  clear HR10
                  obtain ⟨k, hk, rfl, HR⟩ := hrel
                  by_cases hlt : k < (notProc ss).length
                  · as_aux_lemma =>
                    obtain ⟨hSk, hRk⟩ := unhide HR
                    have hkl : k < (hsort (hkeys hs)).length := by rw [(unhide HKS).2]; exact hlt
                    obtain ⟨x, hx⟩ : ∃ x, (hsort (hkeys hs))[k]? = some x := ⟨_, List.getElem?_eq_getElem hkl⟩
                    have hxm : x ∈ hs.map (·.1) := hkeys_mem.1 (hsort_mem.1 (List.mem_of_getElem? hx)).1
                    obtain ⟨vx, hvx⟩ : ∃ v, hget hs x = some v := Option.isSome_iff_exists.1 (hget_isSome.2 hxm)
                    have hxl : x.length ≤ 140737488355328 := unhide HKL _ (hget_mem hvx)
                    have hck : wr.cell? ⟨g, k, none⟩ = some (.string (bs x)) := by
                      have h := hRk.cell hx
                      rwa [Nat.zero_add] at h
                    have M9 := (unhide HM0).soFar hSk (unhide HNE).2
                    have P9 := (unhide HP).soFar hSk (unhide HNE).1
                    have c19 : wr.cell? ⟨pb, 1, none⟩ = some (.map (some mb)) := P9.c1
                    have hlk := M9.look hvx (by unfold maxLen; omega)
                    have hstep := hlines_take_succ (hs := hs) hx
                    rw [show (hget hs x).getD [] = vx by rw [hvx]; rfl] at hstep
                    obtain ⟨rp, hrp⟩ := hlines_prefix hs (hsort (hkeys hs)) (k + 1)
                    obtain ⟨hpre, hprl⟩ := headOut_pre (unhide H0) (procOut hs ++ hlines hs ((hsort (hkeys hs)).take (k + 1))) ⟨rp ++ [10], by rw [hrp]; simp only [List.append_assoc]⟩ ty d
                    have hszk : (acc ++ (part2 ty ++ (procOut hs ++ hlines hs ((hsort (hkeys hs)).take k)))).length + (headLine x vx).length ≤ 140737488355328 := by
                      have h1 := unhide HSZ
                      have h2 := part_lens ty hs d
                      rw [hstep] at hprl
                      simp only [List.length_append] at hprl ⊢
                      omega
                    have hwh := hide (writeHeader_any W hw (acc ++ (part2 ty ++ (procOut hs ++ hlines hs ((hsort (hkeys hs)).take k)))) x vx wr hSk.2 hszk)
                    have HPRE := hide hpre
                    have HST := hide hstep
                    have HSK := hide (And.intro hSk hRk)
                    clear hpre hprl hstep hrp hszk M9 P9 hSk hRk hxm hvx hkl hx HR
                    go_wp2_with fail
                    refine (unhide hwh).mono ?_
                    rintro e w11 ⟨ev9, rfl, hX9⟩
                    have hrow9 : StrRow w11 g (hsort (hkeys hs)) := (unhide HSK).2.frL (hX9.1.toL (bs := [W.bb]) (by simp)) (by simpa using hgne)
                    rcases (unhide HSK).1.step hX9 with ⟨rfl, h9⟩ | ⟨e7, hE⟩
                    · clear hX9 hwh
                      have e : part2 ty ++ (procOut hs ++ hlines hs ((hsort (hkeys hs)).take k)) ++ headLine x vx = part2 ty ++ (procOut hs ++ hlines hs ((hsort (hkeys hs)).take (k + 1))) := by
                        rw [unhide HST]; simp only [List.append_assoc]
                      rw [e] at h9
                      have HRR := hide (And.intro h9 hrow9)
                      clear h9 hrow9 e
                      go_wp2_with fail
                      go_light
                      refine ⟨⟨k + 1, by omega, by go_num, unhide HRR⟩, ?_⟩
                      simp [intOf]; omega
                    · have e : part2 ty ++ (procOut hs ++ hlines hs ((hsort (hkeys hs)).take k)) ++ headLine x vx = part2 ty ++ (procOut hs ++ hlines hs ((hsort (hkeys hs)).take (k + 1))) := by
                        rw [unhide HST]; simp only [List.append_assoc]
                      rw [e] at hE
                      have hE2 : WroteE W acc (pemOut ty hs d) w W.ev w11 := by
                        obtain ⟨r, hr⟩ := unhide HPRE
                        rw [hr]; exact hE r
                      have HE := hide hE2
                      rw [hev] at e7
                      subst e7
                      clear hE hE2 hX9 hrow9 hwh e
                      go_wp2_with fail
                      go_ret
                      exact ⟨_, congrArg Ending.returned hev.symm, unhide HE⟩
                  · as_aux_lemma =>
                    have hke : k = (notProc ss).length := by omega
                    have hfull : (hsort (hkeys hs)).take k = hsort (hkeys hs) := List.take_of_length_le (by rw [(unhide HKS).2]; omega)
                    obtain ⟨hSk, hRk⟩ := unhide HR
                    rw [hfull] at hSk
                    have hl3 := headOut_len (ty := ty) (d := d) (unhide H0)
                    have hwh := hide (wr_nl hw hSk (by
                      have h1 := unhide HSZ
                      have h2 := part_lens ty hs d
                      rw [List.length_append]
                      omega))
                    have HPE : Hid (part2 ty ++ (procOut hs ++ hlines hs (hsort (hkeys hs))) ++ [10] = part3 ty hs) := by
                      show _ = _
                      unfold part3 headOut
                      rw [if_neg (unhide H0)]
                      simp only [List.append_assoc]
                    have kc := fun (w : World) (C : Array Value) (n c : Nat) => Lib.run_convert_bytes_const (P := Tryd.prog) w 22 5 C n c Tryd.underlying22 Tryd.underlying5
                    clear hfull hSk hRk HR hl3 hke
                    go_wp2_with fail
                    refine (unhide hwh).mono ?_
                    rintro e w11 ⟨n9, ev9, rfl, hX9⟩
                    rcases hX9 with ⟨rfl, h9⟩ | ⟨e7, hE⟩
                    · rw [unhide HPE] at h9
                      have HRR := hide h9
                      clear h9 hwh kc
                      go_wp2_with fail
                      go_meet
                      exact unhide HRR
                    · rw [unhide HPE] at hE
                      have hE2 : WroteE W acc (pemOut ty hs d) w W.ev w11 := by
                        obtain ⟨r, hr⟩ := pemOut_4 ty hs d
                        rw [hr, List.append_assoc]; exact hE _
                      have HE := hide hE2
                      rw [hev] at e7
                      subst e7
                      clear hE hE2 hwh kc
                      go_wp2_with fail
                      go_ret
                      exact ⟨_, congrArg Ending.returned hev.symm, unhide HE⟩
        -- >>3
      case rest =>
        as_aux_lemma =>
        have h4 : SoFar W acc (part3 ty hs) w wc := hcut
        obtain ⟨w4, hw4⟩ : ∃ w4, w4 = wc := ⟨_, rfl⟩
        subst hw4
        have H4 := hide h4
        have hst := stdEncoding_any (w4.alloc (.cells (brkNew W.T W.v) 106))
        rw [World.size_alloc] at hst
        have HSTD := hide hst
        have hB4 := hide (Brk.fresh w4 W.T W.v)
        clear h4 hcut h3 H3 M3 P3 c1 hown3 H2 c0 htl hst
        go_wp2_with fail
        refine (unhide HSTD).mono ?_
        rintro e w5 ⟨rfl, hE5, hb5⟩
        have hs45 : w4.heap.size + 2 ≤ w5.heap.size := by
          have h1 := hb5.size
          rw [World.size_alloc] at h1
          have h2 := hE5
          obtain ⟨cs, hcs, _⟩ := h2
          have h3 := lt_of_heap hcs
          omega
        have hw5 : Hid (SoFar W acc (part3 ty hs) w w5 ∧ Brk w5 w4.heap.size W.T W.v [] ∧ Enc w5 (w4.heap.size + 1)) := by
          refine ⟨((unhide H4).below hw (balloc (Below.refl _ _) (.cells (brkNew W.T W.v) 106))).below hw (by rw [World.size_alloc]; exact hb5), ?_, hE5.enc⟩
          obtain ⟨cs, hcs, hr⟩ := unhide hB4
          exact ⟨cs, (hb5.block _ (by omega)).trans hcs, hr⟩
        obtain ⟨nb, hnb⟩ : ∃ nb, nb = w5.heap.size := ⟨_, rfl⟩
        have hne := newEncoder_any (w4.heap.size + 1) w4.heap.size w5
        rw [← hnb] at hne
        have HNEW := hide hne
        have hnb2 : w4.heap.size + 2 ≤ nb := by omega
        have HNB := hide hnb
        clear hE5 hb5 hne hnb HSTD hB4 hs45
        go_wp2_with fail
        refine (unhide HNEW).mono ?_
        rintro e w6 ⟨rfl, hE6, cs6, hw6⟩
        have hww : w.heap.size ≤ w4.heap.size := (unhide H4).size
        have H6 : Hid (SoFar W acc (part3 ty hs) w w6.drew ∧ Brk w6.drew w4.heap.size W.T W.v [] ∧ ESt w6.drew nb (w4.heap.size + 1) w4.heap.size [] ∧ Enc w6.drew (w4.heap.size + 1)) := by
          obtain ⟨q1, q2, q3⟩ := unhide hw5
          have hb6 : Below w5.heap.size w5 w6 := by rw [hw6]; exact balloc (Below.refl _ _) _
          refine ⟨(q1.below hw hb6).drew hw, ?_, hE6.drew, ?_⟩
          · rw [hw6]; exact (q2.alloc _).drew
          · have q4 : Enc w6 (w4.heap.size + 1) := q3.other (hb6.block _ (by have := unhide HNB; omega))
            exact q4
        have P6 := (unhide HP).soFar (unhide H6).1 (unhide HNE).1
        have c26 : w6.cell? ⟨pb, 2, none⟩ = some (.slice p d.length bc) := P6.c2
        obtain ⟨s1, s2, s3, s4⟩ := unhide HS
        have hcall := hide (encW_any W hw w4.heap.size nb (w4.heap.size + 1) (by omega) (by have := hw.base; omega) (by omega) (by omega) (by have := hw.base; omega) (by omega) (by omega) (by omega)
          (acc ++ part3 ty hs) d p sb so bc w6.drew (unhide H6).1.2 (unhide H6).2.1 (unhide H6).2.2.1 (unhide H6).2.2.2 s1
          (s2.below (unhide H6).1.1.1 s3) s3 s4 hbc (by have h1 := unhide HSZ; have h2 := part_lens ty hs d; rw [List.length_append]; omega))
        have hem := encr_meth
        have hea := encr_ahead
        have hec := encr_call
        have hcm := encc_meth
        have hcc := encc_call
        clear hE6 hw6 P6 s1 s2 s3 s4 HNEW hw5 HS H4
        go_wp2_with fail
        go_cut [22] (fun v22 w' => EncPost W w4.heap.size nb (w4.heap.size + 1) (acc ++ part3 ty hs) d w6.drew v22 w')
        case first =>
          -- <<4
          as_aux_lemma =>
          go_region_with (first
            | (refine (unhide hcall).mono ?_; rintro e w1 ⟨n1, ev1, rfl, hE1⟩))
          all_goals (go_wp2_with fail; go_meet; exact hE1)
          -- >>4
        clear hcall c26 hea
        have hbB : W.B ≤ w4.heap.size := by have := hw.base; omega
        rcases (unhide H6).1.enc hcut.1 (by
          intro x hx
          simp only [List.mem_cons, List.not_mem_nil, or_false] at hx
          rcases hx with rfl | rfl | rfl
          · exact .inl rfl
          · exact .inr hww
          · exact .inr (by omega)) hcut.2 with ⟨rfl, h7, hB7, hE7⟩ | ⟨e7, hE⟩
        rotate_left
        · have hE2 : WroteE W acc (pemOut ty hs d) w W.ev wc := by
            obtain ⟨r, hr⟩ := pemOut_4 ty hs d
            rw [hr, lines_parts]
            have := hE (linB d ++ closeOut (remB d) ++ r)
            unfold linA whole3
            simpa only [List.append_assoc] using this
          have HE := hide hE2
          rw [hev] at e7
          subst e7
          clear hE hE2 hcut
          go_wp2_with fail
          go_ret
          exact ⟨_, congrArg Ending.returned hev.symm, unhide HE⟩
        as_aux_lemma =>
        obtain ⟨w7, hw7⟩ : ∃ w7, w7 = wc := ⟨_, rfl⟩
        subst hw7
        have h7 : SoFar W acc (part3 ty hs ++ linA d) w w7 := h7
        have he7 : Enc w7 (w4.heap.size + 1) := (unhide H6).2.2.2.fr hcut.1 (by simp; omega)
        have hcall := hide (encClose_any W hw w4.heap.size nb (w4.heap.size + 1) (by omega) hbB (by omega) (by omega) (by omega) (by omega) (by omega) (by omega)
          (acc ++ (part3 ty hs ++ linA d)) (remA d) (rest3 d) w7 h7.2 hB7 hE7 he7 (rest3_len d) (by have h1 := unhide HSZ; have h2 := part_lens ty hs d; have h3 := lines_lens d; rw [List.length_append, List.length_append]; omega))
        have H7 := hide h7
        clear h7 hB7 hE7 he7 hcut H6 hem hec
        go_wp2_with fail
        refine (unhide hcall).mono ?_
        rintro e w8 ⟨ev8, rfl, hF8, hP8⟩
        rcases (unhide H7).enc hF8 (by
          intro x hx
          simp only [List.mem_cons, List.not_mem_nil, or_false] at hx
          rcases hx with rfl | rfl | rfl
          · exact .inl rfl
          · exact .inr hww
          · exact .inr (by omega)) hP8 with ⟨rfl, h8, hB8⟩ | ⟨e7, hE⟩
        rotate_left
        · have hE2 : WroteE W acc (pemOut ty hs d) w W.ev w8 := by
            obtain ⟨r, hr⟩ := pemOut_4 ty hs d
            rw [hr, lines_parts]
            have := hE (closeOut (remB d) ++ r)
            unfold linB
            simpa only [List.append_assoc] using this
          have HE := hide hE2
          rw [hev] at e7
          subst e7
          clear hE hE2 hF8 hP8 hcall hcm hcc
          go_wp2_with fail
          go_ret
          exact ⟨_, congrArg Ending.returned hev.symm, unhide HE⟩
        have h8 : SoFar W acc (part3 ty hs ++ linA d ++ linB d) w w8 := h8
        have hB8 : Brk w8 w4.heap.size W.T W.v (remB d) := hB8
        have hcl := hide (close_any W hw w4.heap.size (acc ++ (part3 ty hs ++ linA d ++ linB d)) (remB d) w8 h8.2 hB8 (by omega) (by have h1 := unhide HSZ; have h2 := part_lens ty hs d; have h3 := lines_lens d; have h4 := remB_lt d; rw [List.length_append, List.length_append, List.length_append]; omega))
        have H8 := hide h8
        clear h8 hB8 hF8 hP8 hcall hcm hcc H7
        go_wp2_with fail
        refine (unhide hcl).mono ?_
        rintro e w9 ⟨ev9, rfl, hX9⟩
        have e4 : part3 ty hs ++ linA d ++ linB d ++ closeOut (remB d) = part4 ty hs d := by
          unfold part4; rw [lines_parts]; simp only [List.append_assoc]
        rcases (unhide H8).step hX9 with ⟨rfl, h9⟩ | ⟨e7, hE⟩
        rotate_left
        · rw [e4] at hE
          have hE2 : WroteE W acc (pemOut ty hs d) w W.ev w9 := by
            obtain ⟨r, hr⟩ := pemOut_5 ty hs d
            rw [hr, List.append_assoc]
            exact hE _
          have HE := hide hE2
          rw [hev] at e7
          subst e7
          clear hE hE2 hX9 hcl e4
          go_wp2_with fail
          go_ret
          exact ⟨_, congrArg Ending.returned hev.symm, unhide HE⟩
        as_aux_lemma =>
        rw [e4] at h9
        have H9 := hide (SoFar.drew hw h9)
        have P9 := (unhide HP).soFar h9 (unhide HNE).1
        have c09 : w9.cell? ⟨pb, 0, none⟩ = some (.string (bs ty)) := P9.c0
        obtain ⟨cap9, wb9, hcv9, HW9⟩ := wr_str' hw (unhide H9) endP (by have h1 := unhide HSZ; have h2 := part_lens ty hs d; show _ + _ + 9 ≤ _; omega) _ end_ext 9 rfl w9.heap.size rfl
        clear h9 e4 hX9 hcl H8 P9 c09
        go_wp2_with fail
        go_cut [26] (fun v26 w' => Next W acc (part4 ty hs d) endP w v26 w')
        case first =>
          -- <<5
          as_aux_lemma =>
          go_region_with (first
            | (refine (unhide HW9).mono ?_; rintro e w1 ⟨n1, ev1, rfl, hE1⟩))
          all_goals (go_wp2_with fail; go_meet; exact hE1)
          -- >>5
        clear hcv9 HW9 H9
        rcases hcut with ⟨rfl, h10⟩ | ⟨e7, hE⟩
        rotate_left
        · have HE := hide (fin_err hE (pemOut_5 ty hs d))
          rw [hev] at e7
          subst e7
          clear hE
          go_wp2
          go_ret
          exact ⟨_, congrArg Ending.returned hev.symm, unhide HE⟩
        obtain ⟨w10, hw10⟩ : ∃ w10, w10 = wc := ⟨_, rfl⟩
        subst hw10
        have H10 := hide (SoFar.drew hw h10)
        have P10 := (unhide HP).soFar h10 (unhide HNE).1
        have c010 : w10.cell? ⟨pb, 0, none⟩ = some (.string (bs ty)) := P10.c0
        have hs10 : acc.length + (part4 ty hs d ++ endP).length + (ty ++ [45, 45, 45, 45, 45, 10]).length ≤ 140737488355328 := by
          have := unhide HSZ
          have := part_lens ty hs d
          have e6 : (ty ++ [45, 45, 45, 45, 45, 10]).length = ty.length + 6 := by simp
          have e7 : (part4 ty hs d ++ endP).length = (part4 ty hs d).length + 9 := by rw [List.length_append]; rfl
          omega
        have htl : ty.length ≤ 17592186044416 := by have := unhide HSZ; have := part_lens ty hs d; omega
        obtain ⟨cap10, wb10, hcv10, HW10⟩ := wr_str' hw (unhide H10) (ty ++ [45, 45, 45, 45, 45, 10]) hs10 _ rfl (ty.length + 6) (by simp) w10.heap.size rfl
        clear h10 P10 hs10
        go_wp2_with fail
        go_cut [28] (fun v28 w' => Next W acc (part4 ty hs d ++ endP) (ty ++ [45, 45, 45, 45, 45, 10]) w v28 w')
        case first =>
          -- <<6
          as_aux_lemma =>
          go_region_with (first
            | (refine (unhide HW10).mono ?_; rintro e w1 ⟨n1, ev1, rfl, hE1⟩))
          all_goals (go_wp2_with fail; go_meet; exact hE1)
          -- >>6
        clear hcv10 HW10 H10 c010 htl
        have e5 : part4 ty hs d ++ endP ++ (ty ++ [45, 45, 45, 45, 45, 10]) = pemOut ty hs d := (pemOut_parts ty hs d).symm
        have HF : Hid (WroteE W acc (pemOut ty hs d) w u28 wc) := by
          rcases hcut with ⟨rfl, h11⟩ | ⟨rfl, hE⟩
          · rw [e5] at h11
            exact ⟨h11.1, .inl ⟨hw.fits _ _ h11.2, rfl, h11.2⟩⟩
          · have := hE []
            rwa [List.append_nil, e5] at this
        clear hcut e5
        go_wp2_with fail
        go_ret
        exact ⟨_, rfl, unhide HF⟩
end Go.Proofs.YtpjehmblndjknaaDoor
