/-
  Walk: the law FnProcType, where what is handed in is not great.
-/
import Derived.Test.YtpjehmblndjknaaFormL
namespace Go.Proofs.Ytpjehmblndjknaa
open Go.RowKit Go.Maps
set_option linter.unusedSimpArgs false
set_option linter.unusedVariables false

theorem procT_no : (58 : UInt8) ∉ procT ∧ (10 : UInt8) ∉ procT := by decide
theorem proc_facts {ty d v : List UInt8} {hs : Hdrs} (h : ∀ p ∈ hs, plainS p.1 = true ∧ plainS p.2 = true) (ht : plainS ty = true) (hv : plainS v = true) :
    (10 : UInt8) ∉ ty ∧ (58 : UInt8) ∉ ty ∧ anyColon (hs ++ [(procT, v)]) = false ∧ Readable (wlist (hs ++ [(procT, v)])) ∧ ∃ r, wlist (hs ++ [(procT, v)]) = (procT, v) :: r := by
  refine ⟨(plain_mem ht).2, (plain_mem ht).1, ?_, ?_, wlist_head (by rw [hget_snoc, if_pos rfl])⟩
  · unfold anyColon
    rw [List.any_append, Bool.or_eq_false_iff]
    refine ⟨?_, rfl⟩
    rw [List.any_eq_false]
    intro p hp
    have := (plain_mem (h p hp).1).1
    simpa using this
  · intro p hp
    have hp2 := wlist_sub hp
    rcases List.mem_append.1 hp2 with e | e
    · exact ⟨(plain_mem (h p e).1).1, (plain_mem (h p e).1).2, (plain_mem (h p e).2).2⟩
    · rw [List.mem_singleton.1 e]
      exact ⟨procT_no.1, procT_no.2, (plain_mem hv).2⟩

set_option maxRecDepth 100000 in
set_option maxHeartbeats 4000000 in
theorem fnProc_walk (ty d v : List UInt8) (hv : Value) (q : Option Addr) (bc : Nat) (hs : Hdrs) (w : World) (hH : Hd w hv hs) (hS : Sl w (.slice q d.length bc) d) (hbc : bc ≤ 9223372036854775807)
   (h1 : ty.length ≤ 1048576) (hn : hs.length ≤ 1048576) (hx : ∀ p ∈ hs, p.1.length ≤ 1048576 ∧ p.2.length ≤ 1048576) (hd : d.length ≤ 1048576) (hvl : v.length ≤ 1048576) :
    Calls Try.prog 6 #[.agg #[.string (bs ty), hv, .slice q d.length bc], .string (bs v)] w fun e w' => e = .returned (.bool true) ∧ Below w.heap.size w w' := by
  have hb0 : Below w.heap.size w (w.alloc (.cells #[.string (bs ty), hv, .slice q d.length bc] 31)) := balloc (Below.refl _ _) _
  have hfit := zzFits1_any ty d hv _ hs _ (hH.below hb0) (hS.below hb0) (by omega) (by omega) (by omega) (fun p hp => by have := hx p hp; omega)
  have hfb : fitsB ty hs d = true := by
    unfold fitsB fitsHs
    simp only [Bool.and_eq_true, decide_eq_true_eq, List.all_eq_true]
    refine ⟨⟨by omega, by omega, fun p hp => ?_⟩, by omega⟩
    have := hx p hp
    unfold fitsH
    simp only [Bool.and_eq_true, decide_eq_true_eq]
    omega
  rw [World.size_alloc, hfb] at hfit
  have HF := hide hfit
  obtain ⟨i0, hi, hz0, hz1, hz2⟩ := info_parts infoH
  have HH := hide hH
  obtain ⟨p, cap, rfl, hcells⟩ := hH.cells
  have i3 : ¬ (2147483647 : Int) < (v.length : Int) := by omega
  have HS := hide hS
  have HX := hide hx
  have hmk : hs.length + 1 ≤ 4294967296 := by omega
  clear hfit hb0 hS hH hcells hx hfb
  go_enter Try.func6, Try.ntmps6
  go_wp2_with fail
  refine (unhide HF).mono ?_
  rintro e w1 ⟨rfl, hb1⟩
  have HB1 : Hid (Below w.heap.size w w1) := (balloc (Below.refl _ _) _).trans (hb1.mono (by omega))
  have hz : w.heap.size < w1.heap.size := by have := hb1.size; rw [World.size_alloc] at this; omega
  have hblk : w1.heap[w.heap.size]? = some (.cells #[.string (bs ty), .slice p hs.length cap, .slice q d.length bc] 31 (0, 0)) := by
    rw [hb1.block _ (by omega)]; exact heap_new w _
  have hc1 : w1.cell? ⟨w.heap.size, 1, none⟩ = some (.slice p hs.length cap) := by rw [cell_of_heap hblk]; rfl
  clear hb1
  have hown0 : (w1.alloc (.cells #[] 46)).ownsRow (w.heap.size + 1) 46 2 (.slice (some ⟨w1.heap.size, 0, none⟩) 0 0) 0 (hcells []) :=
    ⟨rfl, .inr ⟨_, 0, #[], rfl, by omega, heap_new w1 _, Nat.le_refl _, Nat.zero_le _, rfl, rfl⟩⟩
  have hu1 : Hd (w1.alloc (.cells #[] 46)) (.slice p hs.length cap) hs := ((unhide HH).below (unhide HB1)).below (balloc (Below.refl _ _) _)
  obtain ⟨v2, w2, hr2, hown2, hg2⟩ := append_hd (w0 := w) 29 46 Try.underlying29 infoH 29 hown0 hu1 (by omega) (by rw [World.size_alloc]; omega)
  rw [Nat.zero_add, List.nil_append] at hown2
  have hz2 : w.heap.size + 1 < w2.heap.size := by have := hg2.size; rw [World.size_alloc] at this; omega
  have hblk2 : w2.heap[w.heap.size]? = some (.cells #[.string (bs ty), .slice p hs.length cap, .slice q d.length bc] 31 (0, 0)) :=
    (hg2.block _ (by rw [World.size_alloc]; omega) (by simp [Value.ownBlock]; omega)).trans ((Below.heap_alloc _ _ _ hz).trans hblk)
  have HB2 : Hid (Below w.heap.size w w2) := (balloc (unhide HB1) _).grown hg2 (by rw [World.size_alloc]; omega) (fun j hj => by simp [Value.ownBlock] at hj; omega)
  obtain ⟨v3, w3, hr3, hown3, hg3⟩ := append_hd1 29 46 Try.underlying29 infoH 29 procT v hown2 (by omega) (by omega) 46
  have hlt2 := hown2.lt
  have hblk3 : w3.heap[w.heap.size]? = some (.cells #[.string (bs ty), .slice p hs.length cap, .slice q d.length bc] 31 (0, 0)) :=
    (hg3.block _ (by rw [World.size_alloc]; omega) (fun e => by have := (hlt2 _ e.symm).1; omega)).trans ((Below.heap_alloc _ _ _ (by omega)).trans hblk2)
  have HB3 : Hid (Below w.heap.size w w3) := (balloc (unhide HB2) _).grown hg3 (by rw [World.size_alloc]; omega) (fun j hj => by have := (hlt2 _ hj).1; omega)
  have hz3 : w.heap.size < w3.heap.size := lt_of_heap hblk3
  have hH3 := Hd.of_owns hown3
  have hH4 : Hd (w3.setCell ⟨w.heap.size, 1, none⟩ v3) v3 (hs ++ [(procT, v)]) := Hd.of_owns (ownsRow_setCell hown3 (Nat.lt_succ_self _) 1 v3)
  obtain ⟨p3, cap3, rfl, hlc3⟩ := hH3
  have hcap3 := hlc3.1.1
  rw [List.length_append, List.length_singleton] at *
  have c30 : w3.cell? ⟨w.heap.size, 0, none⟩ = some (.string (bs ty)) := by rw [cell_of_heap hblk3]; rfl
  have c31 : w3.cell? ⟨w.heap.size, 1, none⟩ = some (.slice p hs.length cap) := by rw [cell_of_heap hblk3]; rfl
  have c32 : w3.cell? ⟨w.heap.size, 2, none⟩ = some (.slice q d.length bc) := by rw [cell_of_heap hblk3]; rfl
  have f31 : w3.frozen? ⟨w.heap.size, 1, none⟩ = false := frozen_of_heap hblk3 _
  have hS4 : Sl (w3.setCell ⟨w.heap.size, 1, none⟩ (.slice p3 (hs.length + 1) cap3)) (.slice q d.length bc) d := (unhide HS).below ((unhide HB3).setCell (Nat.le_refl _) _)
  have HB4 : Hid (Below w.heap.size w (w3.setCell ⟨w.heap.size, 1, none⟩ (.slice p3 (hs.length + 1) cap3))) := (unhide HB3).setCell (Nat.le_refl _) _
  have hblk4 := heap_set_same hblk3 (i := 1) (.slice p3 (hs.length + 1) cap3)
  have hkl : ∀ p ∈ hs ++ [(procT, v)], p.1.length ≤ 1048576 ∧ p.2.length ≤ 1048576 := by
    intro x hx
    rcases List.mem_append.1 hx with h | h
    · exact unhide HX x h
    · rw [List.mem_singleton.1 h]
      exact ⟨(by decide : procT.length ≤ 1048576), hvl⟩
  have hpl := pemOut_bound (ty := ty) (d := d) (hs := hs ++ [(procT, v)]) h1 (by rw [List.length_append]; simp; omega) hd hkl
  have hmem := mem_any ty d _ _ _ _ hH4 hS4 (fun p n c h => by injection h with _ _ h3; omega) (fun p hp => by have := hkl p hp; omega) (by rw [List.length_append]; simp; omega) (fun h => by omega)
  have HH4 := hide hH4
  have HMEM := hide hmem
  have HBLK4 := hide hblk4
  clear hown0 hu1 hg2 hblk hg3 hown2 hown3 hlt2 hblk2 hH4 hS4 hmem hkl hblk4 hblk3 hlc3
  have hpT : bs procT = ⟨#[80, 114, 111, 99, 45, 84, 121, 112, 101]⟩ := rfl
  rw [hpT] at hr3
  go_wp2_with (first
    | (at_builtin; refine Lib.wpList_append_run_sl _ rfl _ _ 29 rfl _ _ rfl rfl hr2 ?_)
    | (at_builtin; refine Lib.wpList_append_run_sl _ rfl _ _ 29 rfl _ _ rfl rfl hr3 ?_)
    | fail)
  clear hr2 hr3 c30 c31 c32 f31 hpT
  refine (unhide HMEM).mono ?_
  rintro e w5 ⟨hb5, hcase⟩
  have hblk5 : w5.heap[w.heap.size]? = _ := (hb5.block _ (by simp; omega)).trans (unhide HBLK4)
  have HB5 : Hid (Below w.heap.size w w5) := bstep (unhide HB4) hb5
  have HH5 := hide ((unhide HH4).below hb5)
  obtain ⟨vo, nb, rfl, hvo⟩ : ∃ vo nb, e = .returned (.tuple #[vo, nb]) ∧ (anyColon (hs ++ [(procT, v)]) = false → nb = .bool false ∧ Sl w5 vo (pemOut ty (hs ++ [(procT, v)]) d)) := by
    rcases hcase with ⟨hc, rfl⟩ | ⟨hc, v', rfl, hsl⟩
    · exact ⟨_, _, rfl, fun h => by rw [hc] at h; cases h⟩
    · exact ⟨_, _, rfl, fun _ => ⟨rfl, hsl⟩⟩
  have HVO := hide hvo
  have c51 : w5.cell? ⟨w.heap.size, 1, none⟩ = some (.slice p3 (hs.length + 1) cap3) := by rw [cell_of_heap hblk5]; rfl
  have HBLK5 := hide hblk5
  clear hb5 hcase hvo hblk5 HMEM
  go_wp2_with fail
  go_loopw [41] (fun vi wr => ∃ k : Nat, k ≤ hs.length ∧ vi = .int .i64 (k : Int) ∧ Below w5.heap.size w5 wr ∧ Hid (∀ (j : Nat) x, hs[j]? = some x → j < k → plainS x.1 = true ∧ plainS x.2 = true)) (fun vi _ => hs.length - (intOf vi).toNat)
  case atStart => exact ⟨0, Nat.zero_le _, rfl, Below.refl _ _, fun j x _ h => absurd h (by omega)⟩
  case round =>
    clear c51 HF HBLK4 HH4 HB4 HB3 HB2 HB1
    obtain ⟨k, hk, rfl, hb, HA⟩ := hrel
    obtain ⟨wo, hwo⟩ : ∃ wo : World, wo = wr := ⟨_, rfl⟩
    subst hwo
    have hbW : Below w.heap.size w wo := bstep (unhide HB5) hb
    have HBW := hide hbW
    have HHo := hide ((unhide HH5).below hb)
    have hz5 : w.heap.size < w5.heap.size := lt_of_heap (unhide HBLK5)
    have hblko := (hb.block _ hz5).trans (unhide HBLK5)
    by_cases hlt : k < hs.length
    · obtain ⟨x, hx⟩ : ∃ x, hs[k]? = some x := ⟨_, List.getElem?_eq_getElem hlt⟩
      have hx2 : (hs ++ [(procT, v)])[k]? = some x := by rw [List.getElem?_append_left hlt]; exact hx
      obtain ⟨pp, cc, he, -, hcc⟩ := unhide HHo
      obtain ⟨b, o, rfl, hcell⟩ := hcc (by simp)
      have he1 : p3 = some ⟨b, o, none⟩ := by injection he
      subst he1
      obtain ⟨hk1, hk2⟩ := hcell k x hx2
      obtain ⟨xl1, xl2⟩ := unhide HX x (List.mem_of_getElem? hx)
      have HP1 := hide (fun W => plain_any x.1 W (by omega))
      have HP2 := hide (fun W => plain_any x.2 W (by omega))
      have HXX := hide hx
      have HBN := hide (balloc hb (.cells #[.string (bs x.1), .string (bs x.2)] 46))
      have HBN2 := hide (balloc hbW (.cells #[.string (bs x.1), .string (bs x.2)] 46))
      have hwk := hide (works_any (wo.alloc (.cells #[.string (bs x.1), .string (bs x.2)] 46)))
      have hkc : k < cap3 := by omega
      clear hcell hcc he hx hx2 hblko hbW hb xl1 xl2
      go_wp2_with fail
      refine (unhide HP1 _).mono ?_
      rintro e w6 ⟨rfl, rfl⟩
      cases hp1 : plainS x.1 with
      | false =>
        clear hp1 HP1 HP2
        go_wp2_with fail
        refine (unhide hwk).mono ?_
        rintro e w7 ⟨rfl, hb7⟩
        have HB7 : Hid (Below w.heap.size w w7) := bstep (unhide HBN2) hb7
        clear hb7 hwk
        go_wp2
        go_ret
        exact ⟨rfl, unhide HB7⟩
      | true =>
        have HP1T := hide hp1
        clear hp1 HP1
        go_wp2_with fail
        refine (unhide HP2 _).mono ?_
        rintro e w6 ⟨rfl, rfl⟩
        cases hp2 : plainS x.2 with
        | false =>
          clear hp2 HP2
          go_wp2_with fail
          refine (unhide hwk).mono ?_
          rintro e w7 ⟨rfl, hb7⟩
          have HB7 : Hid (Below w.heap.size w w7) := bstep (unhide HBN2) hb7
          clear hb7 hwk
          go_wp2
          go_ret
          exact ⟨rfl, unhide HB7⟩
        | true =>
          have HP2T := hide hp2
          clear hp2 HP2
          by_cases h50 : k < 50
          · have hi50 : ¬ (50 : Int) ≤ (k : Int) := by omega
            go_wp2_with fail
            refine ⟨⟨k + 1, by omega, by go_num, unhide HBN, ?_⟩, ?_⟩
            · intro j y hy hj
              by_cases e : j = k
              · subst e; rw [unhide HXX] at hy; cases hy; exact ⟨unhide HP1T, unhide HP2T⟩
              · exact unhide HA j y hy (by omega)
            · simp [intOf]; omega
          · have hi50 : (50 : Int) ≤ (k : Int) := by omega
            go_wp2_with fail
            refine (unhide hwk).mono ?_
            rintro e w7 ⟨rfl, hb7⟩
            have HB7 : Hid (Below w.heap.size w w7) := bstep (unhide HBN2) hb7
            clear hb7 hwk
            go_wp2
            go_ret
            exact ⟨rfl, unhide HB7⟩
    · obtain rfl : k = hs.length := by omega
      have co0 : wo.cell? ⟨w.heap.size, 0, none⟩ = some (.string (bs ty)) := by rw [cell_of_heap hblko]; rfl
      have HPT := hide (fun W => plain_any ty W (by omega))
      have HPV := hide (fun W => plain_any v W (by omega))
      have hwk := hide (works_any wo)
      clear hbW hblko
      go_wp2_with fail
      refine (unhide HPT _).mono ?_
      rintro e w6 ⟨rfl, rfl⟩
      cases hp1 : plainS ty with
      | false =>
        clear hp1 HPT HPV
        go_wp2_with fail
        refine (unhide hwk).mono ?_
        rintro e w7 ⟨rfl, hb7⟩
        have HB7 : Hid (Below w.heap.size w w7) := bstep (unhide HBW) hb7
        clear hb7 hwk
        go_wp2
        go_ret
        exact ⟨rfl, unhide HB7⟩
      | true =>
        have HP1T := hide hp1
        clear hp1 HPT
        go_wp2_with fail
        refine (unhide HPV _).mono ?_
        rintro e w6 ⟨rfl, rfl⟩
        cases hp2 : plainS v with
        | false =>
          clear hp2 HPV
          go_wp2_with fail
          refine (unhide hwk).mono ?_
          rintro e w7 ⟨rfl, hb7⟩
          have HB7 : Hid (Below w.heap.size w w7) := bstep (unhide HBW) hb7
          clear hb7 hwk
          go_wp2
          go_ret
          exact ⟨rfl, unhide HB7⟩
        | true =>
          obtain ⟨f1, f2, f3, f4, r, f5⟩ := proc_facts (d := d) (hs := hs) (fun p hp => by
            obtain ⟨j, hj, rfl⟩ := List.getElem_of_mem hp
            exact unhide HA j _ (List.getElem?_eq_getElem hj) hj) (unhide HP1T) hp2
          obtain ⟨rfl, hsl⟩ := unhide HVO f3
          have hcv := conv_sl2 hsl wo hb
          have hln := wlist_len (hs ++ [(procT, v)])
          rw [List.length_append, List.length_singleton] at hln
          have hord := ordered_any ty d (wlist (hs ++ [(procT, v)])) wo f1 f2 f4 (by rw [← pemOut_written]; omega) (by omega)
          rw [← pemOut_written, f5] at hord
          rw [f5, List.length_cons] at hln
          have HO := hide hord
          generalize pemOut ty (hs ++ [(procT, v)]) d = X at *
          clear hp2 HPV hord f3 f4 f5 hsl hwk co0
          go_wp2_with fail
          refine (unhide HO).mono ?_
          rintro e w7 ⟨v7, rfl, hH7, hb7⟩
          obtain ⟨p7, cap7, rfl, hlc7, hc7⟩ := hH7
          obtain ⟨b7, o7, rfl, hcell7⟩ := hc7 (by simp)
          obtain ⟨g1, g2⟩ := hcell7 0 (procT, v) rfl
          rw [Nat.zero_mul, Nat.add_zero] at g1 g2
          have g1 : w7.cell? ⟨b7, o7, none⟩ = some (.string ⟨#[80, 114, 111, 99, 45, 84, 121, 112, 101]⟩) := g1
          have hcap7 := hlc7.1
          rw [List.length_cons] at hcap7 ⊢
          have HB7 : Hid (Below w.heap.size w w7) := bstep (unhide HBW) hb7
          clear hcell7 hc7 hlc7 hb7 HO hcv
          go_wp2_with fail
          go_ret
          exact ⟨rfl, unhide HB7⟩
end Go.Proofs.Ytpjehmblndjknaa
