/-
  Walk: spec.Proper.
-/
import Derived.Test.YtpjehmblndjknaaSpecB
import Derived.Test.YtpjehmblndjknaaBlock
namespace Go.Proofs.Ytpjehmblndjknaa
open Go.RowKit Go.Maps
set_option linter.unusedSimpArgs false
set_option linter.unusedVariables false

theorem hdrsOK_nil : hdrsOK [] = true := rfl
theorem hdrsOK_snoc (hs : Hdrs) (x : List UInt8 × List UInt8) : hdrsOK (hs ++ [x]) = (hdrsOK hs && (plainS x.1 && plainS x.2) && decide (x.1 ∉ hs.map (·.1))) := by
  unfold hdrsOK
  rw [List.all_append, List.map_append]
  simp only [List.all_cons, List.all_nil, Bool.and_true, List.map_cons, List.map_nil]
  have e : decide (hs.map (·.1) ++ [x.1]).Nodup = (decide (hs.map (·.1)).Nodup && decide (x.1 ∉ hs.map (·.1))) := by
    rw [Bool.eq_iff_iff]
    simp only [decide_eq_true_eq, Bool.and_eq_true]
    rw [List.nodup_append]
    constructor
    · rintro ⟨h1, _, h3⟩
      exact ⟨h1, fun hx => h3 _ hx _ (by simp) rfl⟩
    · rintro ⟨h1, h2⟩
      exact ⟨h1, by simp, fun a ha b hb e => by simp at hb; subst hb; subst e; exact h2 ha⟩
  rw [e]
  cases hs.all (fun p => plainS p.1 && plainS p.2) <;> cases plainS x.1 <;> cases plainS x.2 <;> simp
theorem hdrsOK_take_false {hs : Hdrs} {k : Nat} (h : hdrsOK (hs.take k) = false) : hdrsOK hs = false := by
  have e : hs = hs.take k ++ hs.drop k := (List.take_append_drop _ _).symm
  unfold hdrsOK at h ⊢
  rw [Bool.and_eq_false_iff] at h ⊢
  rcases h with h | h
  · left
    rw [e, List.all_append, h]; rfl
  · right
    rw [decide_eq_false_iff_not] at h ⊢
    intro hn
    apply h
    rw [e, List.map_append] at hn
    exact (List.nodup_append.1 hn).1

set_option maxRecDepth 100000 in
set_option maxHeartbeats 4000000 in
theorem proper_any (ty d : List UInt8) (hv : Value) (hs : Hdrs) (q : Option Addr) (bc : Nat) (w : World) (hH : Hd w hv hs) (hnl : hs.length ≤ 4294967295) (hty : ty.length ≤ 4294967295) (hd : d.length ≤ 9223372036854775807)
   (hkl : ∀ p ∈ hs, p.1.length ≤ 4294967295 ∧ p.2.length ≤ 4294967295) :
    Calls Try.prog 17 #[.agg #[.string (bs ty), hv, .slice q d.length bc]] w fun e w' => e = .returned (.bool (properB ty hs d)) ∧ Below w.heap.size w w' := by
  obtain ⟨p, cap, rfl, hlc, hc⟩ := hH
  have HC := hide hc
  have hn63 : hs.length ≤ 9223372036854775807 := by omega
  have HK := hide hkl
  have hcap : hs.length ≤ cap := hlc.1
  have hplt := fun W => plain_any ty W (by omega)
  clear hc hkl hlc
  generalize hR : properB ty hs d = R
  have HR := hide hR
  clear hR
  by_cases hgood : plainS ty = true ∧ hs.length ≤ 50 ∧ d.length ≤ 5000
  · obtain ⟨g1, g2, g3⟩ := hgood
    have HRR : Hid (R = hdrsOK hs) := by
      rw [← unhide HR]; show properB ty hs d = _
      unfold properB; simp [g1, g2, g3]
    have i2 : ¬ (50 : Int) < (hs.length : Int) := by omega
    have i3 : ¬ (5000 : Int) < (d.length : Int) := by omega
    have HPT : Hid (∀ W, Calls Try.prog 24 #[.string (bs ty)] W fun e w' => e = .returned (.bool true) ∧ W = w') := by
      intro W; have := hplt W; rw [g1] at this; exact this
    clear hplt g1 HR
    go_enter Try.func17, Try.ntmps17
    go_wp2_with fail
    refine (unhide HPT _).mono ?_
    rintro e w' ⟨rfl, rfl⟩
    clear HPT
    go_wp2_with fail
    go_loopw [26] (fun vi wr => ∃ k : Nat, k ≤ hs.length ∧ vi = .int .i64 (k : Int) ∧ Below (w.heap.size + 1) (w.alloc (.cells #[.string (bs ty), .slice p hs.length cap, .slice q d.length bc] 35)) wr ∧ Hid (hdrsOK (hs.take k) = true)) (fun vi _ => hs.length - (intOf vi).toNat)
    case atStart =>
      refine ⟨0, Nat.zero_le _, rfl, Below.refl _ _, ?_⟩
      rw [List.take_zero]; exact hdrsOK_nil
    case round =>
      obtain ⟨k, hk, rfl, hb, HO⟩ := hrel
      obtain ⟨wo, hwo⟩ : ∃ wo : World, wo = wr := ⟨_, rfl⟩
      subst hwo
      by_cases hlt : k < hs.length
      · obtain ⟨x, hx⟩ : ∃ x, hs[k]? = some x := ⟨_, List.getElem?_eq_getElem hlt⟩
        obtain ⟨b, o, rfl, hcell⟩ := unhide HC (by rintro rfl; simp at hlt)
        have hcello : ∀ (i : Nat) x, hs[i]? = some x → wo.cell? ⟨b, o + i * 2, none⟩ = some (.string (bs x.1)) ∧ wo.cell? ⟨b, o + i * 2 + 1, none⟩ = some (.string (bs x.2)) := by
          intro i x hx
          obtain ⟨h1, h2⟩ := hcell i x hx
          have hbl : b < w.heap.size := World.block_lt_of_cell? w _ h1
          have hbk : wo.heap[b]? = w.heap[b]? := (hb.block b (Nat.lt_succ_of_lt hbl)).trans (Below.heap_alloc w _ b hbl)
          exact ⟨by rw [World.cell?_of_block (w := w) (a := ⟨b, _, none⟩) hbk]; exact h1, by rw [World.cell?_of_block (w := w) (a := ⟨b, _, none⟩) hbk]; exact h2⟩
        have hbox : wo.heap[w.heap.size]? = some (.cells #[.string (bs ty), .slice (some ⟨b, o, none⟩) hs.length cap, .slice q d.length bc] 35 (0, 0)) :=
          (hb.block _ (Nat.lt_succ_self _)).trans (heap_new w _)
        have cb1 : wo.cell? ⟨w.heap.size, 1, none⟩ = some (.slice (some ⟨b, o, none⟩) hs.length cap) := by rw [cell_of_heap hbox]; rfl
        obtain ⟨hk1, hk2⟩ := hcello k x hx
        obtain ⟨xl1, xl2⟩ := unhide HK x (List.mem_of_getElem? hx)
        have HP1 := hide (fun W => plain_any x.1 W (by omega))
        have HP2 := hide (fun W => plain_any x.2 W (by omega))
        have HCO := hide hcello
        have HX := hide hx
        have hbW : Below w.heap.size w wo := (balloc (Below.refl _ _) _).trans (hb.mono (Nat.le_succ _))
        have hszo : w.heap.size + 1 ≤ wo.heap.size := by have := hb.size; rw [World.size_alloc] at this; exact this
        clear hcell hcello hx xl1 xl2
        have HBW := hide hbW
        have hb1 : Below wo.heap.size wo (wo.alloc (.cells #[.string (bs x.1), .string (bs x.2)] 49)) := balloc (Below.refl _ _) _
        have HB1 := hide hb1
        clear hbW hb1
        have hfalse : hdrsOK (hs.take (k + 1)) = false → Hid (R = false) := fun h => (unhide HRR).trans (hdrsOK_take_false h)
        have hsn : hdrsOK (hs.take (k + 1)) = (hdrsOK (hs.take k) && (plainS x.1 && plainS x.2) && decide (x.1 ∉ (hs.take k).map (·.1))) := by
          rw [List.take_add_one, unhide HX]; exact hdrsOK_snoc _ _
        have HFA := hide hfalse
        have HSN := hide hsn
        clear hfalse hsn
        go_wp2_with fail
        refine (unhide HP1 _).mono ?_
        rintro e w' ⟨rfl, rfl⟩
        cases hp1 : plainS x.1 with
        | false =>
          have HF := unhide HFA (by rw [unhide HSN, hp1]; simp)
          clear hp1 HP1 HP2
          go_wp2_with fail
          go_ret
          exact ⟨ret_bool (unhide HF).symm, bstep (unhide HBW) (unhide HB1)⟩
        | true =>
          have HP1T := hide hp1
          clear hp1 HP1
          go_wp2_with fail
          refine (unhide HP2 _).mono ?_
          rintro e w' ⟨rfl, rfl⟩
          cases hp2 : plainS x.2 with
          | false =>
            have HF := unhide HFA (by rw [unhide HSN, hp2]; simp)
            clear hp2 HP2
            go_wp2_with fail
            go_ret
            exact ⟨ret_bool (unhide HF).symm, bstep (unhide HBW) (unhide HB1)⟩
          | true =>
            have HP2T := hide hp2
            clear hp2 HP2
            have cb2 : (wo.alloc (.cells #[.string (bs x.1), .string (bs x.2)] 49)).cell? ⟨w.heap.size, 1, none⟩ = some (.slice (some ⟨b, o, none⟩) hs.length cap) := by
              rw [World.cell?_of_block (w := wo) (Below.heap_alloc _ _ _ (show w.heap.size < wo.heap.size by omega))]; exact cb1
            have hkc : k ≤ cap := by omega
            have hkey1 : (wo.alloc (.cells #[.string (bs x.1), .string (bs x.2)] 49)).cell? ⟨wo.heap.size, 0, none⟩ = some (.string (bs x.1)) := by rw [cell_of_heap (heap_new wo _)]; rfl
            have hcells1 : ∀ (i : Nat) x', hs[i]? = some x' → (wo.alloc (.cells #[.string (bs x.1), .string (bs x.2)] 49)).cell? ⟨b, o + i * 2, none⟩ = some (.string (bs x'.1)) ∧ (wo.alloc (.cells #[.string (bs x.1), .string (bs x.2)] 49)).cell? ⟨b, o + i * 2 + 1, none⟩ = some (.string (bs x'.2)) := by
              intro i x' hx'
              obtain ⟨h1, h2⟩ := unhide HCO i x' hx'
              have hbl : b < wo.heap.size := World.block_lt_of_cell? wo _ h1
              have hbk := Below.heap_alloc wo (.cells #[.string (bs x.1), .string (bs x.2)] 49) b hbl
              exact ⟨by rw [World.cell?_of_block (w := wo) (a := ⟨b, _, none⟩) hbk]; exact h1, by rw [World.cell?_of_block (w := wo) (a := ⟨b, _, none⟩) hbk]; exact h2⟩
            have HCE := hide hcells1
            have HKE := hide hkey1
            have hsz1 : (wo.alloc (.cells #[.string (bs x.1), .string (bs x.2)] 49)).heap.size = wo.heap.size + 1 := World.size_alloc _ _
            have HSZ1 := hide hsz1
            clear hcells1 hkey1 hsz1 cb1 hk1 hk2
            go_wp2_with fail
            clear cb2
            generalize hWA : wo.alloc (.cells #[.string (bs x.1), .string (bs x.2)] 49) = wA at HCE HKE HSZ1 HB1 ⊢
            have HWA := hide hWA
            clear hWA
            go_loopw [46] (fun vj wr => ∃ j : Nat, j ≤ k ∧ vj = .int .i64 (j : Int) ∧ Below wA.heap.size wA wr ∧ Hid (∀ (i : Nat) x', hs[i]? = some x' → i < j → x'.1 ≠ x.1)) (fun vj _ => k - (intOf vj).toNat)
            case atStart => exact ⟨0, Nat.zero_le _, rfl, Below.refl _ _, fun i x' _ h => absurd h (by omega)⟩
            case round =>
              obtain ⟨j, hj, rfl, hbj, HNE⟩ := hrel
              have hkk : wr.cell? ⟨wo.heap.size, 0, none⟩ = some (.string (bs x.1)) := by
                rw [hbj.cell (p := ⟨wo.heap.size, 0, none⟩) (by have := unhide HSZ1; show wo.heap.size < _; omega)]; exact unhide HKE
              by_cases hjk : j < k
              · obtain ⟨y, hy⟩ : ∃ y, hs[j]? = some y := ⟨_, List.getElem?_eq_getElem (by omega)⟩
                obtain ⟨h1, h2⟩ := unhide HCE j y hy
                have hbl : b < wA.heap.size := World.block_lt_of_cell? wA _ h1
                have hy1 : wr.cell? ⟨b, o + j * 2, none⟩ = some (.string (bs y.1)) := by rw [hbj.cell (p := ⟨b, o + j * 2, none⟩) hbl]; exact h1
                have hy2 : wr.cell? ⟨b, o + j * 2 + 1, none⟩ = some (.string (bs y.2)) := by rw [hbj.cell (p := ⟨b, o + j * 2 + 1, none⟩) hbl]; exact h2
                have HY := hide hy
                have hbj2 : Below wA.heap.size wA (wr.alloc (.cells #[.string (bs y.1), .string (bs y.2)] 49)) := balloc hbj _
                have HBJ := hide hbj2
                clear h1 h2 hy hbj hbj2
                have hkk2 : (wr.alloc (.cells #[.string (bs y.1), .string (bs y.2)] 49)).cell? ⟨wo.heap.size, 0, none⟩ = some (.string (bs x.1)) := by
                  rw [World.cell?_of_block (w := wr) (Below.heap_alloc _ _ _ (World.block_lt_of_cell? _ _ hkk))]; exact hkk
                by_cases hyx : y.1 = x.1
                · have HF : Hid (R = false) := by
                    refine unhide HFA ?_
                    rw [unhide HSN]
                    have : x.1 ∈ (hs.take k).map (·.1) := by
                      rw [← hyx]
                      exact List.mem_map.2 ⟨y, List.mem_of_getElem? (by rw [List.getElem?_take, if_pos hjk]; exact unhide HY), rfl⟩
                    have e : decide (x.1 ∉ (hs.take k).map (·.1)) = false := decide_eq_false (not_not_intro this)
                    rw [e, Bool.and_false]
                  have hq : (y.1 == x.1) = true := by rw [hyx]; simp
                  clear hyx
                  go_wp2_with fail
                  go_ret
                  refine ⟨ret_bool (unhide HF).symm, ?_⟩
                  have hb9 : Below wo.heap.size wo wA := unhide HB1
                  exact bstep (bstep (unhide HBW) hb9) (unhide HBJ)
                · have hq : (y.1 == x.1) = false := by simpa using hyx
                  have HNE2 : Hid (∀ (i : Nat) x', hs[i]? = some x' → i < j + 1 → x'.1 ≠ x.1) := by
                    intro i x' hi hij
                    by_cases e : i = j
                    · subst e; rw [unhide HY] at hi; cases hi; exact hyx
                    · exact unhide HNE i x' hi (by omega)
                  clear hyx
                  go_wp2_with fail
                  refine ⟨⟨j + 1, by omega, by go_num, unhide HBJ, HNE2⟩, ?_⟩
                  simp [intOf]; omega
              · have hO2 : Hid (hdrsOK (hs.take (k + 1)) = true) := by
                  show _ = _
                  have hnm : x.1 ∉ (hs.take k).map (·.1) := by
                    intro hm
                    obtain ⟨z, hz, e⟩ := List.mem_map.1 hm
                    obtain ⟨i, hi, e2⟩ := List.getElem_of_mem hz
                    have hi2 : i < k := by rw [List.length_take] at hi; omega
                    have h3 : hs[i]? = some z := by
                      rw [← e2, List.getElem_take]; exact List.getElem?_eq_getElem (by omega)
                    exact unhide HNE i z h3 (by omega) e
                  rw [unhide HSN, unhide HO, unhide HP1T, unhide HP2T, decide_eq_true hnm]
                  rfl
                have hb9 : Below wo.heap.size wo wA := unhide HB1
                have hb10 : Below (w.heap.size + 1) (w.alloc (.cells #[.string (bs ty), .slice (some ⟨b, o, none⟩) hs.length cap, .slice q d.length bc] 35)) wr := (hb.trans (hb9.mono hszo)).trans (hbj.mono (Nat.le_trans hszo hb9.size))
                have HB10 := hide hb10
                clear hbj hb9 hb10 hkk
                go_wp2_with fail
                refine ⟨⟨k + 1, by omega, by go_num, unhide HB10, hO2⟩, ?_⟩
                simp [intOf]; omega
      · have hke : k = hs.length := by omega
        have HF : Hid (R = true) := by
          show R = true
          rw [unhide HRR]
          have := unhide HO
          rw [hke, List.take_length] at this
          exact this
        clear HO hke
        go_wp2
        go_ret
        exact ⟨ret_bool (unhide HF).symm, (balloc (Below.refl _ _) _).trans (hb.mono (Nat.le_succ _))⟩
  · have hor : plainS ty = false ∨ (plainS ty = true ∧ (50 : Int) < (hs.length : Int)) ∨ (plainS ty = true ∧ ¬ (50 : Int) < (hs.length : Int) ∧ (5000 : Int) < (d.length : Int)) := by
      cases hf : plainS ty with
      | false => exact .inl rfl
      | true =>
        right
        by_cases h1 : hs.length ≤ 50
        · right
          by_cases h2 : d.length ≤ 5000
          · exact absurd ⟨hf, h1, h2⟩ hgood
          · exact ⟨rfl, by omega, by omega⟩
        · left; exact ⟨rfl, by omega⟩
    have HF : Hid (R = false) := by
      rw [← unhide HR]; show properB ty hs d = false
      unfold properB
      rcases hor with h | ⟨h1, h2⟩ | ⟨h1, h2, h3⟩
      · simp [h]
      · have : decide (hs.length ≤ 50) = false := by simp; omega
        simp [this]
      · have : decide (d.length ≤ 5000) = false := by simp; omega
        simp [this]
    clear hgood HR HC HK
    rcases hor with k0 | ⟨k0, k1⟩ | ⟨k0, k1, k2⟩
    all_goals (
      have HPT : Hid (∀ W, Calls Try.prog 24 #[.string (bs ty)] W fun e w' => e = .returned (.bool (plainS ty)) ∧ W = w') := hplt
      have HK0 := hide k0
      clear hplt k0
      go_enter Try.func17, Try.ntmps17
      go_wp2_with fail
      refine (unhide HPT _).mono ?_
      rintro e w' ⟨rfl, rfl⟩
      rw [unhide HK0]
      clear HPT
      go_wp2
      go_ret
      exact ⟨ret_bool (unhide HF).symm, balloc (Below.refl _ _) _⟩)
end Go.Proofs.Ytpjehmblndjknaa
