/-
  Walk: spec.SameHeaders.
-/
import Derived.Test.YtpjehmblndjknaaProper
import Derived.Laws.StructEq
namespace Go.Proofs.Ytpjehmblndjknaa
open Go.RowKit Go.Maps
set_option linter.unusedSimpArgs false
set_option linter.unusedVariables false

theorem sameH_false {a b : Hdrs} {k : Nat} {x : List UInt8 × List UInt8} (hx : a[k]? = some x) (h : x ∉ b) : sameH a b = false := by
  unfold sameH
  rw [Bool.and_eq_false_iff]
  right
  rw [List.all_eq_false]
  exact ⟨x, List.mem_of_getElem? hx, by simpa using h⟩
theorem sameH_true {a b : Hdrs} (hl : a.length = b.length) (h : ∀ (j : Nat) x, a[j]? = some x → j < a.length → x ∈ b) : sameH a b = true := by
  unfold sameH
  rw [Bool.and_eq_true, List.all_eq_true]
  refine ⟨by simpa using hl, fun x hx => ?_⟩
  obtain ⟨j, hj, rfl⟩ := List.getElem_of_mem hx
  simpa using h j _ (List.getElem?_eq_getElem hj) hj

set_option maxRecDepth 100000 in
set_option maxHeartbeats 4000000 in
theorem same_any (as_ bs_ : Hdrs) (va vb : Value) (w : World) (hA : Hd w va as_) (hB : Hd w vb bs_) (hna : as_.length ≤ 4294967295) (hnb : bs_.length ≤ 4294967295) :
    Calls Try.prog 21 #[va, vb] w fun e w' => e = .returned (.bool (sameH as_ bs_)) ∧ Below w.heap.size w w' := by
  obtain ⟨pa, ca, rfl, hla, hca⟩ := hA
  obtain ⟨pb, cb, rfl, hlb, hcb⟩ := hB
  generalize hR : sameH as_ bs_ = R
  have HR := hide hR
  clear hR
  by_cases hl : as_.length = bs_.length
  · have hq : ((as_.length : Int) != (bs_.length : Int)) = false := by rw [hl]; simp
    have hql : (as_.length != bs_.length) = false := by rw [hl]; simp
    have HL := hide hl
    have HCA := hide hca
    have HCB := hide hcb
    have hl1 : as_.length ≤ bs_.length := by omega
    have hl2 : bs_.length ≤ as_.length := by omega
    clear hl hca hcb hla hlb
    go_enter Try.func21, Try.ntmps21
    go_wp2_with fail
    go_loopw [17] (fun vi wr => ∃ k : Nat, k ≤ as_.length ∧ vi = .int .i64 (k : Int) ∧ Below w.heap.size w wr ∧ Hid (∀ (j : Nat) x, as_[j]? = some x → j < k → x ∈ bs_)) (fun vi _ => as_.length - (intOf vi).toNat)
    case atStart => exact ⟨0, Nat.zero_le _, rfl, Below.refl _ _, fun j x _ h => absurd h (by omega)⟩
    case round =>
      obtain ⟨k, hk, rfl, hb, HA⟩ := hrel
      obtain ⟨wo, hwo⟩ : ∃ wo : World, wo = wr := ⟨_, rfl⟩
      subst hwo
      by_cases hlt : k < as_.length
      · obtain ⟨x, hx⟩ : ∃ x, as_[k]? = some x := ⟨_, List.getElem?_eq_getElem hlt⟩
        obtain ⟨b, o, rfl, hcell⟩ := unhide HCA (by rintro rfl; simp at hlt)
        obtain ⟨h1, h2⟩ := hcell k x hx
        have hk1 : wo.cell? ⟨b, o + k * 2, none⟩ = some (.string (bs x.1)) := by rw [hb.cell (p := ⟨b, o + k * 2, none⟩) (World.block_lt_of_cell? w _ h1)]; exact h1
        have hk2 : wo.cell? ⟨b, o + k * 2 + 1, none⟩ = some (.string (bs x.2)) := by rw [hb.cell (p := ⟨b, o + k * 2 + 1, none⟩) (World.block_lt_of_cell? w _ h2)]; exact h2
        have HX := hide hx
        have hbA : Below w.heap.size w (wo.alloc (.cells #[.string (bs x.1), .string (bs x.2)] 49)) := balloc hb _
        have hc1 : (wo.alloc (.cells #[.string (bs x.1), .string (bs x.2)] 49)).cell? ⟨wo.heap.size, 0, none⟩ = some (.string (bs x.1)) := by rw [cell_of_heap (heap_new wo _)]; rfl
        have hc2 : (wo.alloc (.cells #[.string (bs x.1), .string (bs x.2)] 49)).cell? ⟨wo.heap.size, 1, none⟩ = some (.string (bs x.2)) := by rw [cell_of_heap (heap_new wo _)]; rfl
        have hszA : wo.heap.size < (wo.alloc (.cells #[.string (bs x.1), .string (bs x.2)] 49)).heap.size := by rw [World.size_alloc]; omega
        have HAll := hide (And.intro hbA (And.intro hc1 (And.intro hc2 hszA)))
        clear h1 h2 hcell hx hbA hc1 hc2 hszA
        go_wp2_with fail
        generalize hWA : wo.alloc (.cells #[.string (bs x.1), .string (bs x.2)] 49) = wA at HAll ⊢
        clear hWA hk1 hk2
        obtain ⟨hbA, hc1, hc2, hszA⟩ := unhide HAll
        clear HAll
        have HC12 := hide (And.intro hc1 (And.intro hc2 hszA))
        clear hc1 hc2
        go_loopw [7, 23] (fun vf vj wr => ∃ j : Nat, j ≤ bs_.length ∧ vj = .int .i64 (j : Int) ∧ vf = .bool (decide (x ∈ bs_.take j)) ∧ Below wA.heap.size wA wr) (fun _ vj _ => bs_.length - (intOf vj).toNat)
        case atStart => exact ⟨0, Nat.zero_le _, rfl, rfl, Below.refl _ _⟩
        case round =>
          obtain ⟨j, hj, rfl, rfl, hbj⟩ := hrel
          have hx1 : wr.cell? ⟨wo.heap.size, 0, none⟩ = some (.string (bs x.1)) := by rw [hbj.cell (p := ⟨wo.heap.size, 0, none⟩) hszA]; exact (unhide HC12).1
          have hx2 : wr.cell? ⟨wo.heap.size, 1, none⟩ = some (.string (bs x.2)) := by rw [hbj.cell (p := ⟨wo.heap.size, 1, none⟩) hszA]; exact (unhide HC12).2.1
          by_cases hjl : j < bs_.length
          · obtain ⟨y, hy⟩ : ∃ y, bs_[j]? = some y := ⟨_, List.getElem?_eq_getElem hjl⟩
            obtain ⟨b2, o2, rfl, hcell2⟩ := unhide HCB (by rintro rfl; simp at hjl)
            obtain ⟨h1, h2⟩ := hcell2 j y hy
            have hbw : Below w.heap.size w wr := bstep hbA hbj
            have hy1 : wr.cell? ⟨b2, o2 + j * 2, none⟩ = some (.string (bs y.1)) := by rw [hbw.cell (p := ⟨b2, o2 + j * 2, none⟩) (World.block_lt_of_cell? w _ h1)]; exact h1
            have hy2 : wr.cell? ⟨b2, o2 + j * 2 + 1, none⟩ = some (.string (bs y.2)) := by rw [hbw.cell (p := ⟨b2, o2 + j * 2 + 1, none⟩) (World.block_lt_of_cell? w _ h2)]; exact h2
            have htk : bs_.take (j + 1) = bs_.take j ++ [y] := by rw [List.take_add_one, hy]; rfl
            have hbn : Below wA.heap.size wA (wr.alloc (.cells #[.string (bs y.1), .string (bs y.2)] 49)) := balloc hbj _
            have HBN := hide hbn
            have HTK := hide htk
            have hxa : (wr.alloc (.cells #[.string (bs y.1), .string (bs y.2)] 49)).cell? ⟨wo.heap.size, 0, none⟩ = some (.string (bs x.1)) := by
              rw [World.cell?_of_block (w := wr) (Below.heap_alloc _ _ _ (World.block_lt_of_cell? _ _ hx1))]; exact hx1
            have hxb : (wr.alloc (.cells #[.string (bs y.1), .string (bs y.2)] 49)).cell? ⟨wo.heap.size, 1, none⟩ = some (.string (bs x.2)) := by
              rw [World.cell?_of_block (w := wr) (Below.heap_alloc _ _ _ (World.block_lt_of_cell? _ _ hx2))]; exact hx2
            clear h1 h2 hcell2 hy hbw htk hbn hbj
            cases hfound : decide (x ∈ bs_.take j) with
            | true =>
              have hnew : Hid (decide (x ∈ bs_.take (j + 1)) = true) := by
                show _ = _
                rw [unhide HTK]; exact decide_eq_true (List.mem_append_left _ (of_decide_eq_true hfound))
              clear hfound
              go_wp2_with fail
              refine ⟨⟨j + 1, by omega, by go_num, by rw [unhide hnew], unhide HBN⟩, ?_⟩
              simp [intOf]; omega
            | false =>
              have hnew : Hid (decide (x ∈ bs_.take (j + 1)) = decide (x = y)) := by
                show _ = _
                rw [unhide HTK, Bool.eq_iff_iff, decide_eq_true_iff, decide_eq_true_iff, List.mem_append, List.mem_singleton]
                exact ⟨fun h => h.elim (fun h => absurd h (of_decide_eq_false hfound)) id, .inr⟩
              clear hfound
              by_cases e1 : x.1 = y.1
              · have q1 : (x.1 == y.1) = true := by rw [e1]; simp
                by_cases e2 : x.2 = y.2
                · have q2 : (x.2 == y.2) = true := by rw [e2]; simp
                  have hxy : Hid (decide (x = y) = true) := decide_eq_true (Prod.ext e1 e2)
                  clear e1 e2
                  go_wp2_with fail
                  refine ⟨⟨j + 1, by omega, by go_num, by rw [unhide hnew, unhide hxy], unhide HBN⟩, ?_⟩
                  simp [intOf]; omega
                · have q2 : (x.2 == y.2) = false := by simpa using e2
                  have hxy : Hid (decide (x = y) = false) := decide_eq_false (fun e => e2 (by rw [e]))
                  clear e1 e2
                  go_wp2_with fail
                  refine ⟨⟨j + 1, by omega, by go_num, by rw [unhide hnew, unhide hxy], unhide HBN⟩, ?_⟩
                  simp [intOf]; omega
              · have q1 : (x.1 == y.1) = false := by simpa using e1
                have hxy : Hid (decide (x = y) = false) := decide_eq_false (fun e => e1 (by rw [e]))
                clear e1
                go_wp2_with fail
                refine ⟨⟨j + 1, by omega, by go_num, by rw [unhide hnew, unhide hxy], unhide HBN⟩, ?_⟩
                simp [intOf]; omega
          · have hje : j = bs_.length := by omega
            have htk : bs_.take j = bs_ := by rw [hje, List.take_length]
            have hbw : Below w.heap.size w wr := bstep hbA hbj
            have HBW := hide hbw
            cases hfound : decide (x ∈ bs_.take j) with
            | true =>
              have hm : x ∈ bs_ := by rw [htk] at hfound; exact of_decide_eq_true hfound
              have HA2 : Hid (∀ (i : Nat) z, as_[i]? = some z → i < k + 1 → z ∈ bs_) := by
                intro i z hz hi
                by_cases e : i = k
                · subst e; rw [unhide HX] at hz; cases hz; exact hm
                · exact unhide HA i z hz (by omega)
              clear hfound hm htk hje hbw hbj
              go_wp2_with fail
              refine ⟨⟨k + 1, by omega, by go_num, unhide HBW, HA2⟩, ?_⟩
              simp [intOf]; omega
            | false =>
              have hm : x ∉ bs_ := by rw [htk] at hfound; exact of_decide_eq_false hfound
              have HF : Hid (R = false) := (unhide HR).symm.trans (sameH_false (unhide HX) hm)
              clear hfound hm htk hje hbw hbj
              go_wp2_with fail
              go_ret
              exact ⟨ret_bool (unhide HF).symm, unhide HBW⟩
      · have hke : k = as_.length := by omega
        have HF : Hid (R = true) := (unhide HR).symm.trans (sameH_true (unhide HL) (fun j x hx hj => unhide HA j x hx (by omega)))
        clear HA hke
        go_wp2
        go_ret
        exact ⟨ret_bool (unhide HF).symm, hb⟩
  · have hq : ((as_.length : Int) != (bs_.length : Int)) = true := by rw [bne_iff_ne]; omega
    have HF : Hid (R = false) := by
      rw [← unhide HR]; show sameH as_ bs_ = false
      unfold sameH
      simp [hl]
    clear hl hca hcb hla hlb
    go_enter Try.func21, Try.ntmps21
    go_wp2
    go_ret
    exact ⟨ret_bool (unhide HF).symm, Below.refl _ _⟩
end Go.Proofs.Ytpjehmblndjknaa
