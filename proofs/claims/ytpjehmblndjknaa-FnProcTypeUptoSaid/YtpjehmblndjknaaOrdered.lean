/-
  Walk: spec.Ordered over a block as it is written.
-/
import Derived.Test.YtpjehmblndjknaaLine1
import Derived.Test.YtpjehmblndjknaaHcell
import Derived.Test.YtpjehmblndjknaaForm2
import Derived.StillTailTactics
import Derived.Deep.DeepCutAuto
namespace Go.Proofs.Ytpjehmblndjknaa
open Go.RowKit Go.Maps
set_option linter.unusedSimpArgs false
set_option linter.unusedVariables false

def lenO : Value → Nat | .string s => s.size | _ => 0

/-- Headers that can be read back. -/
def Readable (ls : Hdrs) : Prop := ∀ p ∈ ls, (58 : UInt8) ∉ p.1 ∧ (10 : UInt8) ∉ p.1 ∧ (10 : UInt8) ∉ p.2

set_option maxRecDepth 100000 in
set_option maxHeartbeats 4000000 in
theorem ordered_any (ty b : List UInt8) (ls : Hdrs) (w : World) (ht1 : (10 : UInt8) ∉ ty) (ht2 : (58 : UInt8) ∉ ty) (hr : Readable ls) (hl : (writtenP ty ls b).length ≤ 140737488355328) (hn : ls.length ≤ 4294967295) :
    Calls Try.prog 20 #[.string (bs (writtenP ty ls b))] w fun e w' => ∃ v, e = .returned (.tuple #[v, .bool true]) ∧ Hd w' v ls ∧ Below w.heap.size w w' := by
  have hfirst : (10 : UInt8) ∉ begP ++ (ty ++ dashP) := by
    rw [List.mem_append, List.mem_append]
    rintro (h | h | h)
    · revert h; decide
    · exact ht1 h
    · revert h; decide
  obtain ⟨n1, n2, n3⟩ := nl_split (r := hlinesL ls ++ tailP ty ls b) hfirst
  rw [← written_split] at n1 n2 n3
  have hline := specline_any (writtenP ty ls b) w (by omega)
  rw [n1, n2, n3] at hline
  have HL := hide hline
  have HR := hide hr
  have htot : (hlinesL ls ++ tailP ty ls b).length ≤ 140737488355328 := by
    rw [written_split, List.length_append, List.length_cons] at hl; omega
  have HT := hide htot
  have HC := hide (And.intro ht1 ht2)
  clear hline hr n1 n2 n3 hfirst hl htot ht1 ht2
  generalize writtenP ty ls b = S0 at HL ⊢
  go_enter Try.func20, Try.ntmps20
  go_wp2_with fail
  refine (unhide HL).mono ?_
  rintro e w' ⟨rfl, n0, rfl⟩
  clear HL
  go_wp2_with fail
  go_loopw [0, 5, 6] (fun vs vok vo wr => ∃ (k : Nat) (x : List UInt8), k ≤ ls.length ∧ vs = .string (bs x) ∧ vok = .bool true ∧ Hid (x = hlinesL (ls.drop k) ++ tailP ty ls b) ∧ wr.ownsRow w.heap.size 49 2 vo k (hcells (ls.take k)) ∧ Below w.heap.size w wr) (fun vs _ _ _ => lenO vs)
  case atStart =>
    exact ⟨0, _, Nat.zero_le _, rfl, rfl, rfl, World.ownsRow_nil _ _ _ _, drewN_below _ _⟩
  case round =>
    obtain ⟨k, x, hk, rfl, rfl, HX, hown, hb⟩ := hrel
    have hxl : x.length ≤ 140737488355328 := by
      rw [unhide HX]
      have h1 := unhide HT
      have h2 : hlinesL ls = hlinesL (ls.take k) ++ hlinesL (ls.drop k) := by unfold hlinesL; rw [← List.flatMap_append, List.take_append_drop]
      rw [h2, List.append_assoc, List.length_append] at h1
      omega
    have hline := hide (specline_any x wr (by omega))
    by_cases hlt : k < ls.length
    · obtain ⟨y, hy⟩ : ∃ y, ls[k]? = some y := ⟨_, List.getElem?_eq_getElem hlt⟩
      obtain ⟨r1, r2, r3⟩ := unhide HR y (List.mem_of_getElem? hy)
      have hno : (10 : UInt8) ∉ y.1 ++ 58 :: 32 :: y.2 := by
        rw [List.mem_append, List.mem_cons, List.mem_cons]
        rintro (h | h | h | h)
        · exact r2 h
        · revert h; decide
        · revert h; decide
        · exact r3 h
      have hx2 : x = (y.1 ++ 58 :: 32 :: y.2) ++ 10 :: (hlinesL (ls.drop (k + 1)) ++ tailP ty ls b) := by
        rw [unhide HX, hlinesL_drop hy]; simp
      obtain ⟨m1, m2, m3⟩ := nl_split (r := hlinesL (ls.drop (k + 1)) ++ tailP ty ls b) hno
      rw [← hx2] at m1 m2 m3
      obtain ⟨F, hF⟩ : ∃ F, F = y.1 ++ 58 :: 32 :: y.2 := ⟨_, rfl⟩
      obtain ⟨x2, hX2⟩ : ∃ x2, x2 = hlinesL (ls.drop (k + 1)) ++ tailP ty ls b := ⟨_, rfl⟩
      have hln := unhide hline
      rw [m1, m2, m3, ← hF, ← hX2] at hln
      have HLN := hide hln
      have HX2 := hide hX2
      have HY := hide hy
      have hFl : F.length = y.1.length + (y.2.length + 1 + 1) := by rw [hF]; simp
      have hyl : y.1.length + y.2.length + 2 < x.length := by rw [hx2]; simp; omega
      have hFx : F.length ≤ x.length := by omega
      have hx2l : x2.length < x.length := by rw [hx2, ← hX2]; simp; omega
      have HFB : Hid (∀ (j : Nat) c, j < y.1.length → F[j]? = some c → c ≠ 58) := by
        intro j c hj hc e
        rw [hF, List.getElem?_append_left hj] at hc
        exact r1 (by rw [← e]; exact List.mem_of_getElem? hc)
      have hF1 : F[y.1.length]? = some 58 := by rw [hF, List.getElem?_append_right (Nat.le_refl _), Nat.sub_self]; rfl
      have hF2 : F[y.1.length + 1]? = some 32 := by rw [hF, List.getElem?_append_right (by omega), show y.1.length + 1 - y.1.length = 1 by omega]; rfl
      have hF3 : F.take y.1.length = y.1 := by rw [hF, List.take_left' rfl]
      have hF4 : F.drop (y.1.length + 2) = y.2 := by rw [hF, show y.1 ++ 58 :: 32 :: y.2 = (y.1 ++ [58, 32]) ++ y.2 by simp, List.drop_left' (by simp)]
      have HFF := hide (And.intro hF1 (And.intro hF2 (And.intro hF3 hF4)))
      obtain ⟨A, hA⟩ : ∃ A, A = y.1.length := ⟨_, rfl⟩
      rw [← hA] at hFl hyl HFB HFF
      have HA := hide hA
      have i1 : A + 2 ≤ F.length := by omega
      have i2 : F.length ≤ 140737488355328 := by omega
      clear hline hln m1 m2 m3 hno r1 r2 r3 hx2 hy hF hX2 hA hF1 hF2 hF3 hF4 hFl hyl hFx
      go_wp2_with fail
      refine (unhide HLN).mono ?_
      rintro e w' ⟨rfl, n1, rfl⟩
      clear HLN
      have hown2 : (wr.drewN n1).ownsRow w.heap.size 49 2 u6 k (hcells (ls.take k)) := hown
      have hb2 : Below w.heap.size w (wr.drewN n1) := below_drewN hb n1
      generalize hW : wr.drewN n1 = wd at hown2 hb2 ⊢
      clear hW hown hb
      go_wp2_with fail
      go_loop [10] (fun va => ∃ j : Nat, j ≤ A ∧ va = .int .i64 (j : Int)) (fun va => A - (intOf va).toNat)
      case atStart => exact ⟨0, Nat.zero_le _, rfl⟩
      case round =>
        obtain ⟨j, hj, rfl⟩ := hrel
        have hjF : j < F.length := by omega
        obtain ⟨c, hc⟩ : ∃ c, F[j] = c := ⟨_, rfl⟩
        have hbc := bounds_byte c
        by_cases hjA : j < A
        · have hq : ((c.toNat : Int) != 58) = true := by
            have h1 := unhide HFB j c hjA (by rw [← hc]; exact List.getElem?_eq_getElem hjF)
            rw [bne_iff_ne]
            intro e
            apply h1
            rw [← UInt8.toNat_inj]
            have : (58 : UInt8).toNat = 58 := rfl
            omega
          go_wp2_with fail
          refine ⟨⟨j + 1, by omega, by go_num⟩, ?_⟩
          simp [intOf]; omega
        · have hje : j = A := by omega
          subst hje
          have hc58 : c = 58 := by
            have h1 := (unhide HFF).1
            rw [List.getElem?_eq_getElem hjF, hc] at h1
            exact Option.some.inj h1
          have hq : ((c.toNat : Int) != 58) = false := by rw [hc58]; rfl
          obtain ⟨c2, hc2⟩ : ∃ c2, F[j + 1]'(by omega) = c2 := ⟨_, rfl⟩
          have hbc2 := bounds_byte c2
          have hq2 : ((c2.toNat : Int) != 32) = false := by
            have h1 := (unhide HFF).2.1
            rw [List.getElem?_eq_getElem (by omega), hc2] at h1
            rw [Option.some.inj h1]; rfl
          have hjF2 : j + 1 < F.length := by omega
          have i3 : ¬ ((F.length : Int) < (j : Int) + 2) := by omega
          clear hc58 hjA
          have hown3 : wd.drew.ownsRow w.heap.size 49 2 u6 k (hcells (ls.take k)) := hown2
          obtain ⟨v3, w3, hr3, hown4, hg3⟩ := append_hd1 33 49 Try.underlying33 infoG 33 (F.take j) (F.drop (j + 2)) hown3 (by omega) (by have := hb2.size; exact this) 49
          have hr4 : (Builtin.append_ #[33, 33] 33 #[u6, .slice (some ⟨wd.heap.size, 0, none⟩) 1 1]).run Try.prog ((wd.alloc (.cells #[.string (bs (F.take j)), .string (bs (F.drop (j + 2)))] 49)).drew) = .ok v3 w3 := hr3
          have HG := hide (And.intro hown4 hg3)
          clear hr3 hown4 hg3 hown3
          go_wp2_with fail
          have z1 : (0 : Int) ≤ (j : Int) := Int.natCast_nonneg j
          have z2 : (j : Int) ≤ (F.length : Int) := by omega
          have z3 : IntKind.i64.wrap ((j : Int) + 2) = (j : Int) + 2 := by rw [IntKind.wrap_i64]; omega
          have z4 : (0 : Int) ≤ (j : Int) + 2 := by omega
          have z5 : (j : Int) + 2 ≤ (F.length : Int) := by omega
          have z6 : ((j : Int) + 2).toNat = j + 2 := rfl
          go_cut [6] (fun v6 w' => v6 = v3 ∧ w3 = w')
          case first =>
            go_region_law (refine step_append_run rfl _ _ _ rfl _ _ rfl rfl hr4 ?_)
            all_goals (go_wp2_with fail; go_meet; exact ⟨rfl, rfl⟩)
          obtain ⟨rfl, rfl⟩ := hcut
          clear z1 z2 z3 z4 z5 z6
          go_wp2_with fail
          obtain ⟨g1, g2⟩ := unhide HG
          obtain ⟨_, _, f3, f4⟩ := unhide HFF
          have hown5 : w3.ownsRow w.heap.size 49 2 u6 (k + 1) (hcells (ls.take (k + 1))) := by
            rw [List.take_add_one, unhide HY]
            rw [f3, f4] at g1
            exact g1
          have hlt2 := hown2.lt
          have hb5 : Below w.heap.size w w3 := (balloc (below_drewN hb2 1) _).grown g2 (by rw [World.size_alloc]; have := hb2.size; show w.heap.size ≤ wd.heap.size + 1; omega) (fun i hi => (hlt2 i hi).1)
          go_light
          refine ⟨⟨k + 1, x2, by omega, rfl, rfl, unhide HX2, hown5, hb5⟩, ?_⟩
          simp only [lenO, bs_size]
          exact hx2l
    · have hke : k = ls.length := by omega
      have hx0 : x = tailP ty ls b := by
        rw [unhide HX, hke, List.drop_length]; rfl
      have hnc : (58 : UInt8) ∉ preNL x := by rw [hx0]; exact tail_noColon (unhide HC).2 ls b
      have hhn : hasNL x = true := by rw [hx0]; exact tail_hasNL ty ls b
      have hpl := preNL_le x
      obtain ⟨F, hF⟩ : ∃ F, F = preNL x := ⟨_, rfl⟩
      have hln := unhide hline
      rw [hhn, ← hF] at hln
      have HLN := hide hln
      have HNC : Hid ((58 : UInt8) ∉ F) := by rw [hF]; exact hnc
      rw [← hF] at hpl
      have hown5 : wr.ownsRow w.heap.size 49 2 u6 ls.length (hcells ls) := by
        rw [hke, List.take_length] at hown; exact hown
      have HO5 := hide (And.intro (Hd.of_owns hown5) hb)
      clear hline hln hnc hhn hx0 hF hown hown5 hb hke
      go_wp2_with fail
      refine (unhide HLN).mono ?_
      rintro e w' ⟨rfl, n1, rfl⟩
      clear HLN
      have HO6 : Hid (Hd (wr.drewN n1) u6 ls ∧ Below w.heap.size w (wr.drewN n1)) := ⟨(unhide HO5).1.below (drewN_below _ _), below_drewN (unhide HO5).2 n1⟩
      generalize hW : wr.drewN n1 = wd at HO6 ⊢
      clear hW HO5
      go_wp2_with fail
      go_loop [10] (fun va => ∃ j : Nat, j ≤ F.length ∧ va = .int .i64 (j : Int)) (fun va => F.length - (intOf va).toNat)
      case atStart => exact ⟨0, Nat.zero_le _, rfl⟩
      case round =>
        obtain ⟨j, hj, rfl⟩ := hrel
        by_cases hjA : j < F.length
        · obtain ⟨c, hc⟩ : ∃ c, F[j] = c := ⟨_, rfl⟩
          have hbc := bounds_byte c
          have hq : ((c.toNat : Int) != 58) = true := by
            rw [bne_iff_ne]
            intro e
            apply unhide HNC
            have h58 : c = 58 := by rw [← UInt8.toNat_inj]; show c.toNat = 58; omega
            rw [← h58, ← hc]; exact List.getElem_mem hjA
          go_wp2_with fail
          refine ⟨⟨j + 1, by omega, by go_num⟩, ?_⟩
          simp [intOf]; omega
        · have hn1 : ¬ ((j : Int) < (F.length : Int)) := by omega
          have hn2 : (F.length : Int) < (j : Int) + 2 := by omega
          clear hjA
          go_wp2_with fail
          go_ret2
          exact ⟨_, rfl, (unhide HO6).1, (unhide HO6).2⟩
end Go.Proofs.Ytpjehmblndjknaa
