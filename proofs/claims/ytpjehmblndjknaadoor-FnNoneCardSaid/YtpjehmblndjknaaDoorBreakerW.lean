/-
  Walks of lineBreaker over whatever writer: Write.
-/
import Derived.Test.YtpjehmblndjknaaDoorBreaker
import Derived.Laws.CopyRow
import Derived.Laws.IdiomCopy
namespace Go.Proofs.YtpjehmblndjknaaDoor
open Go.RowKit
set_option linter.unusedSimpArgs false
set_option linter.unusedVariables false

theorem info_u8s : (Tryd.prog.info? 5).map (·.size) = some 1 := by kernel_rfl

/-- The bytes d are copied behind the ones begun, and counted. -/
theorem Brk.push {w : World} {b : Nat} {T : TypeId} {v : Value} {pend d : List UInt8} (h : Brk w b T v pend) (hlt : pend.length + d.length < 64) :
    ∃ cs : Array Value, w.heap[b]? = some (.cells cs 106 (0, 0)) ∧ cs.size = 66 ∧
      Brk ((w.setRow b (cs.toList.take pend.length ++ d.map bv ++ cs.toList.drop (pend.length + d.length)).toArray).setCell ⟨b, 64, none⟩ (.int .i64 ((pend.length : Int) + (d.length : Int)))) b T v (pend ++ d) ∧
      (w.setRow b (cs.toList.take pend.length ++ d.map bv ++ cs.toList.drop (pend.length + d.length)).toArray).cell? ⟨b, 64, none⟩ = some (.int .i64 (pend.length : Int)) ∧
      (w.setRow b (cs.toList.take pend.length ++ d.map bv ++ cs.toList.drop (pend.length + d.length)).toArray).frozen? ⟨b, 64, none⟩ = false := by
  obtain ⟨cs, hb, hs, hl, ht, h64, h65⟩ := h
  have hn := setRow_heap w b cs (cs.toList.take pend.length ++ d.map bv ++ cs.toList.drop (pend.length + d.length)).toArray _ _ hb
  have hlen : cs.toList.length = 66 := by rw [Array.length_toList]; exact hs
  have hl1 : (cs.toList.take pend.length).length = pend.length := by rw [List.length_take]; omega
  have hat : ∀ j, pend.length + d.length ≤ j → (cs.toList.take pend.length ++ d.map bv ++ cs.toList.drop (pend.length + d.length))[j]? = cs[j]? := by
    intro j hj
    rw [List.getElem?_append_right (by rw [List.length_append, hl1, List.length_map]; exact hj), List.length_append, hl1, List.length_map, List.getElem?_drop]
    rw [show pend.length + d.length + (j - (pend.length + d.length)) = j from by omega, Array.getElem?_toList]
  have hsz : (cs.toList.take pend.length ++ d.map bv ++ cs.toList.drop (pend.length + d.length)).length = 66 := by
    rw [List.length_append, List.length_append, hl1, List.length_map, List.length_drop, hlen]; omega
  refine ⟨cs, hb, hs, ⟨_, heap_set_same hn _, by rw [Array.size_setIfInBounds, List.size_toArray]; exact hsz, by rw [List.length_append]; exact hlt, ?_, ?_, ?_⟩, ?_, ?_⟩
  · rw [Array.toList_setIfInBounds, List.length_append, List.map_append, List.take_set_of_le (by omega)]
    rw [List.take_left' (by rw [List.length_append, hl1, List.length_map]), ht]
  · rw [Array.getElem?_setIfInBounds_self_of_lt (by rw [List.size_toArray, hsz]; omega), List.length_append]
    simp
  · rw [Array.getElem?_setIfInBounds_ne (by decide), List.getElem?_toArray, hat 65 (by omega)]
    exact h65
  · rw [cell_of_heap hn, List.getElem?_toArray, hat 64 (by omega)]
    exact h64
  · exact frozen_of_heap hn _

theorem bv_one (l : List UInt8) : ∀ v ∈ l.map bv, v.oneCell' = true := by
  intro v hv
  obtain ⟨x, _, rfl⟩ := List.mem_map.1 hv
  rfl

set_option maxRecDepth 100000 in
set_option maxHeartbeats 400000 in
theorem brk_small (bb B : Nat) (b : Nat) (T : TypeId) (v : Value) (pend d : List UInt8) (sb so c : Nat) (w : World) (hb : Brk w b T v pend) (hs : Src w sb so d) (h0 : 0 < d.length) (hlt : pend.length + d.length < 64) (hBb : B ≤ b) (hne : b ≠ bb) :
    Calls Tryd.prog 115 #[.pointer (some ⟨b, 0, none⟩), .slice (some ⟨sb, so, none⟩) d.length c] w fun e w' => e = .returned (.tuple #[.int .i64 d.length, .nilIface]) ∧ Brk w' b T v (pend ++ d) ∧ KeepW bb w w' ∧ FrL B [bb, b] w w' := by
  obtain ⟨cs, hheap, hcs, hpush, p64, pf64⟩ := hb.drew.push hlt
  have c64 := hb.c64
  have hsl := slice_arr_from 78 64 Tryd.underlying78 b 0 pend.length (by omega)
  rw [if_neg (by omega), Nat.zero_add] at hsl
  have hcp := run_copy_row (P := Tryd.prog) w.drew 22 22 3 5 b pend.length (64 - pend.length) (64 - pend.length) ⟨sb, so, none⟩ d.length c cs 106 (d.map bv) Tryd.underlying22 info_u8s hheap (by rw [List.length_map]; exact (Nat.min_eq_left (by omega)).symm)
    (fun j v hj => by
      rw [List.getElem?_map] at hj
      obtain ⟨x, hx, rfl⟩ := Option.map_eq_some_iff.1 hj
      rw [addr_add]
      exact hs j x hx) (by rw [List.length_map, hcs]; omega) (bv_one d)
  rw [List.length_map] at hcp
  have hK : KeepW bb w ((w.drew.setRow b (cs.toList.take pend.length ++ d.map bv ++ cs.toList.drop (pend.length + d.length)).toArray).setCell ⟨b, 64, none⟩ (.int .i64 ((pend.length : Int) + (d.length : Int)))) :=
    ((((KeepW.refl bb w).drewN 1).setRow hheap (by decide) hne _).setCell (setRow_heap w.drew b cs _ _ _ hheap) (by decide) hne _ _)
  have hF : FrL B [bb, b] w ((w.drew.setRow b (cs.toList.take pend.length ++ d.map bv ++ cs.toList.drop (pend.length + d.length)).toArray).setCell ⟨b, 64, none⟩ (.int .i64 ((pend.length : Int) + (d.length : Int)))) :=
    ((FrL.refl B _ w).drew.setRow hBb (by simp) _).setCell hBb (by simp) _ _
  have HB := hide hpush
  clear hheap hcs hpush hb hs
  generalize hC : (cs.toList.take pend.length ++ d.map bv ++ cs.toList.drop (pend.length + d.length)).toArray = C at *
  clear hC
  have hlt' : (pend.length : Int) + (d.length : Int) < 64 := by omega
  go_enter Tryd.func115, Tryd.ntmps115
  go_wp2
  go_still_tail 9, (by kernel_rfl)
  change wpList _ _ _ _ _ w.drew
  go_wp2
  go_ret2
  exact ⟨rfl, unhide HB, hK, hF⟩

set_option maxRecDepth 100000 in
set_option maxHeartbeats 400000 in
theorem brk_zero (bb B : Nat) (b : Nat) (T : TypeId) (v : Value) (pend : List UInt8) (p : Option Addr) (c : Nat) (w : World) (hb : Brk w b T v pend) (hBb : B ≤ b) (hne : b ≠ bb) :
    Calls Tryd.prog 115 #[.pointer (some ⟨b, 0, none⟩), .slice p 0 c] w fun e w' => e = .returned (.tuple #[.int .i64 0, .nilIface]) ∧ Brk w' b T v pend ∧ KeepW bb w w' ∧ FrL B [bb, b] w w' := by
  have c64 := hb.c64
  have f64 := hb.f 64
  have hlt := hb.lt
  have hsl := slice_arr_from 78 64 Tryd.underlying78 b 0 pend.length (by omega)
  rw [if_neg (by omega), Nat.zero_add] at hsl
  have hcp : ∀ W, (Builtin.copy_ #[22, 22] 3 #[.slice (some ⟨b, pend.length, none⟩) (64 - pend.length) (64 - pend.length), .slice p 0 c]).run Tryd.prog W = .ok (goInt 0) W := fun W => run_copy_none W 22 22 3 5 _ p _ _ 0 c Tryd.underlying22 info_u8s (by simp)
  have hB1 : Hid (Brk (w.drew.setCell ⟨b, 64, none⟩ (.int .i64 (pend.length : Int))) b T v pend) := by
    obtain ⟨cs, h1, h2, h3, h4, h5, h6⟩ := hb
    refine ⟨_, heap_set_same (w := w.drew) h1 _, by simpa using h2, h3, ?_, ?_, ?_⟩
    · rw [Array.toList_setIfInBounds, List.take_set_of_le (by omega)]; exact h4
    · rw [Array.getElem?_setIfInBounds_self_of_lt (by omega)]
    · rw [Array.getElem?_setIfInBounds_ne (by decide)]; exact h6
  have hK : KeepW bb w (w.drew.setCell ⟨b, 64, none⟩ (.int .i64 (pend.length : Int))) := by
    obtain ⟨cs, h1, _⟩ := hb
    exact ((KeepW.refl bb w).drewN 1).setCell h1 (by decide) hne _ _
  have hF : FrL B [bb, b] w (w.drew.setCell ⟨b, 64, none⟩ (.int .i64 (pend.length : Int))) := (FrL.refl B _ w).drew.setCell hBb (by simp) _ _
  clear hb
  have hlt' : (pend.length : Int) < 64 := by omega
  go_enter Tryd.func115, Tryd.ntmps115
  go_wp2
  go_still_tail 9, (by kernel_rfl)
  change wpList _ _ _ _ _ w.drew
  go_wp2
  go_ret2
  exact ⟨rfl, unhide hB1, hK, hF⟩

/-- What is left of the argument behind the bytes that fill the line. -/
theorem big_facts {pend d : List UInt8} (hl : pend.length < 64) (hge : 64 ≤ pend.length + d.length) : 1 ≤ 64 - pend.length ∧ 64 - pend.length ≤ d.length ∧ (d.take (64 - pend.length)).length = 64 - pend.length ∧ ((64 : Int) - (pend.length : Int)) = ((64 - pend.length : Nat) : Int) := by
  rw [List.length_take]; omega

set_option maxRecDepth 100000 in
set_option maxHeartbeats 400000 in
theorem brk_no1 (W : Wr) (hw : WrOK W) (b : Nat) (acc pend d : List UInt8) (p : Option Addr) (c : Nat) (w : World) (hI : W.Inv acc w) (hb : Brk w b W.T W.v pend) (hne : b ≠ W.bb) (hge : 64 ≤ pend.length + d.length) (hsz : acc.length + (pend.length + d.length) ≤ 70368744177664) (hfit : ¬ Fits W.lim (acc.length + pend.length)) :
    Calls Tryd.prog 115 #[.pointer (some ⟨b, 0, none⟩), .slice p d.length c] w fun e w' => ∃ n : Int, e = .returned (.tuple #[.int .i64 n, W.ev]) ∧ W.Fin (cut W.lim (acc ++ pend)) w' ∧ Fr W.B W.bb w w' := by
  have c64 := hb.c64
  have c65 := hb.c65
  have hlt := hb.lt
  have hge' : ¬ ((pend.length : Int) + (d.length : Int) < 64) := by omega
  have hd : d.length ≤ 70368744177664 := by omega
  have hsl := slice_arr0 78 64 (by decide) Tryd.underlying78 b 0 pend.length (by omega)
  have hm := hw.meth
  have hc := hw.call
  have HS := hide hsz
  have hI0 : W.Inv acc w.drew := hw.keep _ _ _ hI (fun _ _ h _ => h)
  obtain ⟨Te, ve, hev⟩ := hw.ev_ne
  clear hsz
  go_enter Tryd.func115, Tryd.ntmps115
  go_wp2
  go_region_held3 (fun w' => w'.cell? ⟨b, 64, none⟩ = some (.int .i64 (pend.length : Int)) ∧ w'.cell? ⟨b, 65, none⟩ = some (.iface W.T W.v)) (first | exact ⟨by assumption, by assumption⟩ | go_keep)
    (first
     | (refine (hw.no acc pend b 0 64 _ hI0 hb.drew.src hne (by omega) (by have := unhide HS; omega) hfit).mono ?_; rintro e w1 ⟨n1, rfl, hI1, hF1⟩
        have hb1 := hb.drew.fr hne hF1
        have c641 := hb1.c64
        have c651 := hb1.c65))
  have hF : Fr W.B W.bb w w1 := ((Fr.refl _ _ _).drewN 1).trans hF1
  clear hF1 hb1
  go_wp2
  go_ret2
  exact ⟨n1, congrArg (fun x => Ending.returned (.tuple #[.int .i64 n1, x])) hev.symm, hI1, hF⟩
end Go.Proofs.YtpjehmblndjknaaDoor
