/-
  Walks: bytes.IndexByte at the line feed, bytes.TrimRight at the blanks, getLine.
-/
import Derived.Test.YtpjehmblndjknaaDoorShelf
import Derived.Test.YtpjehmblndjknaaDoorArr
import Derived.Test.YtpjehmblndjknaaDoorPlain
import Derived.Handy
import Derived.Outline
import Derived.Deep.WholeRow
import Derived.Laws.Tables
namespace Go.Proofs.YtpjehmblndjknaaDoor
open Go.RowKit
set_option linter.unusedSimpArgs false
set_option linter.unusedVariables false

theorem blankB_isBl (b : UInt8) : blankB b = isBl b := rfl

/-! ### The set of the blanks -/
theorem zc_set : Tryd.zeroCells93 = (List.replicate 256 (Value.bool false)).toArray := by kernel_rfl
noncomputable def ascCells : Array Value := (Tryd.zeroCells93.setIfInBounds 32 (.bool true)).setIfInBounds 9 (.bool true)
theorem asc_size : ascCells.size = 256 := by unfold ascCells; rw [Array.size_setIfInBounds, Array.size_setIfInBounds, zc_set, List.size_toArray, List.length_replicate]
theorem asc_at (x : UInt8) : ascCells[x.toNat]? = some (.bool (isBl x)) := by
  have hx := x.toNat_lt
  unfold ascCells
  rw [isBl_nat, zc_set, Array.getElem?_setIfInBounds, Array.getElem?_setIfInBounds]
  by_cases h9 : x.toNat = 9
  · rw [if_pos h9.symm, if_pos (by rw [Array.size_setIfInBounds, List.size_toArray, List.length_replicate]; omega), decide_eq_true h9, Bool.or_true]
  · rw [if_neg (fun e => h9 e.symm)]
    by_cases h32 : x.toNat = 32
    · rw [if_pos h32.symm, if_pos (by rw [List.size_toArray, List.length_replicate]; omega), decide_eq_true h32, Bool.true_or]
    · rw [if_neg (fun e => h32 e.symm), List.getElem?_toArray, List.getElem?_replicate, if_pos (by omega), decide_eq_false h9, decide_eq_false h32]
      rfl
theorem asc_one : ascCells.all (·.oneCell') = true := by
  rw [← Array.all_toList, List.all_eq_true]
  intro v hv
  unfold ascCells at hv
  rw [Array.toList_setIfInBounds, Array.toList_setIfInBounds, zc_set] at hv
  rcases List.mem_or_eq_of_mem_set hv with h1 | rfl
  · rcases List.mem_or_eq_of_mem_set h1 with h2 | rfl
    · rw [(List.mem_replicate.1 h2).2]; rfl
    · rfl
  · rfl
theorem info_set : (Tryd.prog.info? 93).map (·.size) = some ascCells.size := by rw [asc_size]; kernel_rfl
theorem cells_set : Tryd.zeroCells93.size = ascCells.size := by rw [asc_size, zc_set, List.size_toArray, List.length_replicate]

set_option maxRecDepth 100000 in
set_option maxHeartbeats 800000 in
theorem makeSet_any (w : World) :
    Calls Tryd.prog 46 #[.string ⟨#[32, 9]⟩] w fun e w' => e = .returned (.tuple #[.agg ascCells, .bool true]) ∧ Below w.heap.size w w' := by
  have g0 : (ByteArray.mk #[32, 9])[0] = 32 := rfl
  have g1 : (ByteArray.mk #[32, 9])[1] = 9 := rfl
  have z0 : Tryd.zeroCells93[32]? = some (.bool false) := by rw [zc_set]; rfl
  have z1 : (Tryd.zeroCells93.setIfInBounds 32 (.bool true))[9]? = some (.bool false) := by rw [Array.getElem?_setIfInBounds_ne (by decide), zc_set]; rfl
  have hB : Hid (Below w.heap.size w (w.alloc (.cells ascCells 93))) := (Below.refl _ _).alloc (Nat.le_refl _) _
  go_enter Tryd.func46, Tryd.ntmps46
  go_wp2
  refine wp_loop_rounds 3 ?_
  rw [rounds_succ]
  go_wp2
  rw [rounds_succ]
  go_wp2
  rw [rounds_succ]
  go_wp2_with (first
    | (refine wpList_load_row rfl 93 (.tmp 2) rfl w.heap.size rfl 93 ascCells (0, 0) _ (heap_new w _) Tryd.underlying93 rfl info_set ?_)
    | (refine wpList_store_row rfl 93 (.tmp 2) (.tmp 20) rfl w.heap.size ascCells rfl rfl 93 ascCells (heap_new w _) info_set rfl asc_one ?_))
  rw [World.setRow_alloc_new]
  have hload := run_loadVar_new (P := Tryd.prog) w 93 ascCells 256 4 Tryd.underlying93 info_set
  refine bodyPost_ret (results_cell_tmp (p := 2) (t := 3) (ty := 93) rfl _ _ (a := ⟨w.heap.size, 0, none⟩) rfl hload) rfl ?_
  exact ⟨rfl, unhide hB⟩

/-- In block g lies the set of the blanks. -/
def IsAsc (w : World) (g : Nat) : Prop := ∀ x : UInt8, w.cell? ⟨g, x.toNat, none⟩ = some (.bool (isBl x))

theorem contains_any (g : Nat) (x : UInt8) (w : World) (h : IsAsc w g) :
    Calls Tryd.prog 60 #[.pointer (some ⟨g, 0, none⟩), .int .u8 (x.toNat : Int)] w fun e w' => e = .returned (.bool (isBl x)) ∧ w = w' := by
  have hc := h x
  have hb := bounds_byte x
  go_enter Tryd.func60, Tryd.ntmps60
  go_wp2
  go_ret
  exact ⟨rfl, rfl⟩

set_option maxRecDepth 100000 in
set_option maxHeartbeats 400000 in
theorem trimASCII_any (v : Value) (l : List UInt8) (g : Nat) (w : World) (hs : Sl w v l) (h : IsAsc w g) (hm : l.length ≤ 9223372036854775807) :
    Calls Tryd.prog 47 #[v, .pointer (some ⟨g, 0, none⟩)] w fun e w' => (∃ v', e = .returned v' ∧ Sl w v' (trimR l)) ∧ w = w' := by
  obtain ⟨p, cap, rfl, hlc, hc⟩ := hs
  have HC := hide hc
  have HA := hide h
  clear hc h
  go_enter Tryd.func47, Tryd.ntmps47
  go_wp2
  go_loop [0] (fun vs => ∃ n : Nat, n ≤ l.length ∧ vs = .slice p n cap ∧ Hid (trimR (l.take n) = trimR l)) (fun vs => match vs with | .slice _ n _ => n | _ => 0)
  case atStart => exact ⟨l.length, Nat.le_refl _, rfl, by rw [List.take_length]; exact rfl⟩
  case round =>
    obtain ⟨n, hn, rfl, HT⟩ := hrel
    by_cases h0 : n = 0
    · subst h0
      have hfin : Hid (Sl w (.slice p 0 cap) (trimR l)) := by
        have e := unhide HT
        rw [List.take_zero] at e
        rw [← e]
        exact Sl.empty w p cap
      go_wp2
      go_ret
      exact ⟨⟨_, rfl, unhide hfin⟩, rfl⟩
    · have hpos : (0 : Int) < (n : Int) := by omega
      obtain ⟨b, o, rfl, hcell⟩ := unhide HC (by rintro rfl; simp at hn; omega)
      obtain ⟨m, rfl⟩ : ∃ m, n = m + 1 := ⟨n - 1, by omega⟩
      obtain ⟨x, hx⟩ : ∃ x, l[m]? = some x := ⟨_, List.getElem?_eq_getElem (by omega)⟩
      have hcx := hcell m x hx
      have hb := bounds_byte x
      have hsl := slice_to b o (m + 1) cap m (by omega)
      have htk : l.take (m + 1) = l.take m ++ [x] := by rw [List.take_add_one, hx]; rfl
      have e := unhide HT
      rw [htk, trimR_snoc] at e
      have hcon := hide (contains_any g x w (unhide HA))
      cases hbl : isBl x with
      | true =>
        rw [blankB_isBl, hbl, if_pos rfl] at e
        rw [hbl] at hcon
        have E := hide e
        clear e htk hx hcell hbl
        go_wp2_with fail
        refine (unhide hcon).mono ?_
        rintro e w' ⟨rfl, rfl⟩
        clear hcon
        go_wp2
        refine ⟨⟨m, by omega, rfl, E⟩, ?_⟩
        dsimp only
        omega
      | false =>
        rw [blankB_isBl, hbl, if_neg (by decide), ← htk] at e
        rw [hbl] at hcon
        have hfin : Hid (Sl w (.slice (some ⟨b, o, none⟩) (m + 1) cap) (trimR l)) := by
          rw [← e]
          exact Sl.mk' (by rw [List.length_take]; omega) (by rw [List.length_take]; omega) (fun i y hy => by
            rw [List.getElem?_take] at hy
            split at hy
            · exact hcell i y hy
            · cases hy)
        clear e htk hx hcell hbl
        go_wp2_with fail
        refine (unhide hcon).mono ?_
        rintro e w' ⟨rfl, rfl⟩
        clear hcon
        go_wp2
        go_ret
        exact ⟨⟨_, rfl, unhide hfin⟩, rfl⟩

set_option maxRecDepth 100000 in
set_option maxHeartbeats 400000 in
theorem trimRight_any (v : Value) (l : List UInt8) (w : World) (hs : Sl w v l) (hm : l.length ≤ 9223372036854775807) :
    Calls Tryd.prog 28 #[v, .string ⟨#[32, 9]⟩] w fun e w' => (∃ v', e = .returned v' ∧ Sl w' v' (trimR l)) ∧ Below w.heap.size w w' := by
  by_cases h0 : l.length = 0
  · obtain rfl : l = [] := List.eq_nil_of_length_eq_zero h0
    obtain ⟨p, cap, rfl, hlc, hc⟩ := hs
    clear hc
    go_enter Tryd.func28, Tryd.ntmps28
    go_wp2
    go_ret
    exact ⟨⟨_, rfl, Sl.empty w p cap⟩, Below.refl _ _⟩
  · have HS := hide hs
    obtain ⟨p, cap, rfl, hlc, hc⟩ := hs
    have hn0 : ((l.length : Int) == 0) = false := by rw [beq_eq_false_iff_ne]; omega
    clear hc
    go_enter Tryd.func28, Tryd.ntmps28
    go_wp2_with fail
    refine (makeSet_any _).mono ?_
    rintro e w1 ⟨rfl, hb1⟩
    have HB1 := hide hb1
    have hst : ∀ W : World, (storeCells ⟨W.heap.size, 0, none⟩ ascCells.toList).run Tryd.prog (W.alloc (.cells Tryd.zeroCells93 93)) = .ok () (W.alloc (.cells ascCells 93)) := fun W => run_storeCells_new (P := Tryd.prog) W 93 _ ascCells info_set cells_set asc_one
    have hasz := asc_size
    have hb2 : Below w.heap.size w (w1.alloc (.cells ascCells 93)) := balloc hb1 _
    have htr := hide (trimASCII_any (.slice p l.length cap) l w1.heap.size (w1.alloc (.cells ascCells 93)) ((unhide HS).below hb2) (fun x => by rw [cell_of_heap (heap_new w1 _)]; exact asc_at x) hm)
    have HB2 := hide hb2
    clear hb1 hb2
    go_wp2_with fail
    refine (unhide htr).mono ?_
    rintro e w' ⟨⟨v', rfl, hs'⟩, rfl⟩
    have HF := hide hs'
    clear hs' htr
    go_wp2
    go_ret
    exact ⟨⟨_, rfl, unhide HF⟩, unhide HB2⟩
end Go.Proofs.YtpjehmblndjknaaDoor
