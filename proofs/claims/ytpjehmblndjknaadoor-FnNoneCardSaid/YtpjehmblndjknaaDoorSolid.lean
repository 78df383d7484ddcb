/-
  Walks: zzIndexAny, zzContainsAny at the blanks, removeSpacesAndTabs.
-/
import Derived.Test.YtpjehmblndjknaaDoorRows
import Derived.Test.YtpjehmblndjknaaDoorBase
import Derived.Handy
import Derived.Outline
import Derived.Deep.LoopGhost
import Derived.Deep.OwnRows
namespace Go.Proofs.YtpjehmblndjknaaDoor
set_option linter.unusedSimpArgs false
set_option linter.unusedVariables false
open Go.RowKit

def hasBl (l : List UInt8) : Bool := l.any isBl

/-- What zzIndexAny says: a place where there is a blank, else -1. -/
def IdxSays (l : List UInt8) (e : Ending) : Prop := ∃ r : Int, e = .returned (.int .i64 r) ∧ (hasBl l = true → 0 ≤ r) ∧ (hasBl l = false → r = -1)

theorem hasBl_of {s : ByteArray} {j : Nat} (hj : j < s.size) (h : isBl (s[j]'hj) = true) : hasBl s.data.toList = true := by
  unfold hasBl
  rw [List.any_eq_true]
  exact ⟨s[j]'hj, by rw [Array.mem_toList_iff]; exact Array.getElem_mem hj, h⟩
theorem hasBl_none {s : ByteArray} (h : ∀ j (hj : j < s.size), isBl (s[j]'hj) = false) : hasBl s.data.toList = false := by
  unfold hasBl
  rw [List.any_eq_false]
  intro x hx
  rw [Array.mem_toList_iff] at hx
  obtain ⟨j, hj, rfl⟩ := Array.getElem_of_mem hx
  have h1 : isBl (s.data[j]'hj) = false := h j hj
  rw [h1]
  decide

theorem dec_hit (s : ByteArray) (pos : Nat) (hp : pos < s.size) (h : (Utf8.decode s pos).1 = 32 ∨ (Utf8.decode s pos).1 = 9) : isBl (s[pos]'hp) = true := by
  rcases Nat.lt_or_ge (s[pos]'hp).toNat 128 with hl | hl
  · rw [decode_ascii s pos hp hl] at h
    rw [isBl_nat]
    rcases h with h | h <;> simp at h <;> simp [h]
  · have := (decode_high s pos hp hl).1
    omega
theorem dec_miss (s : ByteArray) (pos : Nat) (hp : pos < s.size) (h1 : (Utf8.decode s pos).1 ≠ 32) (h2 : (Utf8.decode s pos).1 ≠ 9) (hn : ∀ j (hj : j < s.size), j < pos → isBl (s[j]'hj) = false) :
    1 ≤ (Utf8.decode s pos).2 ∧ pos + (Utf8.decode s pos).2 ≤ s.size ∧ ∀ j (hj : j < s.size), j < pos + (Utf8.decode s pos).2 → isBl (s[j]'hj) = false := by
  rcases Nat.lt_or_ge (s[pos]'hp).toNat 128 with hl | hl
  · rw [decode_ascii s pos hp hl] at h1 h2 ⊢
    refine ⟨by simp, by dsimp only; omega, fun j hj hjp => ?_⟩
    dsimp only at hjp h1 h2
    rcases Nat.lt_or_ge j pos with h | h
    · exact hn j hj h
    · obtain rfl : j = pos := by omega
      rw [isBl_nat]
      simp [h1, h2]
  · obtain ⟨ha, hb⟩ := decode_span s pos hp hl
    refine ⟨(decode_high s pos hp hl).2, ha, fun j hj hjp => ?_⟩
    rcases Nat.lt_or_ge j pos with h | h
    · exact hn j hj h
    · have := hb j hj h hjp
      rcases hx : isBl (s[j]'hj) with _ | _
      · rfl
      · have := isBl_low hx
        omega

set_option maxHeartbeats 400000 in
theorem zzIndexAny_any (s : ByteArray) (w : World) :
    Calls Tryd.prog 59 #[.string s, .string ⟨#[32, 9]⟩] w fun e w' => IdxSays s.data.toList e ∧ Below w.heap.size w w' := by
  go_enter Tryd.func59, Tryd.ntmps59
  go_wp2
  go_loopw [4] (fun v wr => ∃ pos : Nat, pos ≤ s.size ∧ wr.heap[w.heap.size]? = some (.stringIter s pos) ∧ Below w.heap.size w wr ∧ Hid (∀ j (hj : j < s.size), j < pos → isBl (s[j]'hj) = false)) (fun _ wr => s.size - wr.iterPos w.heap.size)
  case atStart => exact ⟨0, Nat.zero_le _, World.iter_heap w s 0, (Below.refl _ _).alloc (Nat.le_refl _) _, fun j hj h => absurd h (by omega)⟩
  case round =>
    obtain ⟨pos, hps, hit, hbw, HN⟩ := hrel
    have hpos0 := iterPos_of hit
    by_cases hp : pos < s.size
    · have hnx : ∀ ty, (Instr.next (.pointer (some ⟨w.heap.size, 0, none⟩)) true ty).run Tryd.prog wr = _ := fun ty => Lib.run_next_any_at wr w.heap.size s pos ty hit hp
      have hit2 := Lib.iterAt_heap wr w.heap.size s pos (pos + (Utf8.decode s pos).2) hit
      have hbw2 := Lib.below_iterAt hbw (k := w.heap.size) (Nat.le_refl _) s (pos + (Utf8.decode s pos).2)
      obtain ⟨W1, hW1⟩ : ∃ W1, W1 = wr.iterAt w.heap.size s (pos + (Utf8.decode s pos).2) := ⟨_, rfl⟩
      rw [← hW1] at hnx hit2 hbw2
      have hlt := lt_of_heap hit2
      have H1 := hide (dec_hit s pos hp)
      have H2 := hide (fun h1 h2 => dec_miss s pos hp h1 h2 (unhide HN))
      generalize (Utf8.decode s pos).1 = c at *
      generalize (Utf8.decode s pos).2 = d at *
      clear hW1 hit hbw
      have n0 : ∀ ty, (Instr.next (.pointer (some ⟨W1.heap.size, 0, none⟩)) true ty).run Tryd.prog (W1.iter ⟨#[32, 9]⟩ 0) = .ok (.tuple #[.bool true, .int .i64 0, .int .i32 32]) (W1.iter ⟨#[32, 9]⟩ 1) := fun ty => run_next_ascii (P := Tryd.prog) W1 ⟨#[32, 9]⟩ 0 ty (by decide) (by decide)
      have n1 : ∀ ty, (Instr.next (.pointer (some ⟨W1.heap.size, 0, none⟩)) true ty).run Tryd.prog (W1.iter ⟨#[32, 9]⟩ 1) = .ok (.tuple #[.bool true, .int .i64 1, .int .i32 9]) (W1.iter ⟨#[32, 9]⟩ 2) := fun ty => run_next_ascii (P := Tryd.prog) W1 ⟨#[32, 9]⟩ 1 ty (by decide) (by decide)
      have n2 := fun ty => run_next_end (P := Tryd.prog) W1 ⟨#[32, 9]⟩ 2 ty (by decide)
      have hbw3 : ∀ k, Below w.heap.size w (W1.iter ⟨#[32, 9]⟩ k) := fun k => hbw2.alloc (by omega) _
      have hit3 : ∀ k, (W1.iter ⟨#[32, 9]⟩ k).heap[w.heap.size]? = some (.stringIter s (pos + d)) := fun k => (Below.heap_alloc W1 _ _ hlt).trans hit2
      go_wp2
      go_rounds 3
      · have h : (c : Int) = 32 := by have h' : ((c : Int) == 32) = true := by assumption
                                      simpa using h'
        go_ret
        exact ⟨⟨_, rfl, fun _ => by omega, fun hf => by rw [hasBl_of hp (unhide H1 (.inl (by omega)))] at hf; cases hf⟩, hbw3 _⟩
      · have h : (c : Int) = 9 := by have h' : ((c : Int) == 9) = true := by assumption
                                     simpa using h'
        go_ret
        exact ⟨⟨_, rfl, fun _ => by omega, fun hf => by rw [hasBl_of hp (unhide H1 (.inr (by omega)))] at hf; cases hf⟩, hbw3 _⟩
      · have h1 : ¬ (c : Int) = 32 := by have h' : ((c : Int) == 32) = false := by assumption
                                         simpa using h'
        have h2 : ¬ (c : Int) = 9 := by have h' : ((c : Int) == 9) = false := by assumption
                                        simpa using h'
        obtain ⟨q1, q2, q3⟩ := unhide H2 (by omega) (by omega)
        refine ⟨⟨pos + d, q2, hit3 _, hbw3 _, q3⟩, ?_⟩
        rw [iterPos_of (hit3 _), hpos0]
        omega
    · have hnx := fun ty => Lib.run_next_end_at (P := Tryd.prog) wr w.heap.size s pos ty hit hp
      go_wp2
      go_ret
      refine ⟨⟨_, rfl, fun ht => ?_, fun _ => rfl⟩, hbw⟩
      rw [hasBl_none (fun j hj => unhide HN j hj (by omega))] at ht
      cases ht

theorem zzContainsAny_yes (s : ByteArray) (w : World) (h : hasBl s.data.toList = true) :
    Calls Tryd.prog 36 #[.string s, .string ⟨#[32, 9]⟩] w fun e w' => e = .returned (.bool true) ∧ Below w.heap.size w w' := by
  have H := hide h
  clear h
  go_enter Tryd.func36, Tryd.ntmps36
  go_wp2_with fail
  refine (zzIndexAny_any s _).mono ?_
  rintro e w' ⟨⟨r, rfl, hr, -⟩, hb⟩
  have hr := hr (unhide H)
  go_wp2
  go_ret
  exact ⟨rfl, hb⟩
theorem zzContainsAny_no (s : ByteArray) (w : World) (h : hasBl s.data.toList = false) :
    Calls Tryd.prog 36 #[.string s, .string ⟨#[32, 9]⟩] w fun e w' => e = .returned (.bool false) ∧ Below w.heap.size w w' := by
  have H := hide h
  clear h
  go_enter Tryd.func36, Tryd.ntmps36
  go_wp2_with fail
  refine (zzIndexAny_any s _).mono ?_
  rintro e w' ⟨⟨r, rfl, -, hr⟩, hb⟩
  obtain rfl := hr (unhide H)
  go_wp2
  go_ret
  exact ⟨rfl, hb⟩

theorem info_u8 : (Tryd.prog.info? 5).map (fun i => (i.zero, i.size, i.bytes)) = some (some (.int .u8 0), 1, 1) := by kernel_rfl
theorem make_bytes (n : Nat) (h : n ≤ 140737488351232) (W : World) : (Instr.makeSlice 22 (.int .i64 (n : Int)) (.int .i64 (n : Int))).run Tryd.prog W = .ok (.slice (some ⟨W.heap.size, 0, none⟩) n n) (W.alloc (.cells (madeCells #[.int .u8 0] n) 5)) :=
  run_make_row' _ _ _ 1 Tryd.underlying22 info_u8 rfl _ _ n (by omega) (by omega) W

/-- The bytes without blanks and tabs. -/
def solid (l : List UInt8) : List UInt8 := l.filter fun b => !isBl b

theorem solid_same {l : List UInt8} (h : hasBl l = false) : solid l = l := by
  unfold solid
  rw [List.filter_eq_self]
  intro a ha
  unfold hasBl at h
  rw [List.any_eq_false] at h
  simpa using h a ha
theorem solid_le (l : List UInt8) : (solid l).length ≤ l.length := List.length_filter_le _ _
theorem solid_snoc (l : List UInt8) (x : UInt8) : solid (l ++ [x]) = if isBl x then solid l else solid l ++ [x] := by
  unfold solid
  rw [List.filter_append]
  by_cases h : isBl x = true <;> simp [h]

theorem rm_same (v : Value) (l : List UInt8) (w : World) (hs : Sl w v l) (hb : hasBl l = false) :
    Calls Tryd.prog 23 #[v] w fun e w' => e = .returned v ∧ Below w.heap.size w w' := by
  have hcv := run_conv_sl (P := Tryd.prog) hs 22 5 9 Tryd.underlying22 Tryd.underlying5 Tryd.underlying9
  obtain ⟨p, cap, rfl, -, -⟩ := hs
  go_enter Tryd.func23, Tryd.ntmps23
  go_wp2_with fail
  refine (zzContainsAny_no _ _ hb).mono ?_
  rintro e w' ⟨rfl, hb⟩
  go_wp2
  go_ret
  exact ⟨rfl, hb⟩

set_option maxHeartbeats 400000 in
theorem rm_cut (v : Value) (l : List UInt8) (w : World) (hs : Sl w v l) (hm : l.length ≤ 140737488351232) (hb : hasBl l = true) :
    Calls Tryd.prog 23 #[v] w fun e w' => ∃ v', e = .returned v' ∧ Sl w' v' (solid l) ∧ Below w.heap.size w w' := by
  have hcv := run_conv_sl (P := Tryd.prog) hs 22 5 9 Tryd.underlying22 Tryd.underlying5 Tryd.underlying9
  obtain ⟨p, cap, rfl, hlc, hc⟩ := hs
  obtain ⟨b, o, rfl, hcell⟩ := hc (by rintro rfl; cases hb)
  clear hc hlc
  go_enter Tryd.func23, Tryd.ntmps23
  go_wp2_with fail
  refine (zzContainsAny_yes _ _ hb).mono ?_
  rintro e w1 ⟨rfl, hb1⟩
  have hmk := make_bytes l.length hm
  have hm63 : l.length ≤ 9223372036854775807 := by omega
  clear hm
  have hb2 : Below w1.heap.size w1 (w1.alloc (.cells (madeCells #[.int .u8 0] l.length) 5)) := (Below.refl _ _).alloc (Nat.le_refl _) _
  go_wp2
  go_loopw [4, 17] (fun vn vk wr => ∃ (k : Nat) (cur : Array Value), k ≤ l.length ∧ vk = .int .i64 k ∧ vn = .int .i64 (solid (l.take k)).length ∧ wr.heap[w1.heap.size]? = some (.cells cur 5 (0, 0)) ∧ cur.size = l.length ∧ Hid (cur.toList.take (solid (l.take k)).length = (solid (l.take k)).map bv) ∧ Below w1.heap.size w1 wr) (fun _ vk _ => l.length - (intOf vk).toNat)
  case atStart => exact ⟨0, _, Nat.zero_le _, rfl, rfl, heap_new _ _, size_madeCells _ _, by simp [solid, Hid], hb2⟩
  case round =>
    obtain ⟨k, cur, hk, rfl, rfl, hg, hsz, HT, hbr⟩ := hrel
    clear hb2 hcv
    by_cases hlt : k < l.length
    · obtain ⟨x, hx⟩ : ∃ x, l[k]? = some x := ⟨_, List.getElem?_eq_getElem hlt⟩
      have hck : wr.cell? ⟨b, o + k, none⟩ = some (.int .u8 (x.toNat : Int)) := by
        have h0 := hcell k x hx
        have hlt0 := World.block_lt_of_cell? w _ h0
        rw [hbr.cell (p := ⟨b, o + k, none⟩) (Nat.lt_of_lt_of_le hlt0 hb1.size), hb1.cell (p := ⟨b, o + k, none⟩) hlt0]
        exact h0
      have HS : Hid (solid (l.take (k + 1)) = if isBl x then solid (l.take k) else solid (l.take k) ++ [x]) := by
        have h1 := solid_snoc (l.take k) x
        rw [← h1, List.take_add_one, hx]
        rfl
      have hle := Nat.le_trans (solid_le (l.take k)) (List.length_take_le k l)
      have hsx : isBl x = (decide ((x.toNat : Int) = 32) || decide ((x.toNat : Int) = 9)) := by
        rw [isBl_nat]
        congr 1 <;> rw [decide_eq_decide] <;> omega
      have HSX := hide hsx
      have HSL := hide (solid_le (l.take k))
      have hgc : ∀ j, wr.cell? ⟨w1.heap.size, j, none⟩ = cur[j]? := fun j => cell_of_heap hg j
      have hgf : ∀ j, wr.frozen? ⟨w1.heap.size, j, none⟩ = false := fun j => frozen_of_heap hg j
      have hold : cur[(solid (l.take k)).length]? = some (cur[(solid (l.take k)).length]'(by omega)) := Array.getElem?_eq_getElem _
      generalize cur[(solid (l.take k)).length]'(by omega) = old at hold
      have HG := hide hg
      generalize hn : (solid (l.take k)).length = n at *
      have HN := hide hn
      have HSZ := hide hsz
      clear hx hn hcell hmk hsx hg hsz
      have HB1 : ∀ u, Hid (Below w1.heap.size w1 (wr.setCell ⟨w1.heap.size, n, none⟩ u)) := fun u => hbr.setCell (Nat.le_refl _) u
      have HR1 : isBl x = true → Hid (∃ (k_1 : Nat) (cur : Array Value), k_1 ≤ l.length ∧ Value.int .i64 ((k : Int) + 1) = .int .i64 (k_1 : Int) ∧ Value.int .i64 (n : Int) = .int .i64 ((solid (l.take k_1)).length : Int) ∧ wr.heap[w1.heap.size]? = some (.cells cur 5 (0, 0)) ∧ cur.size = l.length ∧ Hid (cur.toList.take (solid (l.take k_1)).length = (solid (l.take k_1)).map bv) ∧ Below w1.heap.size w1 wr) := by
        intro hx1
        have e := unhide HS
        rw [if_pos hx1] at e
        exact ⟨k + 1, cur, by omega, by rw [Int.natCast_add]; rfl, by rw [e, unhide HN], unhide HG, unhide HSZ, by rw [e, unhide HN]; exact unhide HT, hbr⟩
      have HR2 : isBl x = false → Hid (∃ (k_1 : Nat) (cur : Array Value), k_1 ≤ l.length ∧ Value.int .i64 ((k : Int) + 1) = .int .i64 (k_1 : Int) ∧ Value.int .i64 ((n : Int) + 1) = .int .i64 ((solid (l.take k_1)).length : Int) ∧ (wr.setCell ⟨w1.heap.size, n, none⟩ (.int .u8 (x.toNat : Int))).heap[w1.heap.size]? = some (.cells cur 5 (0, 0)) ∧ cur.size = l.length ∧ Hid (cur.toList.take (solid (l.take k_1)).length = (solid (l.take k_1)).map bv) ∧ Below w1.heap.size w1 (wr.setCell ⟨w1.heap.size, n, none⟩ (.int .u8 (x.toNat : Int)))) := by
        intro hx1
        have e := unhide HS
        rw [if_neg (by simp [hx1])] at e
        have e2 : (solid (l.take (k + 1))).length = n + 1 := by rw [e, List.length_append, unhide HN]; rfl
        refine ⟨k + 1, cur.setIfInBounds n (.int .u8 (x.toNat : Int)), by omega, by rw [Int.natCast_add]; rfl, by rw [e2, Int.natCast_add]; rfl, heap_set_same (unhide HG) _, by rw [Array.size_setIfInBounds]; exact unhide HSZ, ?_, unhide (HB1 _)⟩
        show List.take _ _ = _
        rw [e2, e, Array.toList_setIfInBounds, List.map_append, ← unhide HT]
        have hnc : n < cur.toList.length := by have := unhide HSZ; rw [Array.length_toList]; omega
        rw [List.take_add_one, List.take_set_of_le (Nat.le_refl _), List.getElem?_set_self hnc]
        rfl
      clear hbr HB1
      by_cases q1 : ((x.toNat : Int) == 32) = true
      · have R := HR1 (by rw [unhide HSX]; simp at q1; simp [q1])
        clear HR1 HR2
        go_wp2
        refine ⟨unhide R, ?_⟩
        simp [intOf]; omega
      · have q1 : ((x.toNat : Int) == 32) = false := by simpa using q1
        by_cases q2 : ((x.toNat : Int) == 9) = true
        · have R := HR1 (by rw [unhide HSX]; simp at q2; simp [q2])
          clear HR1 HR2
          go_wp2
          refine ⟨unhide R, ?_⟩
          simp [intOf]; omega
        · have q2 : ((x.toNat : Int) == 9) = false := by simpa using q2
          have R := HR2 (by rw [unhide HSX]; simp at q1 q2; simp [q1, q2])
          clear HR1 HR2
          go_wp2
          refine ⟨unhide R, ?_⟩
          simp [intOf]; omega
    · obtain rfl : k = l.length := by omega
      have hn : (solid l).length ≤ l.length := solid_le l
      have S1 := hide (Sl.of_heap (l := solid l) (n := (solid l).length) (cap := l.length) hg rfl (solid_le l) (by have := unhide HT; rwa [List.take_length] at this))
      have B1 := hide (hb1.trans (hbr.mono hb1.size))
      clear hg HT hbr hb1 hcell
      rw [List.take_length]
      go_wp2
      go_ret
      exact ⟨_, rfl, unhide S1, unhide B1⟩

theorem rm_any (v : Value) (l : List UInt8) (w : World) (hs : Sl w v l) (hm : l.length ≤ 140737488351232) :
    Calls Tryd.prog 23 #[v] w fun e w' => ∃ v', e = .returned v' ∧ Sl w' v' (solid l) ∧ Below w.heap.size w w' := by
  cases h : hasBl l with
  | false => exact (rm_same v l w hs h).mono fun e w' ⟨he, hb⟩ => ⟨v, he, by rw [solid_same h]; exact hs.below hb, hb⟩
  | true => exact rm_cut v l w hs hm h

end Go.Proofs.YtpjehmblndjknaaDoor
