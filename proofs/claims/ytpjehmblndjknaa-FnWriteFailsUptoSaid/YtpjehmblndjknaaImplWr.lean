/-
  The thin package's own writer, as a writer.
-/
import Derived.Test.YtpjehmblndjknaaHcell
import Derived.StillTailTactics
import Derived.Deep.DeepCutAuto
namespace Go.Proofs.Ytpjehmblndjknaa
open Go.RowKit Go.Maps
set_option linter.unusedSimpArgs false
set_option linter.unusedVariables false

/-- The writer's block b: bound, what it got, whether it failed. -/
def IW (w : World) (B b : Nat) (lim : Int) (acc : List UInt8) (failed : Bool) : Prop :=
  B ≤ b ∧ ∃ v, w.heap[b]? = some (.cells #[v, .int .i64 lim, .bool failed] 64 (0, 0)) ∧ w.ownsRow B 5 1 v acc.length (acc.map bv) ∧ v.ownBlock ≠ some b
theorem IW.keep {w w' : World} {B b : Nat} {lim : Int} {acc : List UInt8} {f : Bool} (h : IW w B b lim acc f) (hk : KeepW b w w') : IW w' B b lim acc f := by
  obtain ⟨hB, v, hb, hown, hne⟩ := h
  refine ⟨hB, v, hk b _ hb (.inl rfl), ?_, hne⟩
  obtain ⟨h1, h2⟩ := hown
  refine ⟨h1, ?_⟩
  rcases h2 with h2 | ⟨g, cap, cur, e1, e2, e3, r⟩
  · exact .inl h2
  · exact .inr ⟨g, cap, cur, e1, e2, hk g _ e3 (.inr ⟨cur, (0, 0), rfl⟩), r⟩
theorem IW.lt {w : World} {B b : Nat} {lim : Int} {acc : List UInt8} {f : Bool} (h : IW w B b lim acc f) : b < w.heap.size := by
  obtain ⟨_, v, hb, _⟩ := h
  exact lt_of_heap hb

/-- How many bytes of l it takes. -/
def takes (lim : Int) (n m : Nat) : Nat := if lim < 0 then m else min m (lim.toNat - n)
theorem takes_le (lim : Int) (n m : Nat) : takes lim n m ≤ m := by
  unfold takes; split
  · exact Nat.le_refl _
  · exact Nat.min_le_left _ _

/-- append(v0, u..) of bytes from wherever. -/
theorem append_by {w : World} {base n0 : Nat} {v0 : Value} {acc l : List UInt8} {sb so c : Nat} (ty : TypeId)
    (hown : w.ownsRow base 5 1 v0 n0 (acc.map bv)) (hu : Src w sb so l) (hsz : n0 + l.length ≤ 140737488355328) (hbase : base ≤ w.heap.size) :
    ∃ v' w', (Builtin.append_ #[22, 22] ty #[v0, .slice (some ⟨sb, so, none⟩) l.length c]).run Try.prog w = .ok v' w' ∧ w'.ownsRow base 5 1 v' (n0 + l.length) ((acc ++ l).map bv) ∧ w.grownBy w' v0.ownBlock := by
  obtain ⟨i, hi, h1, h2, h3⟩ := info_parts info_u8
  obtain ⟨v', w', r1, r2, r3, _⟩ := run_append_own (P := Try.prog) (w := w) base 22 ty 5 i _ 1 1 Try.underlying22 hi h1 h2 h3 rfl (by decide) v0 n0 _ hown ⟨sb, so, none⟩ l.length c (l.map bv) (by rw [List.length_map]; omega) (fun j u hj => by
    rw [List.getElem?_map] at hj
    obtain ⟨x, hx, rfl⟩ := Option.map_eq_some_iff.1 hj
    rw [addr_add]
    exact hu j x hx) (bv_one l) (by unfold maxLen; omega) (by omega) hbase
  exact ⟨v', w', r1, by rw [List.map_append]; exact r2, r3⟩

theorem owns_slice {w : World} {B n : Nat} {v : Value} {xs : List Value} (h : w.ownsRow B 5 1 v n xs) : ∃ p cap, v = .slice p n cap ∧ n ≤ cap := by
  rcases h.2 with ⟨rfl, h0⟩ | ⟨g, cap, cur, rfl, _, _, hc, _⟩
  · exact ⟨none, 0, by rw [h0], by omega⟩
  · exact ⟨_, cap, rfl, hc⟩

theorem owns_not {w : World} {B n b : Nat} {v : Value} {xs : List Value} {cs : Array Value} {T : TypeId} {fz : Nat × Nat} (h : w.ownsRow B 5 1 v n xs) (hb : w.heap[b]? = some (.cells cs T fz)) (hT : T ≠ 5) : v.ownBlock ≠ some b := by
  rcases h.2 with ⟨rfl, h0⟩ | ⟨g, cap, cur, rfl, _, hg, _⟩
  · simp [Value.ownBlock]
  · intro e
    have e2 : g = b := by simpa [Value.ownBlock] using e
    rw [e2, hb] at hg
    injection hg with e3
    injection e3 with _ e4 _
    exact hT e4
theorem owns_set {w : World} {B n b : Nat} {v : Value} {xs : List Value} (h : w.ownsRow B 5 1 v n xs) (hb : v.ownBlock ≠ some b) (i : Nat) (u : Value) : (w.setCell ⟨b, i, none⟩ u).ownsRow B 5 1 v n xs := by
  refine ⟨h.1, ?_⟩
  rcases h.2 with h2 | ⟨g, cap, cur, rfl, hbase, hg, r⟩
  · exact .inl h2
  · exact .inr ⟨g, cap, cur, rfl, hbase, (Below.heap_setCell _ _ _ _ (fun e => hb (by have e2 : g = b := e; rw [← e2]; rfl))).trans hg, r⟩
/-- What the append and the two stores leave. -/
theorem wr_fin {w wd w2 : World} {B b n : Nat} {lim : Int} {acc l : List UInt8} {v v2 : Value} {f : Bool} (hwd : wd.heap = w.heap ∧ Fr B b w wd) (hB : B ≤ b) (hlt : b < w.heap.size) (hown : w.ownsRow B 5 1 v acc.length (acc.map bv)) (hg2 : wd.grownBy w2 v.ownBlock)
    (hown2 : w2.ownsRow B 5 1 v2 (acc.length + n) ((acc ++ l.take n).map bv)) (hn : n ≤ l.length) (hb2 : w2.heap[b]? = some (.cells #[v, .int .i64 lim, .bool false] 64 (0, 0))) :
    IW ((w2.setCell ⟨b, 0, none⟩ v2).setCell ⟨b, 2, none⟩ (.bool f)) B b lim (acc ++ l.take n) f ∧ Fr B b w ((w2.setCell ⟨b, 0, none⟩ v2).setCell ⟨b, 2, none⟩ (.bool f)) := by
  have hne := owns_not hown2 hb2 (by decide)
  have hlt2 := hown.lt
  refine ⟨⟨hB, v2, ?_, ?_, hne⟩, ?_, ?_⟩
  · exact heap_set_same (heap_set_same hb2 (i := 0) v2) (i := 2) (.bool f)
  · rw [List.length_append, List.length_take, Nat.min_eq_left hn]
    exact owns_set (owns_set hown2 hne 0 v2) hne 2 (.bool f)
  · exact ((hwd.2.1.grown hg2 (by rw [hwd.1]; omega) (fun j hj => (hlt2 _ hj).1)).setCell hB _).setCell hB _
  · refine ((hwd.2.2.grown hg2 ?_).setCell _ rfl _).setCell _ rfl _
    intro g hg
    rcases hown.2 with ⟨rfl, h0⟩ | ⟨g', cap, cur, rfl, _, hgg, _⟩
    · simp [Value.ownBlock] at hg
    · have e2 : g' = g := by simpa [Value.ownBlock] using hg
      subst e2
      rw [hwd.1]
      exact ⟨_, _, hgg⟩

set_option maxRecDepth 100000 in
set_option maxHeartbeats 4000000 in
theorem implWrite_any (B b : Nat) (lim : Int) (acc l : List UInt8) (sb so c : Nat) (w : World) (hI : IW w B b lim acc false) (hs : Src w sb so l) (hne : sb ≠ b) (hlc : l.length ≤ c)
   (hsz : acc.length + l.length ≤ 140737488355328) (hfit : 0 ≤ lim → acc.length ≤ lim.toNat) (h63 : lim ≤ 9223372036854775807) (hneg : -9223372036854775808 ≤ lim) :
    Calls Try.prog 87 #[.pointer (some ⟨b, 0, none⟩), .slice (some ⟨sb, so, none⟩) l.length c] w fun e w' =>
      e = .returned (.tuple #[.int .i64 (takes lim acc.length l.length : Int), if takes lim acc.length l.length < l.length then .iface 70 (.agg #[]) else .nilIface]) ∧
      IW w' B b lim (acc ++ l.take (takes lim acc.length l.length)) (decide (takes lim acc.length l.length < l.length)) ∧ Fr B b w w' := by
  obtain ⟨hB, v, hb, hown, hnb⟩ := hI
  have c0 : w.cell? ⟨b, 0, none⟩ = some v := by rw [cell_of_heap hb]; rfl
  have c1 : w.cell? ⟨b, 1, none⟩ = some (.int .i64 lim) := by rw [cell_of_heap hb]; rfl
  have c2 : w.cell? ⟨b, 2, none⟩ = some (.bool false) := by rw [cell_of_heap hb]; rfl
  have hlt := lt_of_heap hb
  obtain ⟨g, cap, rfl, hgc⟩ : ∃ p cap, v = .slice p acc.length cap ∧ acc.length ≤ cap := by
    rcases hown.2 with ⟨rfl, h0⟩ | ⟨g, cap, cur, rfl, _, _, hc, _⟩
    · exact ⟨none, 0, by rw [h0], by omega⟩
    · exact ⟨_, cap, rfl, hc⟩
  have HB := hide (And.intro hB (And.intro hb (And.intro hown (And.intro hnb hs))))
  clear hb hown hnb hs
  by_cases hlim : lim < 0
  · have hq : ¬ (0 : Int) ≤ lim := by omega
    have htk : takes lim acc.length l.length = l.length := by unfold takes; rw [if_pos hlim]
    rw [htk]
    have hnl : l.length ≤ l.length := Nat.le_refl _
    clear htk
    go_enter Try.func87, Try.ntmps87
    go_wp2_with fail
    obtain ⟨v2, w2, hr2, hown2, hg2⟩ := append_by (w := w.drew) (c := c) 22 (unhide HB).2.2.1 (l := l.take l.length) (sb := sb) (so := so) (fun i x hx => (unhide HB).2.2.2.2 i x (by rw [List.getElem?_take] at hx; split at hx; exact hx; cases hx)) (by rw [List.length_take]; omega) (show B ≤ w.heap.size by omega)
    rw [List.length_take, Nat.min_eq_left hnl] at hr2 hown2
    obtain ⟨p2, cap2, rfl, -⟩ := owns_slice hown2
    have hb2 : w2.heap[b]? = some (.cells #[.slice g acc.length cap, .int .i64 lim, .bool false] 64 (0, 0)) :=
      (hg2.block _ (show b < w.heap.size from hlt) (fun e => (unhide HB).2.2.2.1 e.symm)).trans (unhide HB).2.1
    have f0 : w2.frozen? ⟨b, 0, none⟩ = false := frozen_of_heap hb2 _
    have hb3 := heap_set_same hb2 (i := 0) (.slice p2 (acc.length + l.length) cap2)
    have d0 : w2.cell? ⟨b, 0, none⟩ = some (.slice g acc.length cap) := by rw [cell_of_heap hb2]; rfl
    go_region_law (refine step_append_run rfl _ _ _ rfl _ _ rfl rfl hr2 ?_)
    have HFIN := hide (fun f => wr_fin (w := w) (wd := w.drew) (f := f) ⟨rfl, ((Fr.refl B b w).drewN 1)⟩ (unhide HB).1 hlt (unhide HB).2.2.1 hg2 hown2 hnl hb2)
    have c32 : (w2.setCell ⟨b, 0, none⟩ (.slice p2 (acc.length + l.length) cap2)).cell? ⟨b, 2, none⟩ = some (.bool false) := by rw [cell_of_heap hb3]; rfl
    have f32 : (w2.setCell ⟨b, 0, none⟩ (.slice p2 (acc.length + l.length) cap2)).frozen? ⟨b, 2, none⟩ = false := frozen_of_heap hb3 _
    generalize w2.setCell ⟨b, 0, none⟩ (.slice p2 (acc.length + l.length) cap2) = w3 at *
    clear hr2 hown2 hg2 hb2 hb3 HB d0 f0
    have hx : ¬ ((l.length : Int) < (l.length : Int)) := by omega
    go_wp2_with fail
    have h := unhide HFIN false
    rw [List.take_length] at h
    go_ret2
    exact ⟨rfl, h.1, h.2⟩
  · have hq : (0 : Int) ≤ lim := by omega
    have hf := hfit hq
    obtain ⟨n, hn⟩ : ∃ n, n = takes lim acc.length l.length := ⟨_, rfl⟩
    have hnl : n ≤ l.length := by rw [hn]; exact takes_le _ _ _
    have hmin : min (l.length : Int) (lim - (acc.length : Int)) = (n : Int) := by rw [hn]; unfold takes; rw [if_neg hlim]; omega
    have hnc : n ≤ c := by omega
    rw [← hn]
    clear hn
    go_enter Try.func87, Try.ntmps87
    go_wp2_with fail
    go_quiet (fail)
    go_wp2_with fail
    obtain ⟨v2, w2, hr2, hown2, hg2⟩ := append_by (w := (w.drewN nq).drew) (c := c) 22 (unhide HB).2.2.1 (l := l.take n) (sb := sb) (so := so) (fun i x hx => (unhide HB).2.2.2.2 i x (by rw [List.getElem?_take] at hx; split at hx; exact hx; cases hx)) (by rw [List.length_take]; omega) (show B ≤ w.heap.size by omega)
    rw [List.length_take, Nat.min_eq_left hnl] at hr2 hown2
    obtain ⟨p2, cap2, rfl, -⟩ := owns_slice hown2
    have hb2 : w2.heap[b]? = some (.cells #[.slice g acc.length cap, .int .i64 lim, .bool false] 64 (0, 0)) :=
      (hg2.block _ (show b < w.heap.size from hlt) (fun e => (unhide HB).2.2.2.1 e.symm)).trans (unhide HB).2.1
    have f0 : w2.frozen? ⟨b, 0, none⟩ = false := frozen_of_heap hb2 _
    have hb3 := heap_set_same hb2 (i := 0) (.slice p2 (acc.length + n) cap2)
    have d0 : w2.cell? ⟨b, 0, none⟩ = some (.slice g acc.length cap) := by rw [cell_of_heap hb2]; rfl
    go_region_law (refine step_append_run rfl _ _ _ rfl _ _ rfl rfl hr2 ?_)
    have HFIN := hide (fun f => wr_fin (w := w) (wd := (w.drewN nq).drew) (f := f) ⟨rfl, (((Fr.refl B b w).drewN nq).drewN 1)⟩ (unhide HB).1 hlt (unhide HB).2.2.1 hg2 hown2 hnl hb2)
    have c32 : (w2.setCell ⟨b, 0, none⟩ (.slice p2 (acc.length + n) cap2)).cell? ⟨b, 2, none⟩ = some (.bool false) := by rw [cell_of_heap hb3]; rfl
    have f32 : (w2.setCell ⟨b, 0, none⟩ (.slice p2 (acc.length + n) cap2)).frozen? ⟨b, 2, none⟩ = false := frozen_of_heap hb3 _
    generalize w2.setCell ⟨b, 0, none⟩ (.slice p2 (acc.length + n) cap2) = w3 at *
    clear hr2 hown2 hg2 hb2 hb3 HB d0 f0
    by_cases hx : n < l.length
    · have hi : (n : Int) < (l.length : Int) := by omega
      go_wp2_with fail
      have h := unhide HFIN true
      go_ret2
      exact ⟨rfl, h.1, h.2⟩
    · have hi : ¬ ((n : Int) < (l.length : Int)) := by omega
      go_wp2_with fail
      have h := unhide HFIN false
      go_ret2
      exact ⟨rfl, h.1, h.2⟩

/-- The bound as a writer tells it. -/
def limOf (lim : Int) : Option Nat := if lim < 0 then none else some lim.toNat
def implWr (B b : Nat) (lim : Int) : Wr where
  T := 62
  v := .pointer (some ⟨b, 0, none⟩)
  F := 87
  bb := b
  B := B
  lim := limOf lim
  ev := .iface 70 (.agg #[])
  Inv := fun acc w => IW w B b lim acc false ∧ Fits (limOf lim) acc.length ∧ B ≤ w.heap.size
  Fin := fun acc w => IW w B b lim acc true

theorem iw_meth (b : Nat) (w : World) : (method methFuel 62 (.pointer (some ⟨b, 0, none⟩)) "Write").run Try.prog w = .ok (87, .pointer (some ⟨b, 0, none⟩)) w := by kernel_rfl
theorem iw_call (args : Array Value) (w : World) : (callFunc 87 args).run Try.prog w = .ok (.enter 87 args) w := by kernel_rfl
theorem iw_ahead (b : Nat) (w : World) : (nilAhead methFuel 62 (.pointer (some ⟨b, 0, none⟩)) "Write").run Try.prog w = .ok (some false) w := by kernel_rfl

theorem fits_le {lim : Int} {n : Nat} (h : Fits (limOf lim) n) (h0 : 0 ≤ lim) : n ≤ lim.toNat := h _ (by unfold limOf; rw [if_neg (by omega)])
theorem takes_fit {lim : Int} {n m : Nat} (h : Fits (limOf lim) (n + m)) : takes lim n m = m := by
  unfold takes
  split
  · rfl
  · rename_i hl
    have := fits_le h (by omega)
    omega
theorem takes_not {lim : Int} {n m : Nat} (hn : Fits (limOf lim) n) (h : ¬ Fits (limOf lim) (n + m)) : 0 ≤ lim ∧ takes lim n m = lim.toNat - n ∧ takes lim n m < m := by
  by_cases h0 : lim < 0
  · exact absurd (fun k hk => by unfold limOf at hk; rw [if_pos h0] at hk; cases hk) h
  · have h1 := fits_le hn (by omega)
    have h2 : lim.toNat < n + m := by
      rcases Nat.lt_or_ge lim.toNat (n + m) with h2 | h2
      · exact h2
      · exact absurd (fun k hk => by unfold limOf at hk; rw [if_neg h0] at hk; cases hk; exact h2) h
    unfold takes
    rw [if_neg h0]
    exact ⟨by omega, by omega, by omega⟩

theorem implWrOK (B b : Nat) (lim : Int) (hB : B ≤ b) (h1 : lim ≤ 9223372036854775807) (h2 : -9223372036854775808 ≤ lim) : WrOK (implWr B b lim) where
  meth := iw_meth b
  call := iw_call
  keep := fun acc w w' h hk => ⟨h.1.keep hk, h.2.1, by
    have h3 := (h.1.keep hk).lt
    exact Nat.le_trans hB (Nat.le_of_lt h3)⟩
  keepF := fun acc w w' h hk => IW.keep h hk
  size := fun acc w h => h.2.2
  base := hB
  lt := fun acc w h => h.1.lt
  fits := fun acc w h => h.2.1
  ev_ne := ⟨_, _, rfl⟩
  ok := fun acc l sb so c w hI hs hne hlc hsz hf => by
    refine (implWrite_any B b lim acc l sb so c w hI.1 hs hne hlc hsz (fits_le hI.2.1) h1 h2).mono ?_
    rintro e w' ⟨rfl, h3, h4⟩
    rw [takes_fit hf] at h3 ⊢
    rw [List.take_length] at h3
    have hx : decide (l.length < l.length) = false := by simp
    rw [hx] at h3
    refine ⟨by simp, ⟨h3, by rw [List.length_append]; exact hf, Nat.le_trans hB (Nat.le_of_lt h3.lt)⟩, h4⟩
  no := fun acc l sb so c w hI hs hne hlc hsz hf => by
    obtain ⟨h0, h3, h4⟩ := takes_not hI.2.1 hf
    refine (implWrite_any B b lim acc l sb so c w hI.1 hs hne hlc hsz (fits_le hI.2.1) h1 h2).mono ?_
    rintro e w' ⟨rfl, h5, h6⟩
    rw [if_pos h4]
    refine ⟨_, rfl, ?_, h6⟩
    show IW w' B b lim (cut (limOf lim) (acc ++ l)) true
    have e1 : cut (limOf lim) (acc ++ l) = acc ++ l.take (takes lim acc.length l.length) := by
      have hle := fits_le hI.2.1 h0
      unfold limOf cut
      rw [if_neg (by omega), h3]
      show (acc ++ l).take lim.toNat = _
      rw [List.take_append, List.take_of_length_le hle]
    rw [e1]
    rw [decide_eq_true h4] at h5
    exact h5
end Go.Proofs.Ytpjehmblndjknaa
