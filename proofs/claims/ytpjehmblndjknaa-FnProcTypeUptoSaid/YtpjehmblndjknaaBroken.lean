/-
  Walks: ZZBroken, impl.Broken.
-/
import Derived.Test.YtpjehmblndjknaaBuf
import Derived.Test.YtpjehmblndjknaaBrk
import Derived.Deep.WholeRow
import Derived.Lib.BufferOld
namespace Go.Proofs.Ytpjehmblndjknaa
open Go.RowKit
set_option linter.unusedSimpArgs false
set_option linter.unusedVariables false

/-- A slice of slices of bytes. -/
def Pieces (w : World) (v : Value) (ls : List (List UInt8)) : Prop :=
  ∃ (p : Option Addr) (cap : Nat), v = .slice p ls.length cap ∧ (ls ≠ [] → ∃ b o, p = some ⟨b, o, none⟩ ∧ ∀ (i : Nat) (l : List UInt8), ls[i]? = some l → ∃ u, w.cell? ⟨b, o + i, none⟩ = some u ∧ Sl w u l)

theorem join_take_succ {ls : List (List UInt8)} {k : Nat} {l : List UInt8} (h : ls[k]? = some l) : (ls.take (k + 1)).flatten = (ls.take k).flatten ++ l := by
  rw [List.take_add_one, h]; simp

set_option maxRecDepth 100000 in
set_option maxHeartbeats 800000 in
theorem zzBroken_any (ls : List (List UInt8)) (v : Value) (w : World) (hv : Pieces w v ls) (hsz : ls.flatten.length ≤ 17592186044416) (hn : ls.length ≤ 140737488355328) :
    Calls Try.prog 27 #[v] w fun e w' => ∃ v', e = .returned v' ∧ Sl w' v' (lines64 ls.flatten) ∧ Below w.heap.size w w' := by
  obtain ⟨p, cap, rfl, hp⟩ := hv
  have hst := brk_store (w.alloc (.cells #[.slice none 0 0, .int .i64 0, .int .i8 0] 74)) 75 (.pointer (some ⟨w.heap.size, 0, none⟩))
  have hI0 : (bufWr w.heap.size w.heap.size).Inv [] ((w.alloc (.cells #[.slice none 0 0, .int .i64 0, .int .i8 0] 74)).alloc (.cells (brkNew 75 (.pointer (some ⟨w.heap.size, 0, none⟩))) 80)) :=
    (bufOK _ _ (Nat.le_refl _)).keep _ _ _ (Lib.fresh_isBuffer 74 5 w) ((KeepW.refl _ _).alloc _)
  have hB0 := Brk.fresh (w.alloc (.cells #[.slice none 0 0, .int .i64 0, .int .i8 0] 74)) 75 (.pointer (some ⟨w.heap.size, 0, none⟩))
  have hF0 : Below w.heap.size w ((w.alloc (.cells #[.slice none 0 0, .int .i64 0, .int .i8 0] 74)).alloc (.cells (brkNew 75 (.pointer (some ⟨w.heap.size, 0, none⟩))) 80)) := balloc (balloc (Below.refl _ _) _) _
  rw [World.size_alloc] at hst hB0
  have HI := hide hI0
  have HB := hide hB0
  have HF := hide hF0
  clear hI0 hB0 hF0
  go_enter Try.func27, Try.ntmps27
  go_wp2_with fail
  have hw := bufOK w.heap.size w.heap.size (Nat.le_refl _)
  have hne : w.heap.size + 1 ≠ w.heap.size := by omega
  have hn63 : ls.length ≤ 9223372036854775807 := by omega
  have HN := hide hn
  have HSZ := hide hsz
  clear hn hsz
  go_loopw [11] (fun vk wr => ∃ k : Nat, k ≤ ls.length ∧ vk = .int .i64 k ∧ (bufWr w.heap.size w.heap.size).Inv (fullLines (ls.take k).flatten) wr ∧ Brk wr (w.heap.size + 1) 75 (.pointer (some ⟨w.heap.size, 0, none⟩)) (remPart (ls.take k).flatten) ∧ Below w.heap.size w wr) (fun vk _ => ls.length - (intOf vk).toNat)
  case atStart =>
    have e1 : fullLines (List.flatten (ls.take 0)) = [] := fullLines_small (by simp)
    have e2 : remPart (List.flatten (ls.take 0)) = [] := by rw [remPart_small (by simp)]; simp
    exact ⟨0, Nat.zero_le _, rfl, by rw [e1]; exact unhide HI, by rw [e2]; exact unhide HB, unhide HF⟩
  case round =>
    clear HI HB HF
    obtain ⟨k, hk, rfl, hI, hB, hbw⟩ := hrel
    by_cases hlt : k < ls.length
    · obtain ⟨l, hl⟩ : ∃ l, ls[k]? = some l := ⟨_, List.getElem?_eq_getElem hlt⟩
      obtain ⟨b, o, rfl, hcell⟩ := hp (by rintro rfl; simp at hlt)
      obtain ⟨u, hu, q, c', rfl, hlc, hsl⟩ := hcell k l hl
      have hck : wr.cell? ⟨b, o + k, none⟩ = some (.slice q l.length c') := by
        rw [hbw.cell (p := ⟨b, o + k, none⟩) (World.block_lt_of_cell? w _ hu)]; exact hu
      have hflat : (ls.take (k + 1)).flatten = (ls.take k).flatten ++ l := join_take_succ hl
      have hflen : (ls.take (k + 1)).flatten.length ≤ 17592186044416 := by
        have h1 := unhide HSZ
        have h2 : ls.flatten = (ls.take (k + 1)).flatten ++ (ls.drop (k + 1)).flatten := by rw [← List.flatten_append, List.take_append_drop]
        rw [h2, List.length_append] at h1
        omega
      rw [hflat, List.length_append] at hflen
      have hfl := fullLines_len _ (ls.take k).flatten (Nat.le_refl _)
      have hrl := hB.lt
      have hx : ∃ sb so, (l ≠ [] → q = some ⟨sb, so, none⟩) ∧ Src wr sb so l ∧ (l ≠ [] → Stay w.heap.size [w.heap.size, w.heap.size + 1] wr sb) := by
        by_cases h0 : l = []
        · exact ⟨0, 0, fun h => absurd h0 h, by rw [h0]; exact Src.nil _ _ _, fun h => absurd h0 h⟩
        · obtain ⟨sb, so, e1, e2⟩ := hsl h0
          obtain ⟨x, hx0⟩ : ∃ x, l[0]? = some x := ⟨_, List.getElem?_eq_getElem (List.length_pos_iff.2 h0)⟩
          have hlt2 : sb < w.heap.size := World.block_lt_of_cell? w _ (e2 0 x hx0)
          exact ⟨sb, so, fun _ => e1, Src.below (B := w.heap.size) e2 hbw hlt2, fun _ => .inl hlt2⟩
      obtain ⟨sb, so, x1, x2, x3⟩ := hx
      have hcall := hide (brk_write (bufWr w.heap.size w.heap.size) hw (w.heap.size + 1) hne (Nat.le_succ _) l.length l (fullLines (ls.take k).flatten) (remPart (ls.take k).flatten) q sb so c' wr (Nat.le_refl _) x1 hI hB x2 x3 hlc (by omega))
      have HFL := hide hflat
      clear hflat hflen hfl hrl hcell hsl hu hI hB x1 x2 x3 hp hl hlc
      go_wp2_with fail
      refine (unhide hcall).mono ?_
      rintro e w2 ⟨n2, ev2, rfl, hF2, hP⟩
      rcases hP with ⟨-, rfl, hI2, hB2⟩ | ⟨hno, -⟩
      · obtain ⟨s1, s2⟩ := lines_step _ (ls.take k).flatten l (Nat.le_refl _)
        have hR : Hid ((bufWr w.heap.size w.heap.size).Inv (fullLines (ls.take (k + 1)).flatten) w2 ∧ Brk w2 (w.heap.size + 1) 75 (.pointer (some ⟨w.heap.size, 0, none⟩)) (remPart (ls.take (k + 1)).flatten) ∧ Below w.heap.size w w2) := by
          rw [unhide HFL]
          exact ⟨by rw [s1]; exact hI2, by rw [s2]; exact hB2, hbw.trans hF2.1⟩
        clear hI2 hB2 hF2 s1 s2 hbw hcall
        go_wp2
        refine ⟨⟨k + 1, by omega, by go_num, (unhide hR).1, (unhide hR).2.1, (unhide hR).2.2⟩, ?_⟩
        simp [intOf]; omega
      · exact absurd (fun m hm => by cases hm) hno
    · obtain rfl : k = ls.length := by omega
      rw [List.take_length] at hI hB
      have hfl := fullLines_len _ ls.flatten (Nat.le_refl _)
      have hrl := hB.lt
      have hclose := hide (close_ok (bufWr w.heap.size w.heap.size) hw (w.heap.size + 1) (fullLines ls.flatten) (remPart ls.flatten) wr hI hB hne (by have := unhide HSZ; omega) (fun m hm => by cases hm))
      clear hI hB hp hfl hrl
      go_wp2_with fail
      refine (unhide hclose).mono ?_
      rintro e w2 ⟨rfl, hI2, hF2⟩
      rw [← lines64_eq _ _ (Nat.le_refl _)] at hI2
      have hB2 : Below w.heap.size w w2 := hbw.trans hF2.1
      clear hF2 hclose hbw
      have hI3 : Lib.IsBuffer 74 5 w.heap.size w.heap.size ((lines64 ls.flatten).map bv) w2 := hI2
      clear hI2
      have hby := hide (Try.Buffer_Bytes w.heap.size w.heap.size ((lines64 ls.flatten).map bv) w2 hI3)
      clear hI3
      go_wp2_with fail
      refine (unhide hby).mono ?_
      rintro e w3 ⟨v3, rfl, hown, n3, rfl⟩
      have hfin : Hid (Sl (w2.drewN n3) v3 (lines64 ls.flatten) ∧ Below w.heap.size w (w2.drewN n3)) := ⟨Sl.of_owns hown, below_drewN hB2 n3⟩
      clear hown hB2 hby
      go_wp2
      go_ret
      exact ⟨_, rfl, (unhide hfin).1, (unhide hfin).2⟩
end Go.Proofs.Ytpjehmblndjknaa
