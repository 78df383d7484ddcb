/-
  Walks: bytes.LastIndex, bytesIndex and bytesCut at slices of bytes.
-/
import Derived.Test.YtpjehmblndjknaaDoorLastIndex
import Derived.Test.YtpjehmblndjknaaDoorShelf
import Derived.Test.YtpjehmblndjknaaDoorArr
namespace Go.Proofs.YtpjehmblndjknaaDoor
open Go.RowKit Go.Lib
set_option linter.unusedSimpArgs false
set_option linter.unusedVariables false

theorem bs_data (l : List UInt8) : (bs l).data.toList = l := by simp [bs]
theorem src_bytes {w : World} {b o : Nat} {l : List UInt8} (h : ∀ (i : Nat) (x : UInt8), l[i]? = some x → w.cell? ⟨b, o + i, none⟩ = some (.int .u8 (x.toNat : Int))) : Lib.Bytes w b o (bs l) := by
  intro i hi
  have hi2 : i < l.length := by rw [bs_size] at hi; exact hi
  rw [h i (l[i]'hi2) (List.getElem?_eq_getElem hi2)]
  rfl

set_option maxRecDepth 100000 in
set_option maxHeartbeats 1600000 in
/-- bytes.LastIndex, the needle of two bytes at least. -/
theorem lastIndex_any (v : Value) (l sub : List UInt8) (sb so sc : Nat) (w : World) (hs : Sl w v l) (h2 : 2 ≤ sub.length) (hsub : ∀ (i : Nat) (x : UInt8), sub[i]? = some x → w.cell? ⟨sb, so + i, none⟩ = some (.int .u8 (x.toNat : Int))) (hl : l.length ≤ 4611686018427387904) (hm : sub.length < 4294967281) :
    Calls Tryd.prog 18 #[v, .slice (some ⟨sb, so, none⟩) sub.length sc] w fun e w' => e = .returned (.int .i64 (Lib.lastIndex l sub)) ∧ ∃ q, w' = w.drewN q := by
  obtain ⟨p, cap, rfl, hlc, hc⟩ := hs
  have i0 : ¬ (sub.length : Int) = 0 := by omega
  have i1 : ¬ (sub.length : Int) = 1 := by omega
  rcases Nat.lt_trichotomy sub.length l.length with hlt | heq | hgt
  · have i2 : ¬ (sub.length : Int) = (l.length : Int) := by omega
    have i3 : ¬ (l.length : Int) < (sub.length : Int) := by omega
    obtain ⟨b, o, rfl, hcell⟩ := hc (by rintro rfl; simp at hlt)
    have hrk := lastRK_any b o cap sb so sc (bs l) (bs sub) (by rw [bs_size]; omega) (by rw [bs_size, bs_size]; omega) (by rw [bs_size]; exact hl) (by rw [bs_size]; exact hm) w (src_bytes hcell) (src_bytes hsub) (by rw [bs_size]; exact hlc)
    rw [bs_data, bs_data, bs_size, bs_size] at hrk
    have HRK := hide hrk
    clear hrk hc hsub hcell hlc hl hm h2
    go_enter Tryd.func18, Tryd.ntmps18
    go_wp2_with fail
    refine (unhide HRK).mono ?_
    rintro e w' ⟨rfl, q, rfl⟩
    clear HRK
    go_wp2
    go_ret
    exact ⟨rfl, q, rfl⟩
  · have i2 : (sub.length : Int) = (l.length : Int) := by omega
    obtain ⟨b, o, rfl, hcell⟩ := hc (by rintro rfl; rw [List.length_nil] at heq; omega)
    have k1 : (convert 22 9 (.slice (some ⟨b, o, none⟩) l.length cap)).run Tryd.prog w = .ok (.string (bs l)) w := by
      have := Lib.run_convert_whole (P := Tryd.prog) w _ _ _ Tryd.underlying22 Tryd.underlying5 Tryd.underlying9 b o (bs l) (src_bytes hcell) cap
      rwa [bs_size] at this
    have k2 : (convert 22 9 (.slice (some ⟨sb, so, none⟩) sub.length sc)).run Tryd.prog w = .ok (.string (bs sub)) w := by
      have := Lib.run_convert_whole (P := Tryd.prog) w _ _ _ Tryd.underlying22 Tryd.underlying5 Tryd.underlying9 sb so (bs sub) (src_bytes hsub) sc
      rwa [bs_size] at this
    have heqc := Tryd.bytes_Equal_strs _ _ _ _ w k1 k2
    have hval : Hid (Lib.lastIndex l sub = if l = sub then 0 else -1) := by
      show _ = _
      unfold Lib.lastIndex
      rw [if_pos (by omega), show l.length - sub.length + 1 = 0 + 1 by omega]
      unfold Lib.lastOcc
      have ho : Lib.occAt l sub 0 = decide (l = sub) := by
        unfold Lib.occAt
        rw [List.drop_zero, Bool.eq_iff_iff, List.isPrefixOf_iff_prefix, decide_eq_true_iff]
        exact ⟨fun h => (h.eq_of_length (by omega)).symm, fun h => h ▸ List.prefix_refl _⟩
      rw [ho]
      by_cases h : l = sub
      · simp [h]
      · simp [h, Lib.lastOcc]
    have hbe : ((bs l).toList == (bs sub).toList) = decide (l = sub) := by
      rw [Bool.eq_iff_iff, beq_iff_eq, decide_eq_true_iff]
      have e : ∀ x : List UInt8, (bs x).toList = x := fun x => by rw [ByteArray.toList_eq, bs_data]
      rw [e, e]
    rw [hbe, heq] at heqc
    have HEQ := hide heqc
    clear heqc hbe k1 k2 hc hsub hcell hlc hl hm h2
    cases hd : decide (l = sub) with
    | true =>
      have HV : Hid (Lib.lastIndex l sub = 0) := by show _ = _; rw [unhide hval, if_pos (of_decide_eq_true hd)]
      rw [hd] at HEQ
      clear hd hval
      go_enter Tryd.func18, Tryd.ntmps18
      go_wp2_with fail
      refine (unhide HEQ).mono ?_
      rintro e w' ⟨rfl, rfl⟩
      clear HEQ
      go_wp2
      go_ret
      exact ⟨by rw [unhide HV]; rfl, 0, rfl⟩
    | false =>
      have HV : Hid (Lib.lastIndex l sub = -1) := by show _ = _; rw [unhide hval, if_neg (of_decide_eq_false hd)]
      rw [hd] at HEQ
      clear hd hval
      go_enter Tryd.func18, Tryd.ntmps18
      go_wp2_with fail
      refine (unhide HEQ).mono ?_
      rintro e w' ⟨rfl, rfl⟩
      clear HEQ
      go_wp2
      go_ret
      exact ⟨by rw [unhide HV]; rfl, 0, rfl⟩
  · have i2 : ¬ (sub.length : Int) = (l.length : Int) := by omega
    have i3 : (l.length : Int) < (sub.length : Int) := by omega
    have HV : Hid (Lib.lastIndex l sub = -1) := by show _ = _; unfold Lib.lastIndex; rw [if_neg (by omega)]
    clear hc hsub hlc hl hm h2
    go_enter Tryd.func18, Tryd.ntmps18
    go_wp2
    go_ret
    exact ⟨by rw [unhide HV]; rfl, 0, rfl⟩

set_option maxRecDepth 100000 in
set_option maxHeartbeats 4000000 in
/-- bytesIndex, the needle not empty. -/
theorem bytesIndex_any (v : Value) (l sub : List UInt8) (sb so sc : Nat) (w : World) (hs : Sl w v l) (h1 : 1 ≤ sub.length) (hsub : ∀ (i : Nat) (x : UInt8), sub[i]? = some x → w.cell? ⟨sb, so + i, none⟩ = some (.int .u8 (x.toNat : Int))) (hl : l.length ≤ 4611686018427387904) (hm : sub.length ≤ 4611686018427387904) :
    Calls Tryd.prog 17 #[v, .slice (some ⟨sb, so, none⟩) sub.length sc] w fun e w' => e = .returned (.int .i64 (Lib.index l sub)) ∧ ∃ q, w' = w.drewN q := by
  obtain ⟨p, cap, rfl, hlc, hc⟩ := hs
  have hcap : l.length ≤ cap := hlc
  have hne : sub ≠ [] := by rintro rfl; simp at h1
  by_cases hle : sub.length ≤ l.length
  · obtain ⟨b, o, rfl, hcell⟩ := hc (by rintro rfl; simp at hle; rw [hle] at hne; simp at hne)
    have hb1 := src_bytes hcell
    have hb2 := src_bytes hsub
    have hvs : ∀ n, (convert 22 9 (.slice (some ⟨sb, so, none⟩) sub.length sc)).run Tryd.prog (w.drewN n) = .ok (.string (bs sub)) (w.drewN n) := fun n => by
      have := Lib.run_convert_whole (P := Tryd.prog) (w.drewN n) _ _ _ Tryd.underlying22 Tryd.underlying5 Tryd.underlying9 sb so (bs sub) (Lib.Bytes.drewN hb2 n) sc
      rwa [bs_size] at this
    have hvw : Aside (∀ n j c, j + sub.length ≤ l.length → (convert 22 9 (.slice (some ⟨b, o + j, none⟩) sub.length c)).run Tryd.prog (w.drewN n) = .ok (.string ((bs l).extract j (j + sub.length))) (w.drewN n)) := fun n j c hj =>
      Lib.run_convert_window (P := Tryd.prog) _ _ _ _ Tryd.underlying22 Tryd.underlying5 Tryd.underlying9 b o (bs l) (Lib.Bytes.drewN hb1 n) j sub.length c (by rw [bs_size]; exact hj)
    have HNE := hide hne
    clear hc hcell hsub hb1 hb2 hlc hne
    go_enter Tryd.func17, Tryd.ntmps17
    go_wp2_with fail
    go_loopw [5] (fun vi wr => ∃ (i q : Nat), i + sub.length ≤ l.length + 1 ∧ vi = .int .i64 (i : Int) ∧ wr = w.drewN q ∧ Hid (NoOcc l sub i)) (fun vi _ => l.length + 1 - (RowKit.intOf vi).toNat)
    case atStart => exact ⟨0, 0, by omega, rfl, rfl, NoOcc.zero _ _⟩
    case round =>
      obtain ⟨i, q, hi, rfl, rfl, hn⟩ := hrel
      by_cases hlt : i + sub.length ≤ l.length
      · have hi2 : (i : Int) + (sub.length : Int) ≤ (l.length : Int) := by omega
        have hsl : ∀ W, (Instr.slice 22 (.slice (some ⟨b, o, none⟩) l.length cap) (some (.int .i64 (i : Int))) (some (.int .i64 ((i : Int) + sub.length))) none).run Tryd.prog W = .ok (.slice (some ⟨b, o + i, none⟩) sub.length (cap - i)) W := fun W => by
          rw [show ((i : Int) + sub.length) = ((i + sub.length : Nat) : Int) by omega, Lib.run_slice_window W 22 5 Tryd.underlying22 (fun _ => by kernel_rfl) b o l.length cap _ _ (by omega) (by omega), show i + sub.length - i = sub.length by omega]
        have hv : ∀ n c, (convert 22 9 (.slice (some ⟨b, o + i, none⟩) sub.length c)).run Tryd.prog (w.drewN n) = .ok (.string ((bs l).extract i (i + sub.length))) (w.drewN n) := fun n c => hvw.out n i c hlt
        have HOY := hide (fun h => occ_yes (bs l) (bs sub) i (by rw [bs_size, bs_size]; exact hlt) h)
        have HON := hide (fun h => occ_no (bs l) (bs sub) i (by rw [bs_size, bs_size]; exact hlt) h)
        rw [bs_data, bs_data, bs_size] at HOY HON
        go_wp2_with fail
        go_quiet (fail)
        go_wp2
        · have ho := unhide HOY (by assumption)
          have hx := index_hit (unhide hn) (by omega) ho
          go_ret
          exact ⟨by rw [hx]; rfl, q + nq, World.drewN_drewN _ _ _⟩
        · have ho := unhide HON (by assumption)
          refine ⟨⟨i + 1, q + nq, by omega, by go_num, (by first | rfl | exact World.drewN_drewN _ _ _), (unhide hn).succ ho⟩, ?_⟩
          simp [RowKit.intOf]; omega
      · have hi2 : ¬ (i : Int) + (sub.length : Int) ≤ (l.length : Int) := by omega
        have hx := hide (index_past (unhide HNE) (unhide hn) (by omega))
        go_wp2
        go_ret
        exact ⟨by rw [unhide hx]; rfl, q, rfl⟩
  · have hx := hide (index_past (s := l) hne (NoOcc.zero _ _) (by omega))
    have hi2 : ¬ ((sub.length : Int) ≤ (l.length : Int)) := by omega
    clear hc hsub hlc hne
    go_enter Tryd.func17, Tryd.ntmps17
    go_wp2_with fail
    refine wp_loop_rounds 1 ?_
    rw [rounds_succ]
    go_wp2
    go_ret
    exact ⟨by rw [unhide hx]; rfl, 0, rfl⟩
end Go.Proofs.YtpjehmblndjknaaDoor
