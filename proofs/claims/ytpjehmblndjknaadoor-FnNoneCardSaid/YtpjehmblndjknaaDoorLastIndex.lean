/-
  Walks: hashStrRev, LastIndexRabinKarp and bytes.LastIndex at slices of bytes.
-/
import Derived.Test.YtpjehmblndjknaaDoorRows
import Derived.Test.YtpjehmblndjknaaDoorBase
import Derived.Handy
import Derived.Outline
import Derived.WalkKit
import Derived.Deep.LoopGhost
import Derived.Lib.Walk
import Derived.Lib.Strings
import Derived.Lib.Slices
import Derived.Lib.Bytealg
import Derived.BigCall
import Derived.BigGuard
import Derived.Deep.Draws
import Derived.Laws.Strings3
import Derived.Laws.BytesArg
import Derived.Lib.RabinKarpLaws
import Derived.Lib.SlBytesRow
import Derived.Lib.LastIndexLaws
import Derived.BigQuiet
import Derived.Deep.QuietTactic
namespace Go.Proofs.YtpjehmblndjknaaDoor
open Go.RowKit Go.Lib
set_option linter.unusedSimpArgs false
set_option linter.unusedVariables false

set_option maxRecDepth 100000 in
set_option maxHeartbeats 4000000 in
theorem hashRev_any (b o c : Nat) (sep : ByteArray) (hs : sep.size < 4294967281) (w : World) (hc : Lib.Bytes w b o sep) :
    Calls Tryd.prog 55 #[.slice (some ⟨b, o, none⟩) sep.size c] w fun e w' => e = .returned (.tuple #[.int .u32 (RK.H sep.data.toList.reverse % 4294967296), .int .u32 (16777619 ^ sep.size % 4294967296)]) ∧ w' = w := by
  go_enter Tryd.func55, Tryd.ntmps55
  go_wp2
  go_loop [4, 5] (fun vh vi => ∃ (k : Nat) (h : Int), k ≤ sep.size ∧ vi = .int .i64 ((k : Int) - 1) ∧ vh = .int .u32 h ∧ Hid (h = RK.H (sep.data.toList.drop k).reverse % 4294967296)) (fun _ vi => ((RowKit.intOf vi) + 1).toNat)
  case atStart => exact ⟨sep.size, 0, Nat.le_refl _, rfl, rfl, by show (0 : Int) = _; rw [List.drop_of_length_le (by simp)]; rfl⟩
  case round =>
    obtain ⟨k, h, hk, rfl, rfl, hh⟩ := hrel
    by_cases hlt : 1 ≤ k
    · have ck := hc (k - 1) (by omega)
      have ek : ((k - 1 : Nat) : Int) = (k : Int) - 1 := by omega
      clear hc
      go_wp2
      go_round
      case rel => exact ⟨k - 1, _, by omega, by congr 1; omega, rfl, LastIndex.hashrev_step sep k hlt hk hh.out⟩
      case measure => simp [RowKit.intOf]; omega
    · have hk2 : k = 0 := by omega
      subst hk2
      clear hc
      go_wp2
      go_loop [6, 7, 8] (fun vp vq vi => ∃ (i : Nat) (pw sq : Int), vi = .int .i64 i ∧ vp = .int .u32 pw ∧ vq = .int .u32 sq ∧ 0 ≤ pw ∧ pw < 4294967296 ∧ i ≤ sep.size ∧ Hid (RK.PowInv sep.size i pw sq)) (fun _ _ vi => (RowKit.intOf vi).toNat)
      case atStart => exact ⟨sep.size, 1, 16777619, rfl, rfl, rfl, by omega, by omega, Nat.le_refl _, RK.pow_start _⟩
      case round =>
        obtain ⟨i, pw, sq, rfl, rfl, rfl, p0, p1, hi, hinv⟩ := hrel
        have ea := and_one i (by omega)
        go_wp2
        · have ht : ((i : Int) % 2 != 0) = true := by assumption
          have ho : i % 2 = 1 := by simp at ht; omega
          go_round
          case rel => exact ⟨i / 2, _, _, by first | go_num | (congr 1; omega), rfl, rfl, by omega, by omega, by omega, RK.pow_odd hinv.out ho⟩
          case measure => simp [RowKit.intOf]; omega
        · have ht : ((i : Int) % 2 != 0) = false := by assumption
          have he : i % 2 = 0 := by simp at ht; omega
          go_round
          case rel => exact ⟨i / 2, _, _, by first | go_num | (congr 1; omega), rfl, rfl, p0, p1, by omega, RK.pow_even hinv.out he⟩
          case measure => simp [RowKit.intOf]; omega
        · have hi0 : i = 0 := by omega
          subst hi0
          have e1 : h = RK.H sep.data.toList.reverse % 4294967296 := by
            have := hh.out
            rwa [List.drop_zero] at this
          have e2 := RK.pow_end hinv.out p0 p1
          go_ret2
          rw [← e1, ← e2]
          exact ⟨rfl, rfl⟩

/-- What the search among the places below j still has to say. -/
theorem lastIndex_from (s sep : ByteArray) (last : Nat) (h : last + sep.size = s.size) : Lib.lastIndex s.data.toList sep.data.toList = Lib.lastOcc s.data.toList sep.data.toList (last + 1) := by
  unfold Lib.lastIndex
  rw [if_pos (by simp; omega)]
  congr 1
  simp; omega

set_option maxRecDepth 100000 in
set_option maxHeartbeats 16000000 in
theorem lastRK_any (b1 o1 c1 b2 o2 c2 : Nat) (s sep : ByteArray) (h1 : 1 ≤ sep.size) (h2 : sep.size ≤ s.size) (hs : s.size ≤ 4611686018427387904) (hsep : sep.size < 4294967281) (w : World)
    (hc1 : Lib.Bytes w b1 o1 s) (hc2 : Lib.Bytes w b2 o2 sep) (hcap : s.size ≤ c1) :
    Calls Tryd.prog 33 #[.slice (some ⟨b1, o1, none⟩) s.size c1, .slice (some ⟨b2, o2, none⟩) sep.size c2] w fun e w' => e = .returned (.int .i64 (Lib.lastIndex s.data.toList sep.data.toList)) ∧ ∃ q, w' = w.drewN q := by
  obtain ⟨hh, Hh⟩ : ∃ hh : Int, hh = RK.H sep.data.toList.reverse % 4294967296 := ⟨_, rfl⟩
  obtain ⟨pw, Hp⟩ : ∃ pw : Int, pw = 16777619 ^ sep.size % 4294967296 := ⟨_, rfl⟩
  have hc : Calls Tryd.prog 55 #[.slice (some ⟨b2, o2, none⟩) sep.size c2] w fun e w' => e = .returned (.tuple #[.int .u32 hh, .int .u32 pw]) ∧ w' = w := by rw [Hh, Hp]; exact hashRev_any b2 o2 c2 sep hsep w hc2
  clear hsep
  have HH := hid Hh
  have HP := hid Hp
  clear Hh Hp
  obtain ⟨last, hlast⟩ : ∃ last : Nat, last + sep.size = s.size := ⟨s.size - sep.size, by omega⟩
  have elast : (s.size : Int) - sep.size = last := by omega
  have HL : Hid (Lib.lastIndex s.data.toList sep.data.toList = Lib.lastOcc s.data.toList sep.data.toList (last + 1)) := lastIndex_from s sep last hlast
  have t37 := Tryd.underlying22
  have t5 := Tryd.underlying5
  have t9 := Tryd.underlying9
  have hvs : ∀ n, (convert 22 9 (.slice (some ⟨b2, o2, none⟩) sep.size c2)).run Tryd.prog (w.drewN n) = .ok (.string sep) (w.drewN n) := fun n =>
    Lib.run_convert_whole (P := Tryd.prog) (w.drewN n) _ _ _ t37 t5 t9 b2 o2 sep (Lib.Bytes.drewN hc2 n) c2
  have hvw : Aside (∀ n j cap, j + sep.size ≤ s.size → (convert 22 9 (.slice (some ⟨b1, o1 + j, none⟩) sep.size cap)).run Tryd.prog (w.drewN n) = .ok (.string (s.extract j (j + sep.size))) (w.drewN n)) := fun n j cap hj =>
    Lib.run_convert_window (P := Tryd.prog) _ _ _ _ t37 t5 t9 b1 o1 s (Lib.Bytes.drewN hc1 n) j sep.size cap hj
  have C1 : Aside (Lib.Bytes w b1 o1 s) := hc1
  clear hc1 hc2 t37 t5 t9
  go_enter Tryd.func33, Tryd.ntmps33
  go_wp2_with fail
  refine hc.mono ?_
  rintro e w' ⟨rfl, rfl⟩
  clear hc
  go_wp2_with fail
  go_loop [9, 10] (fun vh vi => ∃ (k : Nat) (h : Int), last ≤ k ∧ k ≤ s.size ∧ vi = .int .i64 ((k : Int) - 1) ∧ vh = .int .u32 h ∧ Hid (h = RK.H (s.data.toList.drop k).reverse % 4294967296)) (fun _ vi => ((RowKit.intOf vi) + 1).toNat)
  case atStart => exact ⟨s.size, 0, by omega, Nat.le_refl _, rfl, rfl, by show (0 : Int) = _; rw [List.drop_of_length_le (by simp)]; rfl⟩
  case round =>
    obtain ⟨k, h, hk1, hk, rfl, rfl, hk2⟩ := hrel
    by_cases hlt : last < k
    · have k1 : 1 ≤ k := by omega
      have ck := C1.out (k - 1) (by omega)
      have ek : ((k - 1 : Nat) : Int) = (k : Int) - 1 := by omega
      go_wp2_with fail
      refine ⟨⟨k - 1, _, by omega, by omega, by congr 1; omega, rfl, LastIndex.hashrev_step s k k1 hk hk2.out⟩, ?_⟩
      simp [RowKit.intOf]; omega
    · have hkl : k = last := by omega
      subst hkl
      have hwin : h = RK.H (RK.win s.data.toList k sep.size).reverse % 4294967296 := by
        have := hk2.out
        rwa [show s.data.toList.drop k = RK.win s.data.toList k sep.size from (List.take_of_length_le (by simp; omega)).symm] at this
      have Hwin := hid hwin
      have hv0 := fun n cap => hvw.out n k cap (by omega)
      rw [hlast] at hv0
      clear hk2 hwin
      have hck : ¬ c1 = k := by omega
      have es : s.size - k = sep.size := by omega
      have Hwin0 := Hwin
      by_cases ehh : h = hh
      · subst ehh
        go_wp2_with fail
        go_quiet (fail)
        go_wp2
        · have hcmp : ((s.extract k s.size).toList == sep.toList) = true := by assumption
          have ho := occ_yes s sep k (by omega) (by rw [hlast]; exact hcmp)
          go_ret
          rw [HL.out, Lib.lastOcc_hit _ _ k ho]
          exact ⟨rfl, _, rfl⟩
        · have hcmp : ((s.extract k s.size).toList == sep.toList) = false := by assumption
          have hno : occAt s.data.toList sep.data.toList k = false := occ_no s sep k (by omega) (by rw [hlast]; exact hcmp)
          have HL2 : Hid (Lib.lastIndex s.data.toList sep.data.toList = Lib.lastOcc s.data.toList sep.data.toList k) := HL.out.trans (Lib.lastOcc_miss _ _ k hno)
          have hwin := trivial
          simp only [hcmp]
          clear hcmp
          clear hwin hno HL Hwin0 hv0 hck es
          go_loopw [9, 11] (fun vh vi wr => ∃ (j : Nat) (g : Int) (q : Nat), j ≤ k ∧ vi = .int .i64 ((j : Int) - 1) ∧ vh = .int .u32 g ∧ wr = w'.drewN q ∧ Hid (g = RK.H (RK.win s.data.toList j sep.size).reverse % 4294967296) ∧ Hid (Lib.lastIndex s.data.toList sep.data.toList = Lib.lastOcc s.data.toList sep.data.toList j)) (fun _ vi _ => ((RowKit.intOf vi) + 1).toNat)
          case atStart => exact ⟨k, _, _, Nat.le_refl _, rfl, rfl, rfl, Hwin, HL2⟩
          case round =>
            obtain ⟨j, g, q, hj, rfl, rfl, rfl, hg, hl⟩ := hrel
            by_cases hj1 : 1 ≤ j
            · have ck1 := C1.out (j - 1) (by omega)
              have ck2 := C1.out (j - 1 + sep.size) (by omega)
              have ej : j - 1 + 1 = j := by omega
              have eji : ((j - 1 : Nat) : Int) = (j : Int) - 1 := by omega
              have ejn : ((j - 1 + sep.size : Nat) : Int) = (j : Int) - 1 + sep.size := by omega
              have hsl : ∀ W, (Instr.slice 22 (.slice (some ⟨b1, o1, none⟩) s.size c1) (some (.int .i64 ((j : Int) - 1))) (some (.int .i64 ((j : Int) - 1 + sep.size))) none).run Tryd.prog W = .ok (.slice (some ⟨b1, o1 + (j - 1), none⟩) sep.size (c1 - (j - 1))) W := fun W => by
                rw [ejn.symm, eji.symm, Lib.run_slice_window W 22 5 Tryd.underlying22 (fun _ => by kernel_rfl) b1 o1 s.size c1 _ _ (by omega) (by omega), show j - 1 + sep.size - (j - 1) = sep.size by omega]
              have hv : ∀ n cap, (convert 22 9 (.slice (some ⟨b1, o1 + (j - 1), none⟩) sep.size cap)).run Tryd.prog (w'.drewN n) = .ok (.string (s.extract (j - 1) (j - 1 + sep.size))) (w'.drewN n) := fun n cap => hvw.out n (j - 1) cap (by omega)
              have hg' : g = RK.H (RK.win s.data.toList (j - 1 + 1) sep.size).reverse % 4294967296 := by rw [ej]; exact hg.out
              have HR := hid (LastIndex.rollrev_step s sep.size (j - 1) h1 (by omega) hg' HP.out)
              clear hg'
              have HR2 : Hid (((g * 16777619 + ((s[j - 1]).toNat : Int)) % 4294967296 - pw * (((s[j - 1 + sep.size]).toNat : Int) % 4294967296) % 4294967296) % 4294967296 = RK.H (RK.win s.data.toList (j - 1) sep.size).reverse % 4294967296) := by
                show _ = _
                rw [← HR.out]
                generalize pw * (((s[j - 1 + sep.size]).toNat : Int) % 4294967296) = T
                omega
              by_cases heq : ((g * 16777619 + ((s[j - 1]).toNat : Int)) % 4294967296 - pw * (((s[j - 1 + sep.size]).toNat : Int) % 4294967296) % 4294967296) % 4294967296 = h
              · go_wp2_with fail
                go_quiet (fail)
                go_wp2
                · have hcmp : ((s.extract (j - 1) (j - 1 + sep.size)).toList == sep.toList) = true := by assumption
                  have ho := occ_yes s sep (j - 1) (by omega) hcmp
                  have e3 : Lib.lastOcc s.data.toList sep.data.toList j = ((j - 1 : Nat) : Int) := by
                    have := Lib.lastOcc_hit _ _ (j - 1) ho
                    rwa [ej] at this
                  go_ret
                  rw [hl.out, e3, eji]
                  exact ⟨rfl, q + nq, World.drewN_drewN _ _ _⟩
                · have hcmp : ((s.extract (j - 1) (j - 1 + sep.size)).toList == sep.toList) = false := by assumption
                  have hn := occ_no s sep (j - 1) (by omega) hcmp
                  have e3 : Lib.lastOcc s.data.toList sep.data.toList j = Lib.lastOcc s.data.toList sep.data.toList (j - 1) := by
                    have := Lib.lastOcc_miss _ _ (j - 1) hn
                    rwa [ej] at this
                  go_round
                  case rel => exact ⟨j - 1, _, q + nq, by omega, by congr 1; omega, rfl, (by first | rfl | exact World.drewN_drewN _ _ _), (by first | exact HR2 | exact heq.symm.trans HR2.out), hl.out.trans e3⟩
                  case measure => simp [RowKit.intOf]; omega
              · have hn := LastIndex.occ_no_hashrev s sep (j - 1) (by omega) HR2.out HH.out heq
                have e3 : Hid (Lib.lastOcc s.data.toList sep.data.toList j = Lib.lastOcc s.data.toList sep.data.toList (j - 1)) := by
                  have := Lib.lastOcc_miss _ _ (j - 1) hn
                  rwa [ej] at this
                clear hn
                have heq2 : ¬ (g * 16777619 + ((s[j - 1]).toNat : Int) - pw * (((s[j - 1 + sep.size]).toNat : Int) % 4294967296)) % 4294967296 = h := by
                  rw [HR.out]; rw [HR2.out] at heq; exact heq
                have heqd := decide_eq_false heq2
                go_wp2_with fail
                go_quiet (fail)
                go_wp2
                refine ⟨?_, by simp [RowKit.intOf]; omega⟩
                exact ⟨j - 1, _, q + nq, by omega, by congr 1; omega, rfl, (by first | rfl | exact World.drewN_drewN _ _ _), HR, hl.out.trans e3⟩
            · have j0 : j = 0 := by omega
              subst j0
              go_wp2
              go_ret
              rw [hl.out]
              exact ⟨rfl, _, rfl⟩
      · have hno : occAt s.data.toList sep.data.toList k = false := LastIndex.occ_no_hashrev s sep k (by omega) Hwin.out HH.out ehh
        have HL2 : Hid (Lib.lastIndex s.data.toList sep.data.toList = Lib.lastOcc s.data.toList sep.data.toList k) := HL.out.trans (Lib.lastOcc_miss _ _ k hno)
        have hwin := trivial
        go_wp2_with fail
        go_quiet (fail)
        go_wp2
        clear hwin hno HL Hwin0 hv0 hck es
        go_loopw [9, 11] (fun vh vi wr => ∃ (j : Nat) (g : Int) (q : Nat), j ≤ k ∧ vi = .int .i64 ((j : Int) - 1) ∧ vh = .int .u32 g ∧ wr = w'.drewN q ∧ Hid (g = RK.H (RK.win s.data.toList j sep.size).reverse % 4294967296) ∧ Hid (Lib.lastIndex s.data.toList sep.data.toList = Lib.lastOcc s.data.toList sep.data.toList j)) (fun _ vi _ => ((RowKit.intOf vi) + 1).toNat)
        case atStart => exact ⟨k, _, _, Nat.le_refl _, rfl, rfl, rfl, Hwin, HL2⟩
        case round =>
          obtain ⟨j, g, q, hj, rfl, rfl, rfl, hg, hl⟩ := hrel
          by_cases hj1 : 1 ≤ j
          · have ck1 := C1.out (j - 1) (by omega)
            have ck2 := C1.out (j - 1 + sep.size) (by omega)
            have ej : j - 1 + 1 = j := by omega
            have eji : ((j - 1 : Nat) : Int) = (j : Int) - 1 := by omega
            have ejn : ((j - 1 + sep.size : Nat) : Int) = (j : Int) - 1 + sep.size := by omega
            have hsl : ∀ W, (Instr.slice 22 (.slice (some ⟨b1, o1, none⟩) s.size c1) (some (.int .i64 ((j : Int) - 1))) (some (.int .i64 ((j : Int) - 1 + sep.size))) none).run Tryd.prog W = .ok (.slice (some ⟨b1, o1 + (j - 1), none⟩) sep.size (c1 - (j - 1))) W := fun W => by
              rw [ejn.symm, eji.symm, Lib.run_slice_window W 22 5 Tryd.underlying22 (fun _ => by kernel_rfl) b1 o1 s.size c1 _ _ (by omega) (by omega), show j - 1 + sep.size - (j - 1) = sep.size by omega]
            have hv : ∀ n cap, (convert 22 9 (.slice (some ⟨b1, o1 + (j - 1), none⟩) sep.size cap)).run Tryd.prog (w'.drewN n) = .ok (.string (s.extract (j - 1) (j - 1 + sep.size))) (w'.drewN n) := fun n cap => hvw.out n (j - 1) cap (by omega)
            have hg' : g = RK.H (RK.win s.data.toList (j - 1 + 1) sep.size).reverse % 4294967296 := by rw [ej]; exact hg.out
            have HR := hid (LastIndex.rollrev_step s sep.size (j - 1) h1 (by omega) hg' HP.out)
            clear hg'
            have HR2 : Hid (((g * 16777619 + ((s[j - 1]).toNat : Int)) % 4294967296 - pw * (((s[j - 1 + sep.size]).toNat : Int) % 4294967296) % 4294967296) % 4294967296 = RK.H (RK.win s.data.toList (j - 1) sep.size).reverse % 4294967296) := by
              show _ = _
              rw [← HR.out]
              generalize pw * (((s[j - 1 + sep.size]).toNat : Int) % 4294967296) = T
              omega
            by_cases heq : ((g * 16777619 + ((s[j - 1]).toNat : Int)) % 4294967296 - pw * (((s[j - 1 + sep.size]).toNat : Int) % 4294967296) % 4294967296) % 4294967296 = hh
            · go_wp2_with fail
              go_quiet (fail)
              go_wp2
              · have hcmp : ((s.extract (j - 1) (j - 1 + sep.size)).toList == sep.toList) = true := by assumption
                have ho := occ_yes s sep (j - 1) (by omega) hcmp
                have e3 : Lib.lastOcc s.data.toList sep.data.toList j = ((j - 1 : Nat) : Int) := by
                  have := Lib.lastOcc_hit _ _ (j - 1) ho
                  rwa [ej] at this
                go_ret
                rw [hl.out, e3, eji]
                exact ⟨rfl, q + nq, World.drewN_drewN _ _ _⟩
              · have hcmp : ((s.extract (j - 1) (j - 1 + sep.size)).toList == sep.toList) = false := by assumption
                have hn := occ_no s sep (j - 1) (by omega) hcmp
                have e3 : Lib.lastOcc s.data.toList sep.data.toList j = Lib.lastOcc s.data.toList sep.data.toList (j - 1) := by
                  have := Lib.lastOcc_miss _ _ (j - 1) hn
                  rwa [ej] at this
                go_round
                case rel => exact ⟨j - 1, _, q + nq, by omega, by congr 1; omega, rfl, (by first | rfl | exact World.drewN_drewN _ _ _), (by first | exact HR2 | exact heq.symm.trans HR2.out), hl.out.trans e3⟩
                case measure => simp [RowKit.intOf]; omega
            · have hn := LastIndex.occ_no_hashrev s sep (j - 1) (by omega) HR2.out HH.out heq
              have e3 : Hid (Lib.lastOcc s.data.toList sep.data.toList j = Lib.lastOcc s.data.toList sep.data.toList (j - 1)) := by
                have := Lib.lastOcc_miss _ _ (j - 1) hn
                rwa [ej] at this
              clear hn
              have heq2 : ¬ (g * 16777619 + ((s[j - 1]).toNat : Int) - pw * (((s[j - 1 + sep.size]).toNat : Int) % 4294967296)) % 4294967296 = hh := by
                rw [HR.out]; rw [HR2.out] at heq; exact heq
              have heqd := decide_eq_false heq2
              go_wp2_with fail
              go_quiet (fail)
              go_wp2
              refine ⟨?_, by simp [RowKit.intOf]; omega⟩
              exact ⟨j - 1, _, q + nq, by omega, by congr 1; omega, rfl, (by first | rfl | exact World.drewN_drewN _ _ _), HR, hl.out.trans e3⟩
          · have j0 : j = 0 := by omega
            subst j0
            go_wp2
            go_ret
            rw [hl.out]
            exact ⟨rfl, _, rfl⟩
end Go.Proofs.YtpjehmblndjknaaDoor
