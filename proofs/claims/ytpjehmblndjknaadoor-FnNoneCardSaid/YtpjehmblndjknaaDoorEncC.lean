/-
  Walks: base64.NewEncoder, (*base64.Encoding).EncodedLen, (*base64.encoder).Close.
-/
import Derived.Test.YtpjehmblndjknaaDoorEncW
import Derived.Deep.RegionWith
namespace Go.Proofs.YtpjehmblndjknaaDoor
open Go.RowKit
set_option linter.unusedSimpArgs false
set_option linter.unusedVariables false

set_option maxRecDepth 100000 in
set_option maxHeartbeats 400000 in
theorem encLen_any (eb n : Nat) (w : World) (hn : 0 < n) (hn2 : n ≤ 2) (h : w.cell? ⟨eb, 320, none⟩ = some (.int .i32 61)) :
    Calls Tryd.prog 121 #[.pointer (some ⟨eb, 0, none⟩), .int .i64 (n : Int)] w fun e w' => e = .returned (.int .i64 4) ∧ w = w' := by
  obtain rfl | rfl : n = 1 ∨ n = 2 := by omega
  · go_enter Tryd.func121, Tryd.ntmps121
    go_wp2
    go_ret
    exact ⟨rfl, rfl⟩
  · go_enter Tryd.func121, Tryd.ntmps121
    go_wp2
    go_ret
    exact ⟨rfl, rfl⟩

set_option maxRecDepth 100000 in
set_option maxHeartbeats 400000 in
theorem encClose_nil (nb eb b : Nat) (w : World) (hE : ESt w nb eb b []) :
    Calls Tryd.prog 118 #[.pointer (some ⟨nb, 0, none⟩)] w fun e w' => e = .returned .nilIface ∧ w = w' := by
  have c0 := hE.c0
  have c6 : w.cell? ⟨nb, 6, none⟩ = some (.int .i64 0) := hE.c6
  go_enter Tryd.func118, Tryd.ntmps118
  go_wp2
  go_ret
  exact ⟨rfl, rfl⟩

set_option maxRecDepth 100000 in
set_option maxHeartbeats 12000000 in
theorem encClose_some (W : Wr) (hw : WrOK W) (b nb eb : Nat) (hbb : b ≠ W.bb) (hBb : W.B ≤ b) (hnb : nb ≠ b) (hnw : nb ≠ W.bb) (hBn : W.B ≤ nb) (heb : eb ≠ b) (hew : eb ≠ W.bb) (hen : eb ≠ nb)
   (acc pb pend : List UInt8) (w : World) (hI : W.Inv acc w) (hb : Brk w b W.T W.v pb) (hE : ESt w nb eb b pend) (he : Enc w eb) (h0 : 0 < pend.length) (h2 : pend.length ≤ 2) (hsz : acc.length ≤ 17592186044416) 
   (Te : TypeId) (ve evx : Value) (hev : W.ev = .iface Te ve) (P : World → Prop) (hP : ∀ w1 w2, P w1 → KeepW W.bb w1 w2 → P w2)
   (hevx : (Fits W.lim (acc ++ fullLines (pb ++ b64 pend)).length ∧ evx = .nilIface ∧ P = fun w' => W.Inv (acc ++ fullLines (pb ++ b64 pend)) w') ∨ (¬ Fits W.lim (acc ++ fullLines (pb ++ b64 pend)).length ∧ evx = .iface Te ve ∧ P = fun w' => W.Fin (cut W.lim (acc ++ fullLines (pb ++ b64 pend))) w')) :
    Calls Tryd.prog 118 #[.pointer (some ⟨nb, 0, none⟩)] w fun e w' => e = .returned evx ∧ FrL W.B [W.bb, b, nb] w w' ∧ P w' ∧ (evx = .nilIface → Brk w' b W.T W.v (remPart (pb ++ b64 pend))) := by
  have c0 := hE.c0
  have c6 := hE.c6
  obtain ⟨n, hn⟩ : ∃ n, n = pend.length := ⟨_, rfl⟩
  rw [← hn] at c6
  have g0 : (0 : Int) < (n : Int) := by omega
  have g2 : (n : Int) ≤ 2 := by omega
  have e1 := hE.drew.c1
  have hbl : (b64 pend).length = 4 := by rw [b64_length]; omega
  have hsl := slice_arr_to 130 3 (by decide) Tryd.underlying130 nb 3 n (by omega)
  have henc := encode_any eb nb 7 nb 3 (some ⟨nb, 3, none⟩) pend 1024 1024 3 w.drew he hen (fun _ => rfl) hE.drew.src (.inr (by omega)) hE.drew.there (fun i => hE.drew.f i) (by rw [hbl]; omega) (by omega) (by omega) (by omega) (by omega)
  rw [← hn] at henc
  have hbw' := fun (w1 : World) q1 q2 q3 q4 q5 => brk_write W hw b hbb hBb 4 (b64 pend) acc pb (some ⟨nb, 7, none⟩) nb 7 1024 w1 (by rw [hbl]; omega) (fun _ => rfl) q1 q2 q3 q4 (by rw [hbl]; omega) q5
  rw [hbl] at hbw'
  have HBW := hide hbw'
  have HEV := hide hevx
  have HN := hide (And.intro hn (And.intro h0 h2))
  have c6d : w.drew.cell? ⟨nb, 6, none⟩ = some (.int .i64 (n : Int)) := c6
  clear hbw' hevx hn h0 h2
  go_enter Tryd.func118, Tryd.ntmps118
  go_wp2_with fail
  go_still_tail 16, (by kernel_rfl)
  change wpList _ _ _ _ _ w.drew
  go_wp2_with fail
  refine henc.mono ?_
  rintro e w1 ⟨rfl, hSC⟩
  have hE1 := hE.drew.sc hSC
  obtain ⟨cs1, hblk, hbsz⟩ := hE.drew.blk
  have hK1 : KeepW W.bb w w1 := ((KeepW.refl _ _).drewN 1).trans (hSC.keepW hblk (by decide) hnw)
  have hI1 := hw.keep _ _ _ hI hK1
  have hB1 : Brk w1 b W.T W.v pb := by
    obtain ⟨cs, hb, r⟩ := hb
    exact ⟨cs, (hSC.other b (fun e => hnb e.symm)).trans hb, r⟩
  have hF1 : FrL W.B [W.bb, b, nb] w w1 := (FrL.refl _ _ w).drew.trans (hSC.frL hBn (by simp))
  have hS1 : Src w1 nb 7 (b64 pend) := hSC.src hblk (by rw [hbl, hbsz]; omega)
  have hst1 : Stay W.B [W.bb, b] w1 nb := by
    obtain ⟨cs2, hblk2, _⟩ := hE1.blk
    refine .inr ⟨by simp [hnb, hnw], _, hblk2, ?_⟩
    intro c fz e
    injection e with _ e2 _
    exact absurd e2 (by decide)
  have hpad : w1.cell? ⟨eb, 320, none⟩ = some (.int .i32 61) := (he.other (w' := w1) (hSC.other eb hen)).pad
  have hpl := hB1.lt
  have hbw := unhide HBW w1.drew (hw.keep _ _ _ hI1 ((KeepW.refl _ _).drewN 1)) hB1.drew (fun i x hx => hS1 i x hx) (fun _ => hst1) (by omega)
  have e11 := hE1.drew.c1
  have e21 := hE1.drew.c2
  have e61 : w1.drew.cell? ⟨nb, 6, none⟩ = some (.int .i64 (n : Int)) := by rw [(unhide HN).1]; exact hE1.drew.c6
  have hpad1 : w1.drew.cell? ⟨eb, 320, none⟩ = some (.int .i32 61) := hpad
  have hmeth := brk_meth b
  have hcall := brk_call
  clear HBW hbl hSC henc e1 hb hblk hbsz hK1 hI hS1 hst1 hB1 hI1 c0 c6 c6d hsl hpad
  have hbw2 : Calls Tryd.prog 115 #[.pointer (some ⟨b, 0, none⟩), .slice (some ⟨nb, 7, none⟩) 4 1024] w1.drew fun e w' => ∃ n3 : Int, e = .returned (.tuple #[.int .i64 n3, evx]) ∧ FrL W.B [W.bb, b] w1.drew w' ∧ P w' ∧ (evx = .nilIface → Brk w' b W.T W.v (remPart (pb ++ b64 pend))) := by
    refine hbw.mono ?_
    rintro e w' ⟨n3, ev3, rfl, hF3, hP3⟩
    rcases hP3 with ⟨q1, rfl, q2, q3⟩ | ⟨q1, rfl, q2⟩
    · rcases unhide HEV with ⟨h1, h2, h3⟩ | ⟨h1, _⟩
      · refine ⟨n3, by rw [h2], hF3, by rw [h3]; exact q2, fun _ => q3⟩
      · exact absurd q1 h1
    · rcases unhide HEV with ⟨h1, _⟩ | ⟨h1, h2, h3⟩
      · exact absurd h1 q1
      · refine ⟨n3, by rw [h2, hev], hF3, by rw [h3]; exact q2, fun h => by rw [h2] at h; cases h⟩
  clear hbw
  have hlen := encLen_any eb n w1.drew (by omega) (by omega) hpad1
  have HE1 := hE1
  have hcase : evx = .nilIface ∨ evx = .iface Te ve := by
    rcases unhide HEV with ⟨_, h, _⟩ | ⟨_, h, _⟩
    · exact .inl h
    · exact .inr h
  clear HEV
  go_wp2_with fail
  rcases hcase with rfl | rfl
  all_goals (
    go_region_held3 (fun w' => w'.cell? ⟨nb, 2, none⟩ = some (.iface 110 (.pointer (some ⟨b, 0, none⟩))) ∧ w'.cell? ⟨nb, 1, none⟩ = some (.pointer (some ⟨eb, 0, none⟩)) ∧ w'.cell? ⟨nb, 6, none⟩ = some (.int .i64 (n : Int)) ∧ w'.cell? ⟨eb, 320, none⟩ = some (.int .i32 61))
      (first | exact ⟨by assumption, by assumption, by assumption, by assumption⟩ | (refine ⟨?_, ?_, ?_, ?_⟩ <;> (rw [World.cell?_setCell_other _ _ _ _ (by simp [hen, Ne.symm hen])]; assumption)) | go_keep)
      (first
       | (go_at_call 121; refine hlen.mono ?_; rintro e w2 ⟨rfl, rfl⟩)
       | (go_at_call 115; refine hbw2.mono ?_; rintro e w3 ⟨n3, rfl, hF3, hI3, hB3⟩
          have hE3 := hE1.drew.frL hF3 (by simp [hnb, hnw])
          have he3 := (he.fr (hF1.drew.trans (hF3.mono (cs := [W.bb, b, nb]) (by simp))) (by simp [heb, hew, hen])).pad
          have e13 := hE3.c1
          have e23 := hE3.c2
          have e63 : w3.cell? ⟨nb, 6, none⟩ = some (.int .i64 (n : Int)) := by rw [(unhide HN).1]; exact hE3.c6
          have e03 := hE3.c0
          have f03 := hE3.f 0
          have f63 := hE3.f 6)))
  all_goals go_wp2
  all_goals go_ret
  all_goals (
    obtain ⟨cs3, hblk3, hsz3⟩ := hE3.blk
    have hF4 := hF1.drew.trans (hF3.mono (cs := [W.bb, b, nb]) (by simp))
    have hK4 := fun u : Value => hP _ _ hI3 (((KeepW.refl _ _).setCell hblk3 (by decide) hnw 0 u).setCell (heap_set_same hblk3 u) (by decide) hnw 6 (.int .i64 0))
    have hF5 := fun u : Value => (hF4.setCell hBn (by simp) 0 u).setCell hBn (by simp) 6 (.int .i64 0)
    first
      | exact ⟨rfl, hF5 _, hK4 _⟩
      | (refine ⟨rfl, hF5 _, hK4 _, ?_⟩
         obtain ⟨cs, hb, r⟩ := hB3 (by first | rfl | trivial)
         exact ⟨cs, (Below.heap_setCell _ _ _ _ (fun e => hnb e.symm)).trans ((Below.heap_setCell _ _ _ _ (fun e => hnb e.symm)).trans hb), r⟩)
      | (refine ⟨rfl, hF5 _, hK4 _, fun h => ?_⟩
         obtain ⟨cs, hb, r⟩ := hB3 h
         exact ⟨cs, (Below.heap_setCell _ _ _ _ (fun e => hnb e.symm)).trans ((Below.heap_setCell _ _ _ _ (fun e => hnb e.symm)).trans hb), r⟩)
      | (refine ⟨rfl, hF5 _, hK4 _, fun h => ?_⟩
         cases h))

theorem encClose_any (W : Wr) (hw : WrOK W) (b nb eb : Nat) (hbb : b ≠ W.bb) (hBb : W.B ≤ b) (hnb : nb ≠ b) (hnw : nb ≠ W.bb) (hBn : W.B ≤ nb) (heb : eb ≠ b) (hew : eb ≠ W.bb) (hen : eb ≠ nb)
   (acc pb pend : List UInt8) (w : World) (hI : W.Inv acc w) (hb : Brk w b W.T W.v pb) (hE : ESt w nb eb b pend) (he : Enc w eb) (h2 : pend.length ≤ 2) (hsz : acc.length ≤ 17592186044416) :
    Calls Tryd.prog 118 #[.pointer (some ⟨nb, 0, none⟩)] w fun e w' => ∃ ev, e = .returned ev ∧ FrL W.B [W.bb, b, nb] w w' ∧
      ((Fits W.lim (acc ++ fullLines (pb ++ b64 pend)).length ∧ ev = .nilIface ∧ W.Inv (acc ++ fullLines (pb ++ b64 pend)) w' ∧ Brk w' b W.T W.v (remPart (pb ++ b64 pend))) ∨
       (¬ Fits W.lim (acc ++ fullLines (pb ++ b64 pend)).length ∧ ev = W.ev ∧ W.Fin (cut W.lim (acc ++ fullLines (pb ++ b64 pend))) w')) := by
  by_cases h0 : pend = []
  · subst h0
    refine (encClose_nil nb eb b w hE).mono ?_
    rintro e w' ⟨rfl, rfl⟩
    have hlt := hb.lt
    have e1 : pb ++ b64 [] = pb := by rw [show b64 [] = [] from rfl, List.append_nil]
    rw [e1, fullLines_small hlt, remPart_small hlt, List.append_nil]
    exact ⟨_, rfl, FrL.refl _ _ _, .inl ⟨hw.fits _ _ hI, rfl, hI, hb⟩⟩
  · have h1 : 0 < pend.length := List.length_pos_iff.2 h0
    obtain ⟨Te, ve, hev⟩ := hw.ev_ne
    by_cases hf : Fits W.lim (acc ++ fullLines (pb ++ b64 pend)).length
    · refine (encClose_some W hw b nb eb hbb hBb hnb hnw hBn heb hew hen acc pb pend w hI hb hE he h1 h2 hsz Te ve .nilIface hev (fun w' => W.Inv (acc ++ fullLines (pb ++ b64 pend)) w') (fun w1 w2 h k => hw.keep _ _ _ h k) (.inl ⟨hf, rfl, rfl⟩)).mono ?_
      rintro e w' ⟨rfl, g1, g2, g3⟩
      exact ⟨_, rfl, g1, .inl ⟨hf, rfl, g2, g3 rfl⟩⟩
    · refine (encClose_some W hw b nb eb hbb hBb hnb hnw hBn heb hew hen acc pb pend w hI hb hE he h1 h2 hsz Te ve (.iface Te ve) hev (fun w' => W.Fin (cut W.lim (acc ++ fullLines (pb ++ b64 pend))) w') (fun w1 w2 h k => hw.keepF _ _ _ h k) (.inr ⟨hf, rfl, rfl⟩)).mono ?_
      rintro e w' ⟨rfl, g1, g2, g3⟩
      exact ⟨_, rfl, g1, .inr ⟨hf, hev.symm, g2⟩⟩
end Go.Proofs.YtpjehmblndjknaaDoor
