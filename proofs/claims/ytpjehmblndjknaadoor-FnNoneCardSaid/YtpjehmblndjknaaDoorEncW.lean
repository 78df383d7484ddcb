/-
  Walk: (*base64.encoder).Write over the lineBreaker, its buffer empty.
-/
import Derived.Test.YtpjehmblndjknaaDoorEnc
namespace Go.Proofs.YtpjehmblndjknaaDoor
open Go.RowKit
set_option linter.unusedSimpArgs false
set_option linter.unusedVariables false

theorem brk_meth (b : Nat) (w : World) : (method methFuel 110 (.pointer (some ⟨b, 0, none⟩)) "Write").run Tryd.prog w = .ok (115, .pointer (some ⟨b, 0, none⟩)) w := by kernel_rfl
theorem brk_call (args : Array Value) (w : World) : (callFunc 115 args).run Tryd.prog w = .ok (.enter 115 args) w := by kernel_rfl

theorem wraps_i64 (n : Int) (h0 : 0 ≤ n) (h1 : n < 4294967296) : IntKind.i64.wrap n = n := by rw [IntKind.wrap_i64]; omega
theorem wrap_quo (nn k m : Nat) (h : nn ≤ 768) (hk : nn = 3 * k) (hm : m = 4 * k) : IntKind.i64.wrap (IntKind.i64.wrap ((nn : Int) / 3) * 4) = (m : Int) := by
  have e : (nn : Int) / 3 = (k : Int) := by omega
  rw [e, wraps_i64 (k : Int) (by omega) (by omega), wraps_i64 ((k : Int) * 4) (by omega) (by omega)]
  omega

theorem enc_step (d : List UInt8) (j k nn : Nat) (hk : nn = 3 * k) (h : 3 * j + nn ≤ d.length) :
    fullLines (b64 (d.take (3 * (j + k)))) = fullLines (b64 (d.take (3 * j))) ++ fullLines (remPart (b64 (d.take (3 * j))) ++ b64 ((d.drop (3 * j)).take nn)) ∧
    remPart (b64 (d.take (3 * (j + k)))) = remPart (remPart (b64 (d.take (3 * j))) ++ b64 ((d.drop (3 * j)).take nn)) := by
  have e : d.take (3 * (j + k)) = d.take (3 * j) ++ (d.drop (3 * j)).take nn := by
    rw [show 3 * (j + k) = 3 * j + nn by omega, List.take_add]
  rw [e, b64_append j _ _ (by rw [List.length_take]; omega)]
  exact lines_step _ _ _ (Nat.le_refl _)
theorem enc_more (d : List UInt8) (i n : Nat) (h : i ≤ n) : ∃ r, fullLines (b64 (d.take (3 * n))) = fullLines (b64 (d.take (3 * i))) ++ r := by
  by_cases hl : 3 * i ≤ d.length
  · have e : d.take (3 * n) = d.take (3 * i) ++ (d.drop (3 * i)).take (3 * n - 3 * i) := by
      rw [← List.take_add]; congr 1; omega
    rw [e, b64_append i _ _ (by rw [List.length_take]; omega)]
    exact ⟨_, (lines_step _ _ _ (Nat.le_refl _)).1⟩
  · rw [List.take_of_length_le (show d.length ≤ 3 * n by omega), List.take_of_length_le (show d.length ≤ 3 * i by omega)]
    exact ⟨[], by simp⟩
theorem enc_size (d acc : List UInt8) (j m : Nat) (hj : 3 * j ≤ d.length) (hsz : acc.length + 8 * d.length ≤ 17592186044416) (hm : m ≤ 1024) :
    (acc ++ fullLines (b64 (d.take (3 * j)))).length + 2 * ((remPart (b64 (d.take (3 * j)))).length + m) ≤ 70368744177664 := by
  have h1 : (b64 (d.take (3 * j))).length = 4 * j := b64_length3 j _ (by rw [List.length_take]; omega)
  have h2 := fullLines_len _ (b64 (d.take (3 * j))) (Nat.le_refl _)
  have h3 := remPart_lt _ (b64 (d.take (3 * j))) (Nat.le_refl _)
  rw [List.length_append]
  omega
theorem fits_of {W : Wr} (hw : WrOK W) {acc : List UInt8} {w : World} (h : W.Inv acc w) : Fits W.lim acc.length := hw.fits _ _ h

/-- What the encoder's Write leaves. -/
def EncPost (W : Wr) (b nb eb : Nat) (acc d : List UInt8) (w : World) (ev : Value) (w' : World) : Prop :=
  FrL W.B [W.bb, b, nb] w w' ∧ ((Fits W.lim (acc ++ fullLines (b64 (d.take (3 * (d.length / 3))))).length ∧ ev = .nilIface ∧ W.Inv (acc ++ fullLines (b64 (d.take (3 * (d.length / 3))))) w' ∧ Brk w' b W.T W.v (remPart (b64 (d.take (3 * (d.length / 3))))) ∧ ESt w' nb eb b (d.drop (3 * (d.length / 3)))) ∨
    (¬ Fits W.lim (acc ++ fullLines (b64 (d.take (3 * (d.length / 3))))).length ∧ ev = W.ev ∧ W.Fin (cut W.lim (acc ++ fullLines (b64 (d.take (3 * (d.length / 3)))))) w'))

set_option maxRecDepth 100000 in
set_option maxHeartbeats 1600000 in
theorem encW_any (W : Wr) (hw : WrOK W) (b nb eb : Nat) (hbb : b ≠ W.bb) (hBb : W.B ≤ b) (hnb : nb ≠ b) (hnw : nb ≠ W.bb) (hBn : W.B ≤ nb) (heb : eb ≠ b) (hew : eb ≠ W.bb) (hen : eb ≠ nb)
   (acc d : List UInt8) (p : Option Addr) (sb so c : Nat) (w : World) (hI : W.Inv acc w) (hb : Brk w b W.T W.v []) (hE : ESt w nb eb b []) (he : Enc w eb)
   (hp : d ≠ [] → p = some ⟨sb, so, none⟩) (hs : Src w sb so d) (hsb : sb < W.B) (hdc : d.length ≤ c) (hc : c ≤ 9223372036854775807) (hsz : acc.length + 8 * d.length ≤ 17592186044416) :
    Calls Tryd.prog 119 #[.pointer (some ⟨nb, 0, none⟩), .slice p d.length c] w fun e w' => ∃ (n : Int) (ev : Value), e = .returned (.tuple #[.int .i64 n, ev]) ∧ EncPost W b nb eb acc d w ev w' := by
  have c0 := hE.c0
  have c6 : w.cell? ⟨nb, 6, none⟩ = some (.int .i64 0) := hE.c6
  have HE0 := hide hE
  have HR0 : Hid (W.Inv (acc ++ fullLines (b64 (d.take 0))) w ∧ Brk w b W.T W.v (remPart (b64 (d.take 0))) ∧ ESt w nb eb b [] ∧ FrL W.B [W.bb, b, nb] w w) := by
    refine ⟨?_, ?_, hE, FrL.refl _ _ _⟩
    · rw [List.take_zero, show b64 [] = [] from rfl, fullLines_small (by decide), List.append_nil]; exact hI
    · rw [List.take_zero, show b64 [] = [] from rfl, remPart_small (by decide)]; exact hb
  have HS := hide hs
  have HP := hide hp
  have HN := hide hsz
  have HEN := hide he
  have HIDX := hide (And.intro hbb (And.intro hBb (And.intro hnb (And.intro hnw (And.intro hBn (And.intro heb (And.intro hew (And.intro hen hsb))))))))
  clear hI hb hE hs hp hsz he hbb hBb hnb hnw hBn heb hew hen hsb
  have hd63 : d.length ≤ 9223372036854775807 := by omega
  go_enter Tryd.func119, Tryd.ntmps119
  go_wp2_with fail
  go_loopw [1, 4, 5] (fun vp vn ve wr => ∃ (j L : Nat) (q : Option Addr), 3 * j + L = d.length ∧ vp = .slice q L (c - 3 * j) ∧ vn = .int .i64 ((3 * j : Nat) : Int) ∧ ve = .nilIface ∧ Hid (0 < L → q = some ⟨sb, so + 3 * j, none⟩) ∧ Hid (W.Inv (acc ++ fullLines (b64 (d.take (3 * j)))) wr ∧ Brk wr b W.T W.v (remPart (b64 (d.take (3 * j)))) ∧ ESt wr nb eb b [] ∧ FrL W.B [W.bb, b, nb] w wr)) (fun vp _ _ _ => match vp with | .slice _ n _ => n | _ => 0)
  case atStart =>
    refine ⟨0, d.length, p, by omega, rfl, rfl, rfl, fun h => unhide HP (List.length_pos_iff.1 h), unhide HR0⟩
  case round =>
    obtain ⟨j, L, q, hjL, rfl, rfl, rfl, HQ, HR⟩ := hrel
    by_cases h3 : 3 ≤ L
    · obtain ⟨rI, rB, rE, rF⟩ := unhide HR
      obtain rfl := unhide HQ (by omega)
      obtain ⟨x1, x2, x3, x4, x5, x6, x7, x8, x9⟩ := unhide HIDX
      have e1 := rE.drew.c1
      have e2 := rE.drew.c2
      by_cases hA : 768 ≤ L
      · obtain ⟨nn, hnn⟩ : ∃ nn, nn = 768 := ⟨_, rfl⟩
        obtain ⟨k, hk⟩ : ∃ k, nn = 3 * k := ⟨256, hnn⟩
        have hnL : nn ≤ L := by omega
        have hn7 : nn ≤ 768 := by omega
        have hn3 : 3 ≤ nn := by omega
        have hgt : ¬ ((768 : Int) > (L : Int)) := by omega
        go_wp2_with fail
        rw [show (Value.int .i64 768) = Value.int .i64 (nn : Int) by rw [hnn]; rfl]
        clear hnn hgt hA
        have hcl : ((d.drop (3 * j)).take nn).length = nn := by rw [List.length_take, List.length_drop]; omega
        have hsl := slice_to sb (so + 3 * j) L (c - 3 * j) nn (by omega)
        obtain ⟨m, hm⟩ : ∃ m, m = 4 * k := ⟨_, rfl⟩
        have hsl2 := slice_arr0 131 1024 (by decide) Tryd.underlying131 nb 7 m (by omega)
        have hwrap : IntKind.i64.wrap (IntKind.i64.wrap ((nn : Int) / 3) * 4) = (m : Int) := wrap_quo nn k m hn7 hk hm
        have hbl : (b64 ((d.drop (3 * j)).take nn)).length = m := (b64_length3 k _ (by rw [hcl]; omega)).trans hm.symm
        have hsrc : Src wr.drew sb (so + 3 * j) ((d.drop (3 * j)).take nn) := ((unhide HS).below rF.1 x9 |>.drop (3 * j)).take nn
        have henW : Enc wr.drew eb := (unhide HEN).fr rF.drew (by simp [x7, x6, x8])
        have henc := encode_any eb nb 7 sb (so + 3 * j) (some ⟨sb, so + 3 * j, none⟩) ((d.drop (3 * j)).take nn) 1024 1024 (c - 3 * j) wr.drew henW x8 (fun _ => rfl) hsrc (.inl (by omega)) rE.drew.there (fun i => rE.drew.f i) (by rw [hbl]; omega) (by omega) (by rw [hcl]; omega) (by omega) (by omega)
        rw [hcl] at henc
        have hsz := unhide HN
        have HK := hide (And.intro hk (And.intro hm (And.intro hcl hbl)))
        have hbw' := fun (w1 : World) q1 q2 q3 q4 q5 => brk_write W hw b x1 x2 m (b64 ((d.drop (3 * j)).take nn)) (acc ++ fullLines (b64 (d.take (3 * j)))) (remPart (b64 (d.take (3 * j)))) (some ⟨nb, 7, none⟩) nb 7 1024 w1 (by rw [hbl]; omega) (fun _ => rfl) q1 q2 q3 q4 (by rw [hbl]; omega) q5
        rw [hbl] at hbw'
        have HBW := hide hbw'
        clear hsrc henW hbw' hk hcl hm
        go_still_tail 11, (by kernel_rfl)
        change wpList _ _ _ _ _ wr.drew
        go_wp2_with fail
        refine henc.mono ?_
        rintro e w1 ⟨rfl, hSC⟩
        have hE1 := rE.drew.sc hSC
        obtain ⟨cs1, hblk, hbsz⟩ := rE.drew.blk
        have hK1 : KeepW W.bb wr w1 := ((KeepW.refl _ _).drewN 1).trans (hSC.keepW hblk (by decide) x4)
        have hI1 := hw.keep _ _ _ rI hK1
        have hB1 : Brk w1 b W.T W.v (remPart (b64 (d.take (3 * j)))) := by
          obtain ⟨cs, hb, r⟩ := rB
          exact ⟨cs, (hSC.other b (fun e => x3 e.symm)).trans hb, r⟩
        have hF1 : FrL W.B [W.bb, b, nb] w w1 := rF.drew.trans (hSC.frL x5 (by simp))
        have hk := (unhide HK).1
        have hm := (unhide HK).2.1
        have hS1 : Src w1 nb 7 (b64 ((d.drop (3 * j)).take nn)) := hSC.src hblk (by rw [hbl, hbsz]; omega)
        clear hk hm
        have hst1 : Stay W.B [W.bb, b] w1 nb := by
          obtain ⟨cs2, hblk2, _⟩ := hE1.blk
          refine .inr ⟨by simp [x3, x4], _, hblk2, ?_⟩
          intro c fz e
          injection e with _ e2 _
          exact absurd e2 (by decide)
        clear hSC henc e1 e2 rB hblk hbsz hK1 rI
        have e21 := hE1.drew.c2
        have hbw := unhide HBW w1.drew (hw.keep _ _ _ hI1 ((KeepW.refl _ _).drewN 1)) hB1.drew (fun i x hx => hS1 i x hx) (fun _ => hst1) (enc_size d acc j m (by omega) hsz (by have := (unhide HK).1; have := (unhide HK).2.1; omega))
        clear HBW hbl
        have hmeth := brk_meth b
        have hcall := brk_call
        clear hS1 hst1 hB1 hI1
        go_wp2_with fail
        obtain ⟨Te, ve, hev⟩ := hw.ev_ne
        by_cases hfit : Fits W.lim (acc ++ fullLines (b64 (d.take (3 * j))) ++ fullLines (remPart (b64 (d.take (3 * j))) ++ b64 ((d.drop (3 * j)).take nn))).length
        · skip
          have hbw2 : Calls Tryd.prog 115 #[.pointer (some ⟨b, 0, none⟩), .slice (some ⟨nb, 7, none⟩) m 1024] w1.drew fun e w' => ∃ n3 : Int, e = .returned (.tuple #[.int .i64 n3, .nilIface]) ∧ FrL W.B [W.bb, b] w1.drew w' ∧ W.Inv (acc ++ fullLines (b64 (d.take (3 * j))) ++ fullLines (remPart (b64 (d.take (3 * j))) ++ b64 ((d.drop (3 * j)).take nn))) w' ∧ Brk w' b W.T W.v (remPart (remPart (b64 (d.take (3 * j))) ++ b64 ((d.drop (3 * j)).take nn))) := by
            refine hbw.mono ?_
            rintro e w' ⟨n3, ev3, rfl, hF3, hP3⟩
            rcases hP3 with ⟨q1, rfl, q2, q3⟩ | ⟨q1, rfl, q2⟩
            · exact ⟨n3, rfl, hF3, q2, q3⟩
            · exact absurd hfit q1
          clear hbw
          go_region_held3 (fun w' => w'.cell? ⟨nb, 2, none⟩ = some (.iface 110 (.pointer (some ⟨b, 0, none⟩)))) (first | assumption | (rw [World.cell?_setCell_other _ _ _ _ (by simp)]; assumption) | go_keep)
            (first
             | (refine hbw2.mono ?_; rintro e w3 ⟨n3, rfl, hF3, hI3, hB3⟩
                have hE3 := hE1.drew.frL hF3 (by simp [x3, x4])
                have e23 := hE3.c2
                have e03 := hE3.c0
                have f03 := hE3.f 0))
          clear hbw2 e21 hE1 hsl hsl2 hwrap hmeth hcall
          go_wp2_with fail
          obtain ⟨hk, hm, hcl, hbl⟩ := unhide HK
          obtain ⟨s1, s2⟩ := enc_step d j k nn hk (by omega)
          have hF4 : FrL W.B [W.bb, b, nb] w (w3.setCell ⟨nb, 0, none⟩ .nilIface) := ((hF1.drew.trans (hF3.mono (by simp))).setCell x5 (by simp) _ _)
          obtain ⟨cs3, hblk3, _⟩ := hE3.blk
          refine ⟨⟨j + k, L - nn, (if c - 3 * j = nn then some ⟨sb, so + 3 * j, none⟩ else some ⟨sb, so + 3 * j + nn, none⟩), by omega, ?_, ?_, rfl, hide ?_, hide ⟨?_, ?_, ?_, hF4⟩⟩, ?_⟩
          · rw [show c - 3 * j - nn = c - 3 * (j + k) by omega]
          · congr 1; push_cast; omega
          · intro h; rw [if_neg (by omega)]; rw [show so + 3 * j + nn = so + 3 * (j + k) by omega]
          · rw [s1, ← List.append_assoc]; exact hw.keep _ _ _ hI3 ((KeepW.refl _ _).setCell hblk3 (by decide) x4 _ _)
          · rw [s2]
            obtain ⟨cs, hb, r⟩ := hB3
            exact ⟨cs, (Below.heap_setCell _ _ _ _ (fun e => x3 e.symm)).trans hb, r⟩
          · exact hE3.err
          · show L - nn < L
            omega
        · skip
          have hbw2 : Calls Tryd.prog 115 #[.pointer (some ⟨b, 0, none⟩), .slice (some ⟨nb, 7, none⟩) m 1024] w1.drew fun e w' => ∃ n3 : Int, e = .returned (.tuple #[.int .i64 n3, .iface Te ve]) ∧ FrL W.B [W.bb, b] w1.drew w' ∧ W.Fin (cut W.lim (acc ++ fullLines (b64 (d.take (3 * j))) ++ fullLines (remPart (b64 (d.take (3 * j))) ++ b64 ((d.drop (3 * j)).take nn)))) w' := by
            refine hbw.mono ?_
            rintro e w' ⟨n3, ev3, rfl, hF3, hP3⟩
            rcases hP3 with ⟨q1, rfl, q2, q3⟩ | ⟨q1, rfl, q2⟩
            · exact absurd q1 hfit
            · exact ⟨n3, by rw [hev], hF3, q2⟩
          clear hbw
          go_region_held3 (fun w' => w'.cell? ⟨nb, 2, none⟩ = some (.iface 110 (.pointer (some ⟨b, 0, none⟩)))) (first | assumption | (rw [World.cell?_setCell_other _ _ _ _ (by simp)]; assumption) | go_keep)
            (first
             | (refine hbw2.mono ?_; rintro e w3 ⟨n3, rfl, hF3, hI3⟩
                have hE3 := hE1.drew.frL hF3 (by simp [x3, x4])
                have e23 := hE3.c2
                have e03 := hE3.c0
                have f03 := hE3.f 0))
          clear hbw2 e21 hE1 hsl hsl2 hwrap hmeth hcall
          go_wp2_with fail
          go_quiet (fail)
          go_wp2
          go_ret2
          obtain ⟨hk, hm, hcl, hbl⟩ := unhide HK
          obtain ⟨s1, s2⟩ := enc_step d j k nn hk (by omega)
          have hF4 : FrL W.B [W.bb, b, nb] w ((w3.setCell ⟨nb, 0, none⟩ (.iface Te ve)).drewN nq) := ((hF1.drew.trans (hF3.mono (by simp))).setCell x5 (by simp) _ _).drewN _
          obtain ⟨cs3, hblk3, _⟩ := hE3.blk
          obtain ⟨r, hr⟩ := enc_more d (j + k) (d.length / 3) (by omega)
          obtain ⟨q1, q2⟩ := cut_prefix (r := r) hfit (show acc ++ fullLines (b64 (d.take (3 * (d.length / 3)))) = acc ++ fullLines (b64 (d.take (3 * j))) ++ fullLines (remPart (b64 (d.take (3 * j))) ++ b64 ((d.drop (3 * j)).take nn)) ++ r by rw [hr, s1]; simp only [List.append_assoc])
          refine ⟨_, _, rfl, hF4, .inr ⟨q1, hev.symm, ?_⟩⟩
          rw [q2]
          exact hw.keepF _ _ _ hI3 (((KeepW.refl _ _).setCell hblk3 (by decide) x4 _ _).drewN _)
      · obtain ⟨nn, hnn⟩ : ∃ nn, nn = L - L % 3 := ⟨_, rfl⟩
        obtain ⟨k, hk⟩ : ∃ k, nn = 3 * k := ⟨L / 3, by omega⟩
        have hnL : nn ≤ L := by omega
        have hn7 : nn ≤ 768 := by omega
        have hn3 : 3 ≤ nn := by omega
        have hgt : (L : Int) < 768 := by omega
        have hz : (L : Int) - (L : Int) % 3 = (nn : Int) := by omega
        have Hk := hide hk
        clear hnn hk
        go_wp2_with fail
        have hk := unhide Hk
        clear hgt hz hA Hk
        have hcl : ((d.drop (3 * j)).take nn).length = nn := by rw [List.length_take, List.length_drop]; omega
        have hsl := slice_to sb (so + 3 * j) L (c - 3 * j) nn (by omega)
        obtain ⟨m, hm⟩ : ∃ m, m = 4 * k := ⟨_, rfl⟩
        have hsl2 := slice_arr0 131 1024 (by decide) Tryd.underlying131 nb 7 m (by omega)
        have hwrap : IntKind.i64.wrap (IntKind.i64.wrap ((nn : Int) / 3) * 4) = (m : Int) := wrap_quo nn k m hn7 hk hm
        have hbl : (b64 ((d.drop (3 * j)).take nn)).length = m := (b64_length3 k _ (by rw [hcl]; omega)).trans hm.symm
        have hsrc : Src wr.drew sb (so + 3 * j) ((d.drop (3 * j)).take nn) := ((unhide HS).below rF.1 x9 |>.drop (3 * j)).take nn
        have henW : Enc wr.drew eb := (unhide HEN).fr rF.drew (by simp [x7, x6, x8])
        have henc := encode_any eb nb 7 sb (so + 3 * j) (some ⟨sb, so + 3 * j, none⟩) ((d.drop (3 * j)).take nn) 1024 1024 (c - 3 * j) wr.drew henW x8 (fun _ => rfl) hsrc (.inl (by omega)) rE.drew.there (fun i => rE.drew.f i) (by rw [hbl]; omega) (by omega) (by rw [hcl]; omega) (by omega) (by omega)
        rw [hcl] at henc
        have hsz := unhide HN
        have HK := hide (And.intro hk (And.intro hm (And.intro hcl hbl)))
        have hbw' := fun (w1 : World) q1 q2 q3 q4 q5 => brk_write W hw b x1 x2 m (b64 ((d.drop (3 * j)).take nn)) (acc ++ fullLines (b64 (d.take (3 * j)))) (remPart (b64 (d.take (3 * j)))) (some ⟨nb, 7, none⟩) nb 7 1024 w1 (by rw [hbl]; omega) (fun _ => rfl) q1 q2 q3 q4 (by rw [hbl]; omega) q5
        rw [hbl] at hbw'
        have HBW := hide hbw'
        clear hsrc henW hbw' hk hcl hm
        go_still_tail 11, (by kernel_rfl)
        change wpList _ _ _ _ _ wr.drew
        go_wp2_with fail
        refine henc.mono ?_
        rintro e w1 ⟨rfl, hSC⟩
        have hE1 := rE.drew.sc hSC
        obtain ⟨cs1, hblk, hbsz⟩ := rE.drew.blk
        have hK1 : KeepW W.bb wr w1 := ((KeepW.refl _ _).drewN 1).trans (hSC.keepW hblk (by decide) x4)
        have hI1 := hw.keep _ _ _ rI hK1
        have hB1 : Brk w1 b W.T W.v (remPart (b64 (d.take (3 * j)))) := by
          obtain ⟨cs, hb, r⟩ := rB
          exact ⟨cs, (hSC.other b (fun e => x3 e.symm)).trans hb, r⟩
        have hF1 : FrL W.B [W.bb, b, nb] w w1 := rF.drew.trans (hSC.frL x5 (by simp))
        have hk := (unhide HK).1
        have hm := (unhide HK).2.1
        have hS1 : Src w1 nb 7 (b64 ((d.drop (3 * j)).take nn)) := hSC.src hblk (by rw [hbl, hbsz]; omega)
        clear hk hm
        have hst1 : Stay W.B [W.bb, b] w1 nb := by
          obtain ⟨cs2, hblk2, _⟩ := hE1.blk
          refine .inr ⟨by simp [x3, x4], _, hblk2, ?_⟩
          intro c fz e
          injection e with _ e2 _
          exact absurd e2 (by decide)
        clear hSC henc e1 e2 rB hblk hbsz hK1 rI
        have e21 := hE1.drew.c2
        have hbw := unhide HBW w1.drew (hw.keep _ _ _ hI1 ((KeepW.refl _ _).drewN 1)) hB1.drew (fun i x hx => hS1 i x hx) (fun _ => hst1) (enc_size d acc j m (by omega) hsz (by have := (unhide HK).1; have := (unhide HK).2.1; omega))
        clear HBW hbl
        have hmeth := brk_meth b
        have hcall := brk_call
        clear hS1 hst1 hB1 hI1
        go_wp2_with fail
        obtain ⟨Te, ve, hev⟩ := hw.ev_ne
        by_cases hfit : Fits W.lim (acc ++ fullLines (b64 (d.take (3 * j))) ++ fullLines (remPart (b64 (d.take (3 * j))) ++ b64 ((d.drop (3 * j)).take nn))).length
        · skip
          have hbw2 : Calls Tryd.prog 115 #[.pointer (some ⟨b, 0, none⟩), .slice (some ⟨nb, 7, none⟩) m 1024] w1.drew fun e w' => ∃ n3 : Int, e = .returned (.tuple #[.int .i64 n3, .nilIface]) ∧ FrL W.B [W.bb, b] w1.drew w' ∧ W.Inv (acc ++ fullLines (b64 (d.take (3 * j))) ++ fullLines (remPart (b64 (d.take (3 * j))) ++ b64 ((d.drop (3 * j)).take nn))) w' ∧ Brk w' b W.T W.v (remPart (remPart (b64 (d.take (3 * j))) ++ b64 ((d.drop (3 * j)).take nn))) := by
            refine hbw.mono ?_
            rintro e w' ⟨n3, ev3, rfl, hF3, hP3⟩
            rcases hP3 with ⟨q1, rfl, q2, q3⟩ | ⟨q1, rfl, q2⟩
            · exact ⟨n3, rfl, hF3, q2, q3⟩
            · exact absurd hfit q1
          clear hbw
          go_region_held3 (fun w' => w'.cell? ⟨nb, 2, none⟩ = some (.iface 110 (.pointer (some ⟨b, 0, none⟩)))) (first | assumption | (rw [World.cell?_setCell_other _ _ _ _ (by simp)]; assumption) | go_keep)
            (first
             | (refine hbw2.mono ?_; rintro e w3 ⟨n3, rfl, hF3, hI3, hB3⟩
                have hE3 := hE1.drew.frL hF3 (by simp [x3, x4])
                have e23 := hE3.c2
                have e03 := hE3.c0
                have f03 := hE3.f 0))
          clear hbw2 e21 hE1 hsl hsl2 hwrap hmeth hcall
          go_wp2_with fail
          obtain ⟨hk, hm, hcl, hbl⟩ := unhide HK
          obtain ⟨s1, s2⟩ := enc_step d j k nn hk (by omega)
          have hF4 : FrL W.B [W.bb, b, nb] w (w3.setCell ⟨nb, 0, none⟩ .nilIface) := ((hF1.drew.trans (hF3.mono (by simp))).setCell x5 (by simp) _ _)
          obtain ⟨cs3, hblk3, _⟩ := hE3.blk
          refine ⟨⟨j + k, L - nn, (if c - 3 * j = nn then some ⟨sb, so + 3 * j, none⟩ else some ⟨sb, so + 3 * j + nn, none⟩), by omega, ?_, ?_, rfl, hide ?_, hide ⟨?_, ?_, ?_, hF4⟩⟩, ?_⟩
          · rw [show c - 3 * j - nn = c - 3 * (j + k) by omega]
          · congr 1; push_cast; omega
          · intro h; rw [if_neg (by omega)]; rw [show so + 3 * j + nn = so + 3 * (j + k) by omega]
          · rw [s1, ← List.append_assoc]; exact hw.keep _ _ _ hI3 ((KeepW.refl _ _).setCell hblk3 (by decide) x4 _ _)
          · rw [s2]
            obtain ⟨cs, hb, r⟩ := hB3
            exact ⟨cs, (Below.heap_setCell _ _ _ _ (fun e => x3 e.symm)).trans hb, r⟩
          · exact hE3.err
          · show L - nn < L
            omega
        · skip
          have hbw2 : Calls Tryd.prog 115 #[.pointer (some ⟨b, 0, none⟩), .slice (some ⟨nb, 7, none⟩) m 1024] w1.drew fun e w' => ∃ n3 : Int, e = .returned (.tuple #[.int .i64 n3, .iface Te ve]) ∧ FrL W.B [W.bb, b] w1.drew w' ∧ W.Fin (cut W.lim (acc ++ fullLines (b64 (d.take (3 * j))) ++ fullLines (remPart (b64 (d.take (3 * j))) ++ b64 ((d.drop (3 * j)).take nn)))) w' := by
            refine hbw.mono ?_
            rintro e w' ⟨n3, ev3, rfl, hF3, hP3⟩
            rcases hP3 with ⟨q1, rfl, q2, q3⟩ | ⟨q1, rfl, q2⟩
            · exact absurd q1 hfit
            · exact ⟨n3, by rw [hev], hF3, q2⟩
          clear hbw
          go_region_held3 (fun w' => w'.cell? ⟨nb, 2, none⟩ = some (.iface 110 (.pointer (some ⟨b, 0, none⟩)))) (first | assumption | (rw [World.cell?_setCell_other _ _ _ _ (by simp)]; assumption) | go_keep)
            (first
             | (refine hbw2.mono ?_; rintro e w3 ⟨n3, rfl, hF3, hI3⟩
                have hE3 := hE1.drew.frL hF3 (by simp [x3, x4])
                have e23 := hE3.c2
                have e03 := hE3.c0
                have f03 := hE3.f 0))
          clear hbw2 e21 hE1 hsl hsl2 hwrap hmeth hcall
          go_wp2_with fail
          go_quiet (fail)
          go_wp2
          go_ret2
          obtain ⟨hk, hm, hcl, hbl⟩ := unhide HK
          obtain ⟨s1, s2⟩ := enc_step d j k nn hk (by omega)
          have hF4 : FrL W.B [W.bb, b, nb] w ((w3.setCell ⟨nb, 0, none⟩ (.iface Te ve)).drewN nq) := ((hF1.drew.trans (hF3.mono (by simp))).setCell x5 (by simp) _ _).drewN _
          obtain ⟨cs3, hblk3, _⟩ := hE3.blk
          obtain ⟨r, hr⟩ := enc_more d (j + k) (d.length / 3) (by omega)
          obtain ⟨q1, q2⟩ := cut_prefix (r := r) hfit (show acc ++ fullLines (b64 (d.take (3 * (d.length / 3)))) = acc ++ fullLines (b64 (d.take (3 * j))) ++ fullLines (remPart (b64 (d.take (3 * j))) ++ b64 ((d.drop (3 * j)).take nn)) ++ r by rw [hr, s1]; simp only [List.append_assoc])
          refine ⟨_, _, rfl, hF4, .inr ⟨q1, hev.symm, ?_⟩⟩
          rw [q2]
          exact hw.keepF _ _ _ hI3 (((KeepW.refl _ _).setCell hblk3 (by decide) x4 _ _).drewN _)
    · have hd3 : 3 * (d.length / 3) = 3 * j := by omega
      obtain ⟨rI, rB, rE, rF⟩ := unhide HR
      obtain ⟨x1, x2, x3, x4, x5, x6, x7, x8, x9⟩ := unhide HIDX
      obtain ⟨cs, hblk, hbsz⟩ := rE.blk
      have hdl : (d.drop (3 * j)).length = L := by rw [List.length_drop]; omega
      have hcp : (Builtin.copy_ #[22, 22] 3 #[.slice (some ⟨nb, 3, none⟩) 3 3, .slice q L (c - 3 * j)]).run Tryd.prog wr = .ok (.int .i64 (L : Int)) (wr.setCells nb 3 ((d.drop (3 * j)).map bv)) := by
        by_cases h0 : L = 0
        · have e : d.drop (3 * j) = [] := List.eq_nil_of_length_eq_zero (by omega)
          rw [h0, e]
          exact run_copy_none wr 22 22 3 5 _ _ 3 3 0 _ Tryd.underlying22 info_u8s rfl
        · have hsrc := ((unhide HS).below rF.1 x9).drop (3 * j)
          rw [unhide HQ (by omega)]
          have h := run_copy_cells (P := Tryd.prog) wr 22 22 3 5 nb 3 3 3 ⟨sb, so + 3 * j, none⟩ L (c - 3 * j) ((d.drop (3 * j)).map bv) Tryd.underlying22 info_u8s (by rw [List.length_map, hdl]; exact (Nat.min_eq_left (by omega)).symm)
            (fun i v hi => by
              rw [List.getElem?_map] at hi
              obtain ⟨x, hx, rfl⟩ := Option.map_eq_some_iff.1 hi
              rw [addr_add]
              exact hsrc i x hx)
            (fun i hi => by rw [List.length_map, hdl] at hi; rw [cell_of_heap hblk, Array.getElem?_eq_getElem (by omega)]; rfl) (fun i hi => frozen_of_heap hblk _) (bv_one _)
          rw [List.length_map, hdl] at h
          exact h
      obtain ⟨cs4, k1, k2, k3, k4⟩ := setCells_own nb ((d.drop (3 * j)).map bv) 3 wr cs _ _ hblk
      rw [List.length_map, hdl] at k3 k4
      have HX : Hid (ESt ((wr.setCells nb 3 ((d.drop (3 * j)).map bv)).setCell ⟨nb, 6, none⟩ (.int .i64 (L : Int))) nb eb b (d.drop (3 * j)) ∧ FrL W.B [W.bb, b, nb] w ((wr.setCells nb 3 ((d.drop (3 * j)).map bv)).setCell ⟨nb, 6, none⟩ (.int .i64 (L : Int))) ∧
          Brk ((wr.setCells nb 3 ((d.drop (3 * j)).map bv)).setCell ⟨nb, 6, none⟩ (.int .i64 (L : Int))) b W.T W.v (remPart (b64 (d.take (3 * j)))) ∧ W.Inv (acc ++ fullLines (b64 (d.take (3 * j)))) ((wr.setCells nb 3 ((d.drop (3 * j)).map bv)).setCell ⟨nb, 6, none⟩ (.int .i64 (L : Int)))) := by
        have hSC : SC wr nb 3 (d.drop (3 * j)) (wr.setCells nb 3 ((d.drop (3 * j)).map bv)) := ⟨0, rfl⟩
        refine ⟨?_, (rF.trans (hSC.frL x5 (by simp))).setCell x5 (by simp) _ _, ?_, hw.keep _ _ _ rI ((hSC.keepW hblk (by decide) x4).setCell k1 (by decide) x4 _ _)⟩
        · obtain ⟨cs0, g0, g1, g2, g3, g4, g5, g6, g7⟩ := rE
          obtain rfl : cs0 = cs := by
            rw [hblk] at g0
            injection (Option.some.inj g0) with e1 _ _
            exact e1.symm
          refine ⟨_, heap_set_same k1 _, by rw [Array.size_setIfInBounds]; omega, ?_, ?_, ?_, fun i x hx => ?_, ?_, by omega⟩
          · rw [Array.getElem?_setIfInBounds_ne (by omega), k3 0 (.inl (by omega))]; exact g2
          · rw [Array.getElem?_setIfInBounds_ne (by omega), k3 1 (.inl (by omega))]; exact g3
          · rw [Array.getElem?_setIfInBounds_ne (by omega), k3 2 (.inl (by omega))]; exact g4
          · have hi : i < (d.drop (3 * j)).length := (List.getElem?_eq_some_iff.1 hx).1
            rw [Array.getElem?_setIfInBounds_ne (by omega)]
            exact k4 (by omega) i _ (by rw [List.getElem?_map, hx]; rfl)
          · rw [Array.getElem?_setIfInBounds_self_of_lt (by omega), hdl]
        · obtain ⟨csb, hb, r⟩ := rB
          exact ⟨csb, (Below.heap_setCell _ _ _ _ (fun e => x3 e.symm)).trans ((hSC.other b (fun e => x3 e.symm)).trans hb), r⟩
      have c64 : ((wr.setCells nb 3 ((d.drop (3 * j)).map bv)).cell? ⟨nb, 6, none⟩).isSome = true := by
        rw [cell_of_heap k1, Array.getElem?_eq_getElem (by omega)]; rfl
      obtain ⟨y6, c64⟩ := Option.isSome_iff_exists.1 c64
      have f64 : (wr.setCells nb 3 ((d.drop (3 * j)).map bv)).frozen? ⟨nb, 6, none⟩ = false := frozen_of_heap k1 _
      have HD := hide (And.intro hd3 (And.intro (fits_of hw rI) hdl))
      clear hd3 hdl k1 k2 k3 k4 rI rB rE rF hblk hbsz
      generalize hW4 : wr.setCells nb 3 ((d.drop (3 * j)).map bv) = w4 at *
      go_wp2
      go_ret2
      obtain ⟨hd3, hfit, hdl⟩ := unhide HD
      obtain ⟨z1, z2, z3, z4⟩ := unhide HX
      refine ⟨_, _, rfl, z2, .inl ?_⟩
      rw [hd3]
      exact ⟨hfit, rfl, z4, z3, z1⟩
end Go.Proofs.YtpjehmblndjknaaDoor
