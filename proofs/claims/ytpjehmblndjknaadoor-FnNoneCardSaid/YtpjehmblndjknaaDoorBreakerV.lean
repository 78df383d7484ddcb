/-
  Walks of lineBreaker over whatever writer: Write where a line is filled.
-/
import Derived.Test.YtpjehmblndjknaaDoorBreakerW
namespace Go.Proofs.YtpjehmblndjknaaDoor
open Go.RowKit
set_option linter.unusedSimpArgs false
set_option linter.unusedVariables false

set_option maxRecDepth 100000 in
set_option maxHeartbeats 800000 in
theorem brk_no2 (W : Wr) (hw : WrOK W) (b : Nat) (acc pend d : List UInt8) (sb so c : Nat) (w : World) (hI : W.Inv acc w) (hb : Brk w b W.T W.v pend) (hne : b ≠ W.bb) (hBb : W.B ≤ b) (hs : Src w sb so d) (hst : Stay W.B [W.bb, b] w sb) (hdc : d.length ≤ c) (hge : 64 ≤ pend.length + d.length) (hsz : acc.length + (pend.length + d.length) ≤ 70368744177664) (hfit1 : Fits W.lim (acc.length + pend.length)) (hfit : ¬ Fits W.lim (acc.length + (pend.length + (64 - pend.length)))) :
    Calls Tryd.prog 115 #[.pointer (some ⟨b, 0, none⟩), .slice (some ⟨sb, so, none⟩) d.length c] w fun e w' => ∃ n : Int, e = .returned (.tuple #[.int .i64 n, W.ev]) ∧ W.Fin (cut W.lim (acc ++ pend ++ d.take (64 - pend.length))) w' ∧ FrL W.B [W.bb, b] w w' := by
  have c64 := hb.c64
  have c65 := hb.c65
  have hlt := hb.lt
  have hge' : ¬ ((pend.length : Int) + (d.length : Int) < 64) := by omega
  have hd : d.length ≤ 70368744177664 := by omega
  obtain ⟨f1, f2, f3, f4⟩ := big_facts hlt hge
  have hsl := slice_arr0 78 64 (by decide) Tryd.underlying78 b 0 pend.length (by omega)
  have hsl2 := slice_hi sb so d.length c (64 - pend.length) (by omega)
  rw [← f4] at hsl2
  have hm := hw.meth
  have hc := hw.call
  have kc := fun (w : World) (C : Array Value) (n c : Nat) => Lib.run_convert_bytes_const (P := Tryd.prog) w 22 5 C n c Tryd.underlying22 Tryd.underlying5
  have HS := hide hsz
  have hI0 : W.Inv acc w.drew := hw.keep _ _ _ hI (fun _ _ h _ => h)
  have hsn : sb ≠ W.bb := by
    rcases hst with h | ⟨h, _⟩
    · have := hw.base; omega
    · exact fun e => h (by simp [e])
  obtain ⟨Te, ve, hev⟩ := hw.ev_ne
  have HF4 := hide f4
  clear hsz f4
  go_enter Tryd.func115, Tryd.ntmps115
  go_wp2
  go_region_held3 (fun w' => w'.cell? ⟨b, 64, none⟩ = some (.int .i64 (pend.length : Int)) ∧ w'.cell? ⟨b, 65, none⟩ = some (.iface W.T W.v)) (first | exact ⟨by assumption, by assumption⟩ | go_keep)
    (first
     | (refine (hw.ok acc pend b 0 64 _ hI0 hb.drew.src hne (by omega) (by have := unhide HS; omega) hfit1).mono ?_; rintro e w1 ⟨rfl, hI1, hF1⟩
        have hb1 := hb.drew.fr hne hF1
        have c641 := hb1.c64
        have c651 := hb1.c65
        have f641 := hb1.f 64))
  have hF : FrL W.B [W.bb, b] w w1 := ((FrL.refl _ _ w).drew).trans (hF1.toL (by simp))
  have hs1 : Src w1 sb so d := hs.stay hst hF
  have hst1 := hst.fr hF
  have hI2 : W.Inv (acc ++ pend) (w1.setCell ⟨b, 64, none⟩ (.int .i64 0)).drew := by
    obtain ⟨cs, h1, _⟩ := hb1
    exact hw.keep _ _ _ hI1 (((KeepW.refl _ _).setCell h1 (by decide) hne _ _).drewN 1)
  have hF2 : FrL W.B [W.bb, b] w (w1.setCell ⟨b, 64, none⟩ (.int .i64 0)).drew := (hF.setCell hBb (by simp) _ _).drew
  have hs2 : Src (w1.setCell ⟨b, 64, none⟩ (.int .i64 0)).drew sb so (d.take (64 - pend.length)) := (hs.stay hst hF2).take _
  have hb2 : Brk (w1.setCell ⟨b, 64, none⟩ (.int .i64 0)).drew b W.T W.v [] := hb1.reset
  have c652 := hb2.c65
  clear hF1 hI1 hb hs hst hF hs1 hst1 c64 c65 hsl
  go_wp2
  have hwr := hw.no (acc ++ pend) (d.take (64 - pend.length)) sb so c _ hI2 hs2 hsn (by omega) (by have := unhide HS; rw [f3, List.length_append]; omega) (by rw [f3, List.length_append, Nat.add_assoc]; exact hfit)
  rw [f3] at hwr
  go_region_held3 (fun w' => w'.cell? ⟨b, 65, none⟩ = some (.iface W.T W.v)) (first | assumption | go_keep)
    (first
     | (refine hwr.mono ?_; rintro e w3 ⟨n3, rfl, hI3, hF3⟩
        have hb3 := hb2.fr hne hF3
        have c653 := hb3.c65))
  have hF4 : FrL W.B [W.bb, b] w w3 := hF2.trans (hF3.toL (by simp))
  clear hF3 hI2 hb2 hs2 hwr
  go_wp2
  go_ret2
  exact ⟨n3, congrArg (fun x => Ending.returned (.tuple #[.int .i64 n3, x])) hev.symm, hI3, hF4⟩

set_option maxRecDepth 100000 in
set_option maxHeartbeats 800000 in
theorem brk_no3 (W : Wr) (hw : WrOK W) (b : Nat) (acc pend d : List UInt8) (sb so c : Nat) (w : World) (hI : W.Inv acc w) (hb : Brk w b W.T W.v pend) (hne : b ≠ W.bb) (hBb : W.B ≤ b) (hs : Src w sb so d) (hst : Stay W.B [W.bb, b] w sb) (hdc : d.length ≤ c) (hge : 64 ≤ pend.length + d.length) (hsz : acc.length + (pend.length + d.length) ≤ 70368744177664) (hfit1 : Fits W.lim (acc.length + pend.length)) (hfit2 : Fits W.lim (acc.length + (pend.length + (64 - pend.length)))) (hfit : ¬ Fits W.lim (acc.length + (pend.length + (64 - pend.length + 1)))) :
    Calls Tryd.prog 115 #[.pointer (some ⟨b, 0, none⟩), .slice (some ⟨sb, so, none⟩) d.length c] w fun e w' => ∃ n : Int, e = .returned (.tuple #[.int .i64 n, W.ev]) ∧ W.Fin (cut W.lim (acc ++ pend ++ d.take (64 - pend.length) ++ [10])) w' ∧ FrL W.B [W.bb, b] w w' := by
  have c64 := hb.c64
  have c65 := hb.c65
  have hlt := hb.lt
  have hge' : ¬ ((pend.length : Int) + (d.length : Int) < 64) := by omega
  have hd : d.length ≤ 70368744177664 := by omega
  obtain ⟨f1, f2, f3, f4⟩ := big_facts hlt hge
  have hsl := slice_arr0 78 64 (by decide) Tryd.underlying78 b 0 pend.length (by omega)
  have hsl2 := slice_hi sb so d.length c (64 - pend.length) (by omega)
  rw [← f4] at hsl2
  have hm := hw.meth
  have hc := hw.call
  have kc := fun (w : World) (C : Array Value) (n c : Nat) => Lib.run_convert_bytes_const (P := Tryd.prog) w 22 5 C n c Tryd.underlying22 Tryd.underlying5
  have HS := hide hsz
  have hI0 : W.Inv acc w.drew := hw.keep _ _ _ hI (fun _ _ h _ => h)
  have hsn : sb ≠ W.bb := by
    rcases hst with h | ⟨h, _⟩
    · have := hw.base; omega
    · exact fun e => h (by simp [e])
  obtain ⟨Te, ve, hev⟩ := hw.ev_ne
  have HF4 := hide f4
  clear hsz f4
  go_enter Tryd.func115, Tryd.ntmps115
  go_wp2
  go_region_held3 (fun w' => w'.cell? ⟨b, 64, none⟩ = some (.int .i64 (pend.length : Int)) ∧ w'.cell? ⟨b, 65, none⟩ = some (.iface W.T W.v)) (first | exact ⟨by assumption, by assumption⟩ | go_keep)
    (first
     | (refine (hw.ok acc pend b 0 64 _ hI0 hb.drew.src hne (by omega) (by have := unhide HS; omega) hfit1).mono ?_; rintro e w1 ⟨rfl, hI1, hF1⟩
        have hb1 := hb.drew.fr hne hF1
        have c641 := hb1.c64
        have c651 := hb1.c65
        have f641 := hb1.f 64))
  have hF : FrL W.B [W.bb, b] w w1 := ((FrL.refl _ _ w).drew).trans (hF1.toL (by simp))
  have hs1 : Src w1 sb so d := hs.stay hst hF
  have hst1 := hst.fr hF
  have hI2 : W.Inv (acc ++ pend) (w1.setCell ⟨b, 64, none⟩ (.int .i64 0)).drew := by
    obtain ⟨cs, h1, _⟩ := hb1
    exact hw.keep _ _ _ hI1 (((KeepW.refl _ _).setCell h1 (by decide) hne _ _).drewN 1)
  have hF2 : FrL W.B [W.bb, b] w (w1.setCell ⟨b, 64, none⟩ (.int .i64 0)).drew := (hF.setCell hBb (by simp) _ _).drew
  have hs2 : Src (w1.setCell ⟨b, 64, none⟩ (.int .i64 0)).drew sb so (d.take (64 - pend.length)) := (hs.stay hst hF2).take _
  have hb2 : Brk (w1.setCell ⟨b, 64, none⟩ (.int .i64 0)).drew b W.T W.v [] := hb1.reset
  have c652 := hb2.c65
  clear hF1 hI1 hb hs hst hF hs1 hst1 c64 c65 hsl
  go_wp2
  have hwr := hw.ok (acc ++ pend) (d.take (64 - pend.length)) sb so c _ hI2 hs2 hsn (by omega) (by have := unhide HS; rw [f3, List.length_append]; omega) (by rw [f3, List.length_append, Nat.add_assoc]; exact hfit2)
  rw [f3] at hwr
  go_region_held3 (fun w' => w'.cell? ⟨b, 65, none⟩ = some (.iface W.T W.v)) (first | assumption | go_keep)
    (first
     | (refine hwr.mono ?_; rintro e w3 ⟨rfl, hI3, hF3⟩
        have hb3 := hb2.fr hne hF3
        have c653 := hb3.c65))
  have hF4 : FrL W.B [W.bb, b] w w3 := hF2.trans (hF3.toL (by simp))
  clear hF3 hI2 hb2 hs2 hwr
  go_wp2_with fail
  have hne2 : w3.heap.size ≠ W.bb := fun e => by have := hw.lt _ _ hI3; omega
  have hI5 : W.Inv (acc ++ pend ++ d.take (64 - pend.length)) (w3.alloc (.cells #[.int .u8 10] 5 (1, 2))) := hw.keep _ _ _ hI3 ((KeepW.refl _ _).alloc _)
  have hF5 : FrL W.B [W.bb, b] w (w3.alloc (.cells #[.int .u8 10] 5 (1, 2))) := hF4.alloc (hw.size _ _ hI3) _
  have hb5 := hb3.alloc (.cells #[.int .u8 10] 5 (1, 2))
  clear hI3 hF4 hb3
  refine (hw.no (acc ++ pend ++ d.take (64 - pend.length)) [10] w3.heap.size 0 1 _ hI5 (Src.alloc rfl) hne2 (by decide) (by have := unhide HS; simp only [List.length_append, f3, List.length_cons, List.length_nil]; omega) (by simp only [List.length_append, f3, List.length_cons, List.length_nil]; simpa [Nat.add_assoc] using hfit)).mono ?_
  rintro e w6 ⟨n6, rfl, hI6, hF6⟩
  have hF7 : FrL W.B [W.bb, b] w w6 := hF5.trans (hF6.toL (by simp))
  clear hI5 hF5 hF6 hb5
  go_wp2
  go_ret2
  exact ⟨n6, congrArg (fun x => Ending.returned (.tuple #[.int .i64 n6, x])) hev.symm, hI6, hF7⟩

set_option maxRecDepth 100000 in
set_option maxHeartbeats 800000 in
theorem brk_step (W : Wr) (hw : WrOK W) (b : Nat) (acc pend d : List UInt8) (sb so c : Nat) (w : World) (hI : W.Inv acc w) (hb : Brk w b W.T W.v pend) (hne : b ≠ W.bb) (hBb : W.B ≤ b) (hs : Src w sb so d) (hst : Stay W.B [W.bb, b] w sb) (hdc : d.length ≤ c) (hge : 64 ≤ pend.length + d.length) (hsz : acc.length + (pend.length + d.length) ≤ 70368744177664) (hfit1 : Fits W.lim (acc.length + pend.length)) (hfit2 : Fits W.lim (acc.length + (pend.length + (64 - pend.length)))) (hfit3 : Fits W.lim (acc.length + (pend.length + (64 - pend.length + 1)))) (R : Value → World → Prop)
    (hrec : ∀ w6 so', W.Inv (acc ++ pend ++ d.take (64 - pend.length) ++ [10]) w6 → Brk w6 b W.T W.v [] → FrL W.B [W.bb, b] w w6 → (64 - pend.length < d.length → so' = so + (64 - pend.length)) →
      Calls Tryd.prog 115 #[.pointer (some ⟨b, 0, none⟩), .slice (some ⟨sb, so', none⟩) (d.length - (64 - pend.length)) (c - (64 - pend.length))] w6 fun e w' => ∃ (n : Int) (ev : Value), e = .returned (.tuple #[.int .i64 n, ev]) ∧ R ev w') :
    Calls Tryd.prog 115 #[.pointer (some ⟨b, 0, none⟩), .slice (some ⟨sb, so, none⟩) d.length c] w fun e w' => ∃ (n : Int) (ev : Value), e = .returned (.tuple #[.int .i64 n, ev]) ∧ R ev w' := by
  have c64 := hb.c64
  have c65 := hb.c65
  have hlt := hb.lt
  have hge' : ¬ ((pend.length : Int) + (d.length : Int) < 64) := by omega
  have hd : d.length ≤ 70368744177664 := by omega
  obtain ⟨f1, f2, f3, f4⟩ := big_facts hlt hge
  have hsl := slice_arr0 78 64 (by decide) Tryd.underlying78 b 0 pend.length (by omega)
  have hsl2 := slice_hi sb so d.length c (64 - pend.length) (by omega)
  rw [← f4] at hsl2
  have hm := hw.meth
  have hc := hw.call
  have kc := fun (w : World) (C : Array Value) (n c : Nat) => Lib.run_convert_bytes_const (P := Tryd.prog) w 22 5 C n c Tryd.underlying22 Tryd.underlying5
  have HS := hide hsz
  have hI0 : W.Inv acc w.drew := hw.keep _ _ _ hI (fun _ _ h _ => h)
  have hsn : sb ≠ W.bb := by
    rcases hst with h | ⟨h, _⟩
    · have := hw.base; omega
    · exact fun e => h (by simp [e])
  obtain ⟨Te, ve, hev⟩ := hw.ev_ne
  have HF4 := hide f4
  clear hsz f4
  go_enter Tryd.func115, Tryd.ntmps115
  go_wp2
  go_region_held3 (fun w' => w'.cell? ⟨b, 64, none⟩ = some (.int .i64 (pend.length : Int)) ∧ w'.cell? ⟨b, 65, none⟩ = some (.iface W.T W.v)) (first | exact ⟨by assumption, by assumption⟩ | go_keep)
    (first
     | (refine (hw.ok acc pend b 0 64 _ hI0 hb.drew.src hne (by omega) (by have := unhide HS; omega) hfit1).mono ?_; rintro e w1 ⟨rfl, hI1, hF1⟩
        have hb1 := hb.drew.fr hne hF1
        have c641 := hb1.c64
        have c651 := hb1.c65
        have f641 := hb1.f 64))
  have hF : FrL W.B [W.bb, b] w w1 := ((FrL.refl _ _ w).drew).trans (hF1.toL (by simp))
  have hs1 : Src w1 sb so d := hs.stay hst hF
  have hst1 := hst.fr hF
  have hI2 : W.Inv (acc ++ pend) (w1.setCell ⟨b, 64, none⟩ (.int .i64 0)).drew := by
    obtain ⟨cs, h1, _⟩ := hb1
    exact hw.keep _ _ _ hI1 (((KeepW.refl _ _).setCell h1 (by decide) hne _ _).drewN 1)
  have hF2 : FrL W.B [W.bb, b] w (w1.setCell ⟨b, 64, none⟩ (.int .i64 0)).drew := (hF.setCell hBb (by simp) _ _).drew
  have hs2 : Src (w1.setCell ⟨b, 64, none⟩ (.int .i64 0)).drew sb so (d.take (64 - pend.length)) := (hs.stay hst hF2).take _
  have hb2 : Brk (w1.setCell ⟨b, 64, none⟩ (.int .i64 0)).drew b W.T W.v [] := hb1.reset
  have c652 := hb2.c65
  clear hF1 hI1 hb hs hst hF hs1 hst1 c64 c65 hsl
  go_wp2
  have hwr := hw.ok (acc ++ pend) (d.take (64 - pend.length)) sb so c _ hI2 hs2 hsn (by omega) (by have := unhide HS; rw [f3, List.length_append]; omega) (by rw [f3, List.length_append, Nat.add_assoc]; exact hfit2)
  rw [f3] at hwr
  go_region_held3 (fun w' => w'.cell? ⟨b, 65, none⟩ = some (.iface W.T W.v)) (first | assumption | go_keep)
    (first
     | (refine hwr.mono ?_; rintro e w3 ⟨rfl, hI3, hF3⟩
        have hb3 := hb2.fr hne hF3
        have c653 := hb3.c65))
  have hF4 : FrL W.B [W.bb, b] w w3 := hF2.trans (hF3.toL (by simp))
  clear hF3 hI2 hb2 hs2 hwr
  go_wp2_with fail
  have hne2 : w3.heap.size ≠ W.bb := fun e => by have := hw.lt _ _ hI3; omega
  have hI5 : W.Inv (acc ++ pend ++ d.take (64 - pend.length)) (w3.alloc (.cells #[.int .u8 10] 5 (1, 2))) := hw.keep _ _ _ hI3 ((KeepW.refl _ _).alloc _)
  have hF5 : FrL W.B [W.bb, b] w (w3.alloc (.cells #[.int .u8 10] 5 (1, 2))) := hF4.alloc (hw.size _ _ hI3) _
  have hb5 := hb3.alloc (.cells #[.int .u8 10] 5 (1, 2))
  clear hI3 hF4 hb3
  refine (hw.ok (acc ++ pend ++ d.take (64 - pend.length)) [10] w3.heap.size 0 1 _ hI5 (Src.alloc rfl) hne2 (by decide) (by have := unhide HS; simp only [List.length_append, f3, List.length_cons, List.length_nil]; omega) (by simp only [List.length_append, f3, List.length_cons, List.length_nil]; simpa [Nat.add_assoc] using hfit3)).mono ?_
  rintro e w6 ⟨rfl, hI6, hF6⟩
  have hF7 : FrL W.B [W.bb, b] w w6 := hF5.trans (hF6.toL (by simp))
  have hb6 := hb5.fr hne hF6
  obtain ⟨so', hslo, hso'⟩ := slice_lo sb so d.length c (64 - pend.length) (by omega) hdc
  have hR := hide (hrec w6 so' hI6 hb6 hF7 hso')
  rw [← unhide HF4] at hslo
  clear hI5 hF5 hF6 hb5 hI6 hb6 hrec hsl2 hso'
  go_wp2_with fail
  refine (unhide hR).mono ?_
  rintro e w8 ⟨n8, ev8, rfl, hR8⟩
  go_wp2
  go_ret2
  exact ⟨n8, ev8, rfl, hR8⟩

end Go.Proofs.YtpjehmblndjknaaDoor
