/-
  Walks of lineBreaker over whatever writer: Close.
-/
import Derived.Test.YtpjehmblndjknaaDoorWriter
import Derived.Test.YtpjehmblndjknaaDoorPlain
import Derived.Outline
import Derived.Handy
namespace Go.Proofs.YtpjehmblndjknaaDoor
open Go.RowKit
set_option linter.unusedSimpArgs false
set_option linter.unusedVariables false

theorem close_nil (W : Wr) (b : Nat) (w : World) (hb : Brk w b W.T W.v []) :
    Calls Tryd.prog 54 #[.pointer (some ⟨b, 0, none⟩)] w fun e w' => e = .returned .nilIface ∧ w = w' := by
  have c64 : w.cell? ⟨b, 64, none⟩ = some (.int .i64 0) := hb.c64
  go_enter Tryd.func54, Tryd.ntmps54
  go_wp2
  go_ret
  exact ⟨rfl, rfl⟩

set_option maxRecDepth 100000 in
set_option maxHeartbeats 400000 in
theorem close_ok2 (W : Wr) (hw : WrOK W) (b : Nat) (acc pend : List UInt8) (w : World) (hI : W.Inv acc w) (hb : Brk w b W.T W.v pend) (hne : b ≠ W.bb) (h0 : 0 < pend.length) (hsz : acc.length + (pend.length + 1) ≤ 140737488355328) (hfit : Fits W.lim (acc.length + (pend.length + 1))) :
    Calls Tryd.prog 54 #[.pointer (some ⟨b, 0, none⟩)] w fun e w' => e = .returned .nilIface ∧ W.Inv (acc ++ pend ++ [10]) w' ∧ Fr W.B W.bb w w' := by
  have c64 := hb.c64
  have c65 := hb.c65
  have hlt := hb.lt
  have h0' : (0 : Int) < (pend.length : Int) := by omega
  have hsl := slice_arr0 78 64 (by decide) Tryd.underlying78 b 0 pend.length (by omega)
  have hm := hw.meth
  have hc := hw.call
  have kc := fun (w : World) (C : Array Value) (n c : Nat) => Lib.run_convert_bytes_const (P := Tryd.prog) w 22 5 C n c Tryd.underlying22 Tryd.underlying5
  have HS := hide hsz
  have hI0 : W.Inv acc w.drew := hw.keep _ _ _ hI (fun _ _ h _ => h)
  clear hsz
  go_enter Tryd.func54, Tryd.ntmps54
  go_wp2
  go_region_held3 (fun w' => w'.cell? ⟨b, 64, none⟩ = some (.int .i64 (pend.length : Int)) ∧ w'.cell? ⟨b, 65, none⟩ = some (.iface W.T W.v)) (first | exact ⟨by assumption, by assumption⟩ | go_keep)
    (first
     | (refine (hw.ok acc pend b 0 64 _ hI0 hb.drew.src hne (by omega) (by have := unhide HS; omega) (hfit.mono (by omega))).mono ?_; rintro e w1 ⟨rfl, hI1, hF1⟩
        have hb1 := hb.drew.fr hne hF1
        have c641 := hb1.c64
        have c651 := hb1.c65))
  go_wp2_with fail
  have hI2 : W.Inv (acc ++ pend) (w1.alloc (.cells #[.int .u8 10] 5 (1, 2))) := hw.keep _ _ _ hI1 ((KeepW.refl _ _).alloc _)
  have hne2 : w1.heap.size ≠ W.bb := fun e => by have := hw.lt _ _ hI1; omega
  refine (hw.ok (acc ++ pend) [10] w1.heap.size 0 1 _ hI2 (Src.alloc rfl) hne2 (by decide) (by have := unhide HS; simp only [List.length_append, List.length_cons, List.length_nil]; omega) (by simpa [Nat.add_assoc] using hfit)).mono ?_
  rintro e w2 ⟨rfl, hI3, hF3⟩
  have hF : Fr W.B W.bb w w2 := ((Fr.refl _ _ _).drewN 1).trans ((hF1.alloc (hw.size _ _ hI1) _).trans hF3)
  clear hI1 hF1 hb1 hI2 hF3
  go_wp2
  go_ret
  exact ⟨rfl, hI3, hF⟩

set_option maxRecDepth 100000 in
set_option maxHeartbeats 400000 in
theorem close_no1 (W : Wr) (hw : WrOK W) (b : Nat) (acc pend : List UInt8) (w : World) (hI : W.Inv acc w) (hb : Brk w b W.T W.v pend) (hne : b ≠ W.bb) (h0 : 0 < pend.length) (hsz : acc.length + (pend.length + 1) ≤ 140737488355328) (hfit : ¬ Fits W.lim (acc.length + pend.length)) :
    Calls Tryd.prog 54 #[.pointer (some ⟨b, 0, none⟩)] w fun e w' => e = .returned W.ev ∧ W.Fin (cut W.lim (acc ++ pend)) w' ∧ Fr W.B W.bb w w' := by
  have c64 := hb.c64
  have c65 := hb.c65
  have hlt := hb.lt
  have h0' : (0 : Int) < (pend.length : Int) := by omega
  have hsl := slice_arr0 78 64 (by decide) Tryd.underlying78 b 0 pend.length (by omega)
  have hm := hw.meth
  have hc := hw.call
  have HS := hide hsz
  have hI0 : W.Inv acc w.drew := hw.keep _ _ _ hI (fun _ _ h _ => h)
  obtain ⟨Te, ve, hev⟩ := hw.ev_ne
  clear hsz
  go_enter Tryd.func54, Tryd.ntmps54
  go_wp2
  go_region_held3 (fun w' => w'.cell? ⟨b, 64, none⟩ = some (.int .i64 (pend.length : Int)) ∧ w'.cell? ⟨b, 65, none⟩ = some (.iface W.T W.v)) (first | exact ⟨by assumption, by assumption⟩ | go_keep)
    (first
     | (refine (hw.no acc pend b 0 64 _ hI0 hb.drew.src hne (by omega) (by have := unhide HS; omega) hfit).mono ?_; rintro e w1 ⟨n1, rfl, hI1, hF1⟩
        have hb1 := hb.drew.fr hne hF1
        have c641 := hb1.c64
        have c651 := hb1.c65))
  have hF : Fr W.B W.bb w w1 := ((Fr.refl _ _ _).drewN 1).trans hF1
  clear hF1 hb1
  go_wp2
  go_ret
  exact ⟨congrArg Ending.returned hev.symm, hI1, hF⟩

set_option maxRecDepth 100000 in
set_option maxHeartbeats 400000 in
theorem close_no2 (W : Wr) (hw : WrOK W) (b : Nat) (acc pend : List UInt8) (w : World) (hI : W.Inv acc w) (hb : Brk w b W.T W.v pend) (hne : b ≠ W.bb) (h0 : 0 < pend.length) (hsz : acc.length + (pend.length + 1) ≤ 140737488355328) (hfit1 : Fits W.lim (acc.length + pend.length)) (hfit : ¬ Fits W.lim (acc.length + (pend.length + 1))) :
    Calls Tryd.prog 54 #[.pointer (some ⟨b, 0, none⟩)] w fun e w' => e = .returned W.ev ∧ W.Fin (cut W.lim (acc ++ pend ++ [10])) w' ∧ Fr W.B W.bb w w' := by
  have c64 := hb.c64
  have c65 := hb.c65
  have hlt := hb.lt
  have h0' : (0 : Int) < (pend.length : Int) := by omega
  have hsl := slice_arr0 78 64 (by decide) Tryd.underlying78 b 0 pend.length (by omega)
  have hm := hw.meth
  have hc := hw.call
  have kc := fun (w : World) (C : Array Value) (n c : Nat) => Lib.run_convert_bytes_const (P := Tryd.prog) w 22 5 C n c Tryd.underlying22 Tryd.underlying5
  have HS := hide hsz
  have hI0 : W.Inv acc w.drew := hw.keep _ _ _ hI (fun _ _ h _ => h)
  obtain ⟨Te, ve, hev⟩ := hw.ev_ne
  clear hsz
  go_enter Tryd.func54, Tryd.ntmps54
  go_wp2
  go_region_held3 (fun w' => w'.cell? ⟨b, 64, none⟩ = some (.int .i64 (pend.length : Int)) ∧ w'.cell? ⟨b, 65, none⟩ = some (.iface W.T W.v)) (first | exact ⟨by assumption, by assumption⟩ | go_keep)
    (first
     | (refine (hw.ok acc pend b 0 64 _ hI0 hb.drew.src hne (by omega) (by have := unhide HS; omega) hfit1).mono ?_; rintro e w1 ⟨rfl, hI1, hF1⟩
        have hb1 := hb.drew.fr hne hF1
        have c641 := hb1.c64
        have c651 := hb1.c65))
  go_wp2_with fail
  have hI2 : W.Inv (acc ++ pend) (w1.alloc (.cells #[.int .u8 10] 5 (1, 2))) := hw.keep _ _ _ hI1 ((KeepW.refl _ _).alloc _)
  have hne2 : w1.heap.size ≠ W.bb := fun e => by have := hw.lt _ _ hI1; omega
  refine (hw.no (acc ++ pend) [10] w1.heap.size 0 1 _ hI2 (Src.alloc rfl) hne2 (by decide) (by have := unhide HS; simp only [List.length_append, List.length_cons, List.length_nil]; omega) (by simpa [Nat.add_assoc] using hfit)).mono ?_
  rintro e w2 ⟨n2, rfl, hI3, hF3⟩
  have hF : Fr W.B W.bb w w2 := ((Fr.refl _ _ _).drewN 1).trans ((hF1.alloc (hw.size _ _ hI1) _).trans hF3)
  clear hI1 hF1 hb1 hI2 hF3
  go_wp2
  go_ret
  exact ⟨congrArg Ending.returned hev.symm, hI3, hF⟩

/-- Close, the writer taking all. -/
theorem close_ok (W : Wr) (hw : WrOK W) (b : Nat) (acc pend : List UInt8) (w : World) (hI : W.Inv acc w) (hb : Brk w b W.T W.v pend) (hne : b ≠ W.bb) (hsz : acc.length + (pend.length + 1) ≤ 140737488355328) (hfit : Fits W.lim (acc ++ closeOut pend).length) :
    Calls Tryd.prog 54 #[.pointer (some ⟨b, 0, none⟩)] w fun e w' => e = .returned .nilIface ∧ W.Inv (acc ++ closeOut pend) w' ∧ Fr W.B W.bb w w' := by
  by_cases h0 : pend = []
  · subst h0
    refine (close_nil W b w hb).mono ?_
    rintro e w' ⟨rfl, rfl⟩
    exact ⟨rfl, by simpa [closeOut] using hI, Fr.refl _ _ _⟩
  · have h1 : 0 < pend.length := List.length_pos_iff.2 h0
    simp only [closeOut, if_neg h0, ← List.append_assoc] at hfit ⊢
    exact close_ok2 W hw b acc pend w hI hb hne h1 hsz (by simpa [Nat.add_assoc] using hfit)
/-- Close, the writer failing. -/
theorem close_no (W : Wr) (hw : WrOK W) (b : Nat) (acc pend : List UInt8) (w : World) (hI : W.Inv acc w) (hb : Brk w b W.T W.v pend) (hne : b ≠ W.bb) (hsz : acc.length + (pend.length + 1) ≤ 140737488355328) (hfit : ¬ Fits W.lim (acc ++ closeOut pend).length) :
    Calls Tryd.prog 54 #[.pointer (some ⟨b, 0, none⟩)] w fun e w' => e = .returned W.ev ∧ W.Fin (cut W.lim (acc ++ closeOut pend)) w' ∧ Fr W.B W.bb w w' := by
  by_cases h0 : pend = []
  · subst h0
    exact absurd (by simpa [closeOut] using hw.fits _ _ hI) hfit
  · have h1 : 0 < pend.length := List.length_pos_iff.2 h0
    simp only [closeOut, if_neg h0, ← List.append_assoc] at hfit ⊢
    by_cases hf1 : Fits W.lim (acc.length + pend.length)
    · exact close_no2 W hw b acc pend w hI hb hne h1 hsz hf1 (by simpa [Nat.add_assoc] using hfit)
    · rw [cut_append (by simpa using hf1)]
      exact close_no1 W hw b acc pend w hI hb hne h1 hsz hf1
end Go.Proofs.YtpjehmblndjknaaDoor
