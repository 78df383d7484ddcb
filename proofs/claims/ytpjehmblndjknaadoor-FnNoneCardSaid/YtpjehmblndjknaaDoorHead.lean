/-
  A string is written to whatever writer; walk: writeHeader.
-/
import Derived.Test.YtpjehmblndjknaaDoorStr
import Derived.Test.YtpjehmblndjknaaDoorBreakerU
import Derived.Test.YtpjehmblndjknaaDoorHdr
import Derived.Handy
namespace Go.Proofs.YtpjehmblndjknaaDoor
open Go.RowKit
set_option linter.unusedSimpArgs false
set_option linter.unusedVariables false

theorem convS (l : List UInt8) (W : World) : (convert 9 22 (.string (bs l))).run Tryd.prog W = .ok (.slice (some ⟨W.heap.size, 0, none⟩) l.length (grownCap W l.length 0 5)) (Lib.bytesWorld W 5 (bs l)) := by
  have h := Lib.run_convert_string_bytes (P := Tryd.prog) W _ _ _ (bs l) Tryd.underlying9 Tryd.underlying22 Tryd.underlying5
  rw [bs_size] at h
  exact h
theorem slS (w : World) (l : List UInt8) : Sl (Lib.bytesWorld w 5 (bs l)) (.slice (some ⟨w.heap.size, 0, none⟩) l.length (grownCap w l.length 0 5)) l := by
  have h := sl_bytesWorld w 5 (bs l)
  rw [bs_size, show (bs l).data.toList = l from by simp [bs]] at h
  exact h
theorem bwS (w : World) (l : List UInt8) : Below w.heap.size w (Lib.bytesWorld w 5 (bs l)) := bytesWorld_below w _ _
theorem Fr.of_below {B bb : Nat} {w w' : World} (h : Below w.heap.size w w') (hB : B ≤ w.heap.size) : Fr B bb w w' :=
  ⟨h.mono hB, fun k o hk _ _ => (h.block k (lt_of_heap hk)).trans hk⟩

/-- A string's bytes, converted anew, are written: the writer takes them. -/
theorem wrS_ok (W : Wr) (hw : WrOK W) (acc l : List UInt8) (w : World) (hI : W.Inv acc w) (hsz : acc.length + l.length ≤ 140737488355328) (hf : Fits W.lim (acc.length + l.length)) :
    Calls Tryd.prog W.F #[W.v, .slice (some ⟨w.heap.size, 0, none⟩) l.length (grownCap w l.length 0 5)] (Lib.bytesWorld w 5 (bs l)) fun e w' => e = .returned (.tuple #[.int .i64 l.length, .nilIface]) ∧ W.Inv (acc ++ l) w' ∧ Fr W.B W.bb w w' := by
  obtain ⟨p, cap, e1, hle, hc⟩ := slS w l
  injection e1 with ea eb ec
  subst ea; subst ec
  have hs : Src (Lib.bytesWorld w 5 (bs l)) w.heap.size 0 l := by
    intro i x hx
    obtain ⟨b, o, e2, h2⟩ := hc (by rintro rfl; simp at hx)
    injection e2 with e3
    injection e3 with e4 e5 _
    subst e4; subst e5
    exact h2 i x hx
  have hF : Fr W.B W.bb w (Lib.bytesWorld w 5 (bs l)) := Fr.of_below (bwS w l) (hw.size _ _ hI)
  refine (hw.ok acc l w.heap.size 0 _ _ (hw.keep _ _ _ hI (KeepW.below (bwS w l))) hs (fun e => by have := hw.lt _ _ hI; omega) hle hsz hf).mono ?_
  rintro e w' ⟨rfl, h1, h2⟩
  exact ⟨rfl, h1, hF.trans h2⟩
/-- .. or it fails. -/
theorem wrS_no (W : Wr) (hw : WrOK W) (acc l : List UInt8) (w : World) (hI : W.Inv acc w) (hsz : acc.length + l.length ≤ 140737488355328) (hf : ¬ Fits W.lim (acc.length + l.length)) :
    Calls Tryd.prog W.F #[W.v, .slice (some ⟨w.heap.size, 0, none⟩) l.length (grownCap w l.length 0 5)] (Lib.bytesWorld w 5 (bs l)) fun e w' => ∃ n : Int, e = .returned (.tuple #[.int .i64 n, W.ev]) ∧ W.Fin (cut W.lim (acc ++ l)) w' ∧ Fr W.B W.bb w w' := by
  obtain ⟨p, cap, e1, hle, hc⟩ := slS w l
  injection e1 with ea eb ec
  subst ea; subst ec
  have hs : Src (Lib.bytesWorld w 5 (bs l)) w.heap.size 0 l := by
    intro i x hx
    obtain ⟨b, o, e2, h2⟩ := hc (by rintro rfl; simp at hx)
    injection e2 with e3
    injection e3 with e4 e5 _
    subst e4; subst e5
    exact h2 i x hx
  have hF : Fr W.B W.bb w (Lib.bytesWorld w 5 (bs l)) := Fr.of_below (bwS w l) (hw.size _ _ hI)
  refine (hw.no acc l w.heap.size 0 _ _ (hw.keep _ _ _ hI (KeepW.below (bwS w l))) hs (fun e => by have := hw.lt _ _ hI; omega) hle hsz hf).mono ?_
  rintro e w' ⟨n, rfl, h1, h2⟩
  exact ⟨n, rfl, h1, hF.trans h2⟩

/-- What one write leaves: all is taken, or the writer's error. -/
def Wrote (W : Wr) (acc l : List UInt8) (w : World) (ev : Value) (w' : World) : Prop :=
  Fr W.B W.bb w w' ∧ ((Fits W.lim (acc ++ l).length ∧ ev = .nilIface ∧ W.Inv (acc ++ l) w') ∨ (¬ Fits W.lim (acc ++ l).length ∧ ev = W.ev ∧ W.Fin (cut W.lim (acc ++ l)) w'))

theorem wrS (W : Wr) (hw : WrOK W) (acc l : List UInt8) (w : World) (hI : W.Inv acc w) (hsz : acc.length + l.length ≤ 140737488355328) :
    Calls Tryd.prog W.F #[W.v, .slice (some ⟨w.heap.size, 0, none⟩) l.length (grownCap w l.length 0 5)] (Lib.bytesWorld w 5 (bs l)) fun e w' => ∃ (n : Int) (ev : Value), e = .returned (.tuple #[.int .i64 n, ev]) ∧ Wrote W acc l w ev w' := by
  by_cases hf : Fits W.lim (acc.length + l.length)
  · refine (wrS_ok W hw acc l w hI hsz hf).mono ?_
    rintro e w' ⟨rfl, h1, h2⟩
    exact ⟨_, _, rfl, h2, .inl ⟨by rw [List.length_append]; exact hf, rfl, h1⟩⟩
  · refine (wrS_no W hw acc l w hI hsz hf).mono ?_
    rintro e w' ⟨n, rfl, h1, h2⟩
    exact ⟨_, _, rfl, h2, .inr ⟨by rw [List.length_append]; exact hf, rfl, h1⟩⟩

set_option maxRecDepth 100000 in
set_option maxHeartbeats 800000 in
theorem writeHeader_any (W : Wr) (hw : WrOK W) (acc k v : List UInt8) (w : World) (hI : W.Inv acc w) (hsz : acc.length + (headLine k v).length ≤ 140737488355328) :
    Calls Tryd.prog 51 #[.iface W.T W.v, .string (bs k), .string (bs v)] w fun e w' => ∃ ev : Value, e = .returned ev ∧ Wrote W acc (headLine k v) w ev w' := by
  have hcv := convS (headLine k v) w
  have hwr := wrS W hw acc (headLine k v) w hI hsz
  have hm := hw.meth
  have hc := hw.call
  have hl : k.length + v.length ≤ 140737488355328 := by
    have : (headLine k v).length = k.length + (v.length + 1 + 1 + 1) := by simp [headLine]
    omega
  clear hsz hI
  generalize (grownCap w (headLine k v).length 0 5) = cap at hcv hwr
  generalize (headLine k v).length = n at hcv hwr
  generalize Lib.bytesWorld w 5 (bs (headLine k v)) = wb at hcv hwr
  have HW := hide hwr
  clear hwr
  unfold headLine at hcv
  go_enter Tryd.func51, Tryd.ntmps51
  go_wp2_with fail
  refine (unhide HW).mono ?_
  rintro e w' ⟨n2, ev, rfl, h⟩
  have HX := hide h
  clear h HW
  go_wp2
  go_ret
  exact ⟨ev, rfl, unhide HX⟩
end Go.Proofs.YtpjehmblndjknaaDoor
