/-
  Walks: ZZLine, impl.Line and the law FnLine.
-/
import Derived.Test.YtpjehmblndjknaaDoorSpecLine
import Derived.Test.YtpjehmblndjknaaDoorGetLine
import Derived.Deep.RegionWith
import Derived.Lib.SlBytesConst
namespace Go.Proofs.YtpjehmblndjknaaDoor
open Go.RowKit
set_option linter.unusedSimpArgs false
set_option linter.unusedVariables false

set_option maxRecDepth 100000 in
set_option maxHeartbeats 400000 in
theorem zzLine_any (v : Value) (l : List UInt8) (w : World) (hs : Sl w v l) (hm : l.length ≤ 9223372036854775806) :
    Calls Tryd.prog 10 #[v] w (LineSays l w) := by
  have HG := hide (fun w hs => getLine_any v l w hs hm)
  have HS := hide hs
  clear hs hm
  go_enter Tryd.func10, Tryd.ntmps10
  go_wp2_with fail
  refine (unhide HG _ (unhide HS)).mono ?_
  rintro e w1 ⟨v1, v2, rfl, h1, h2, hb⟩
  have H := hide (And.intro h1 (And.intro h2 hb))
  clear h1 h2 hb HS HG
  go_wp2
  go_ret3
  exact ⟨_, _, rfl, (unhide H).1, (unhide H).2.1, (unhide H).2.2⟩

/-- What impl.Line says. -/
def LineSays2 (l : List UInt8) (w : World) (e : Ending) (w' : World) : Prop :=
  ∃ v1 v2, e = .returned (.tuple #[v1, v2]) ∧ Sl w' v1 (lineP l) ∧ Sl w' v2 (restP l) ∧ Below w.heap.size w w'

set_option maxRecDepth 100000 in
set_option maxHeartbeats 400000 in
theorem implLine_any (v : Value) (l : List UInt8) (w : World) (hs : Sl w v l) (hm : l.length ≤ 9223372036854775806) :
    Calls Tryd.prog 5 #[v] w (LineSays2 l w) := by
  have HG := hide (fun w hs => zzLine_any v l w hs hm)
  have HS := hide hs
  clear hs hm
  go_enter Tryd.func5, Tryd.ntmps5
  go_wp2_with fail
  refine (unhide HG _ (unhide HS)).mono ?_
  rintro e w1 ⟨v1, v2, rfl, h1, h2, hb⟩
  have H := hide (And.intro h1 (And.intro h2 hb))
  clear h1 h2 hb HS HG
  go_wp2
  go_ret2
  exact ⟨_, _, rfl, (unhide H).1, (unhide H).2.1, (unhide H).2.2⟩

theorem sl_bytesWorldL (w : World) (l : List UInt8) : Sl (Lib.bytesWorld w 5 (bs l)) (.slice (some ⟨w.heap.size, 0, none⟩) l.length (grownCap w l.length 0 5)) l := by
  have h := sl_bytesWorld w 5 (bs l)
  rw [show (bs l).size = l.length from by simp [bs, ByteArray.size], show (bs l).data.toList = l from by simp [bs]] at h
  exact h
theorem bytesWorldL_below (w : World) (l : List UInt8) : Below w.heap.size w (Lib.bytesWorld w 5 (bs l)) := bytesWorld_below w _ _

theorem conv_bytesL (l : List UInt8) (W : World) : (convert 9 22 (.string (bs l))).run Tryd.prog W = .ok (.slice (some ⟨W.heap.size, 0, none⟩) l.length (grownCap W l.length 0 5)) (Lib.bytesWorld W 5 (bs l)) :=
  by
    have h := Lib.run_convert_string_bytes (P := Tryd.prog) W _ _ _ (bs l) Tryd.underlying9 Tryd.underlying22 Tryd.underlying5
    rw [show (bs l).size = l.length from by simp [bs, ByteArray.size]] at h
    exact h

set_option maxRecDepth 100000 in
set_option maxHeartbeats 800000 in
theorem fnLine_small (s : List UInt8) (w : World) (hm : s.length ≤ 2147483647) :
    Calls Tryd.prog 3 #[.string (bs s)] w fun e w' => e = .returned (.bool true) ∧ Below w.heap.size w w' := by
  have hcb := conv_bytesL s
  have kc := fun (w : World) (C : Array Value) (n c : Nat) => Lib.run_convert_bytes_const (P := Tryd.prog) w 22 5 C n c Tryd.underlying22 Tryd.underlying5
  go_enter Tryd.func3, Tryd.ntmps3
  go_wp2_with fail
  refine (implLine_any _ s _ (sl_bytesWorldL w s) (by omega)).mono ?_
  rintro e w1 ⟨v1, v2, rfl, h1, h2, hb1⟩
  have hb1 : Below w.heap.size w w1 := bstep (bytesWorldL_below w s) hb1
  go_wp2_with fail
  refine (specLine_any s _ (by omega)).mono ?_
  rintro e w2 ⟨rfl, n, rfl⟩
  have kc2 : ∀ (C : Array Value) (k c : Nat), (convert 22 22 (.slice (some ⟨w1.heap.size, 0, none⟩) k c)).run Tryd.prog ((w1.drewN n).alloc (.cells C 5)) = .ok (.slice (some ⟨w1.heap.size, 0, none⟩) k c) ((w1.drewN n).alloc (.cells C 5 (C.size, C.size + 1))) := fun C k c => kc (w1.drewN n) C k c
  have hA1 : Sl ((w1.drewN n).alloc (.cells #[.int .u8 97, .int .u8 10] 5 (2, 3))) (.slice (some ⟨w1.heap.size, 0, none⟩) 2 2) [97, 10] := Sl.of_alloc rfl (by decide) rfl
  have h1 : ∀ W, Below w1.heap.size w1 W → (convert 22 9 v1).run Tryd.prog W = .ok (.string (bs (lineP s))) W := conv_later (P := Tryd.prog) h1 Tryd.underlying22 Tryd.underlying5 Tryd.underlying9
  have h2 : ∀ W, Below w1.heap.size w1 W → (convert 22 9 v2).run Tryd.prog W = .ok (.string (bs (restP s))) W := conv_later (P := Tryd.prog) h2 Tryd.underlying22 Tryd.underlying5 Tryd.underlying9
  clear kc
  go_wp2_with fail
  refine (implLine_any _ [97, 10] _ hA1 (by decide)).mono ?_
  rintro e w3 ⟨v3, v4, rfl, h3, h4, hb3⟩
  have hb3 : Below w1.heap.size w1 w3 := bstep (balloc (drewN_below w1 n) _) hb3
  have g1 := fun n => h1 _ (bstep hb3 (drewN_below w3 n))
  have g2 := fun n => h2 _ (bstep hb3 (drewN_below w3 n))
  have g1' := h1 _ hb3
  have g2' := h2 _ hb3
  have h3' : ∀ W, Below w3.heap.size w3 W → (convert 22 9 v3).run Tryd.prog W = .ok (.string (bs [97])) W := conv_later (P := Tryd.prog) h3 Tryd.underlying22 Tryd.underlying5 Tryd.underlying9
  have g3 := fun n => h3' _ (drewN_below w3 n)
  have g3' := h3' _ (Below.refl _ _)
  have HB := hide (bstep hb1 hb3)
  clear h1 h2 h3 h4 h3' kc2 hA1 hcb
  clear hb1 hb3
  go_wp2

  all_goals go_ret
  all_goals exact ⟨rfl, unhide HB⟩

set_option maxRecDepth 100000 in
theorem fnLine_big (s : List UInt8) (w : World) (hm : 2147483647 < s.length) (hm63 : s.length ≤ 9223372036854775807) :
    Calls Tryd.prog 3 #[.string (bs s)] w fun e w' => e = .returned (.bool true) ∧ Below w.heap.size w w' := by
  have hi : (2147483647 : Int) < (s.length : Int) := by omega
  go_enter Tryd.func3, Tryd.ntmps3
  go_wp2
  go_ret
  exact ⟨rfl, Below.refl _ _⟩

theorem fnLine_walk (s : ByteArray) (w : World) (hm : s.size ≤ maxLen) :
    Calls Tryd.prog 3 #[.string s] w fun e w' => e = .returned (.bool true) ∧ Below w.heap.size w w' := by
  have hs : s = bs s.data.toList := by simp [bs]
  have hl := len_of s
  rw [hs]
  rcases Nat.lt_or_ge 2147483647 s.size with h | h
  · exact fnLine_big _ w (by omega) (by unfold maxLen at hm; omega)
  · exact fnLine_small _ w (by omega)
end Go.Proofs.YtpjehmblndjknaaDoor
