/-
  Walk: the law FnSolid.
-/
import Derived.Test.YtpjehmblndjknaaSolidB
import Derived.Deep.RegionWith
import Derived.Lib.SlBytesConst
namespace Go.Proofs.Ytpjehmblndjknaa
open Go.RowKit

theorem conv_bytes (s : ByteArray) (W : World) : (convert 9 22 (.string s)).run Try.prog W = .ok (.slice (some ⟨W.heap.size, 0, none⟩) s.size (grownCap W s.size 0 5)) (Lib.bytesWorld W 5 s) :=
  Lib.run_convert_string_bytes W _ _ _ s Try.underlying9 Try.underlying22 Try.underlying5

set_option maxRecDepth 100000 in
set_option maxHeartbeats 400000 in
theorem fnSolid_small (s : ByteArray) (w : World) (hm : s.size ≤ 2147483647) :
    Calls Try.prog 3 #[.string s] w fun e w' => e = .returned (.bool true) ∧ Below w.heap.size w w' := by
  have hcb := conv_bytes s
  have kc := fun (w : World) (C : Array Value) (n c : Nat) => Lib.run_convert_bytes_const (P := Try.prog) w 22 5 C n c Try.underlying22 Try.underlying5
  go_enter Try.func3, Try.ntmps3
  go_wp2
  go_region_with (first
    | (go_at_call 10; refine (implSolid_any _ _ _ (sl_bytesWorld w.drew 5 s) (by rw [len_of]; omega)).mono ?_; rintro e w1 ⟨v', rfl, hs1, hb1⟩
       have hr1 := Below.refl w1.heap.size w1
       have hk1 := conv_later (P := Try.prog) hs1 Try.underlying22 Try.underlying5 Try.underlying9)
    | (go_at_call 10; refine (implSolid_any _ [97] _ (Sl.of_alloc rfl (by decide) rfl) (by decide)).mono ?_; rintro e w3 ⟨v3, rfl, hs3, hb3⟩
       have hr3 := Below.refl w3.heap.size w3
       have hk3 : ∀ W, Below w3.heap.size w3 W → (convert 22 9 v3).run Try.prog W = .ok (.string ⟨#[97]⟩) W := conv_later (P := Try.prog) hs3 Try.underlying22 Try.underlying5 Try.underlying9)
    | (go_at_call 11; refine (specSolid_any _ _ (by omega)).mono ?_; rintro e w2 ⟨rfl, hb2⟩))
  all_goals go_wp2
  all_goals go_ret
  all_goals exact ⟨rfl, bstep (balloc (bstep (bstep (bstep (drewN_below w 1) (bytesWorld_below _ _ _)) hb1) hb2) _) hb3⟩

set_option maxRecDepth 100000 in
theorem fnSolid_big (s : ByteArray) (w : World) (hm : 2147483647 < s.size) (hm63 : s.size ≤ 9223372036854775807) :
    Calls Try.prog 3 #[.string s] w fun e w' => e = .returned (.bool true) ∧ Below w.heap.size w w' := by
  have hi : (2147483647 : Int) < (s.size : Int) := by omega
  go_enter Try.func3, Try.ntmps3
  go_wp2
  go_ret
  exact ⟨rfl, Below.refl _ _⟩

theorem fnSolid_walk (s : ByteArray) (w : World) (hm : s.size ≤ maxLen) :
    Calls Try.prog 3 #[.string s] w fun e w' => e = .returned (.bool true) ∧ Below w.heap.size w w' := by
  rcases Nat.lt_or_ge 2147483647 s.size with h | h
  · exact fnSolid_big s w h (by unfold maxLen at hm; omega)
  · exact fnSolid_small s w h
end Go.Proofs.Ytpjehmblndjknaa
