/-
  The law FnWriteFails, where what is handed in is of the given bulk at most: for every block and every limit the call returns true and each argument reads as it did.
  Its one condition is the second form's own: the bulk of what is handed in.
-/
import Derived.Test.YtpjehmblndjknaaFailL
import Derived.Test.YtpjehmblndjknaaOpenU
namespace Go.Proofs.Ytpjehmblndjknaa.fnWriteFails
open Go.ChangeShapes Go.WideShapes Go.ChangeAt Go.RowKit
open Go.ChangeMaps (open_string shut_string)
set_option linter.unusedVariables false

theorem own : ownKnob Try.prog.godebug = none := by kernel_rfl
theorem laidOut : laidOutB Try.prog = true := by kernel_rfl

set_option maxRecDepth 100000 in
theorem contract (H : Type) (enc : TypeId × Value → H) (W : World) (base : Nat) (args : Array Value) (ds gs : List (DataW H)) (before : List MemPlace)
    (hval0 : ∀ (j : Nat) t v, Try.f9.params[j]? = some t → args[j]? = some v → Value.okWide Try.prog W .any base t v)
    (hW : DataW.Whole enc Try.prog Try.f9.params.toList Rows.fnWriteFailsSpec.vars false W args.toList ds gs before) (hk : Rows.uptoSmall H (ds ++ gs) = true) :
    Calls Try.prog 9 args W fun e W' => ∃ v, e = .returned v ∧ Rows.fnWriteFailsSpec.post enc Try.prog Try.f9 false true false false W args v W' := by
  have hval : ∀ (j : Nat) t v, Try.f9.params[j]? = some t → args[j]? = some v → Value.okWide Try.prog W .any base t v := hval0
  have hW' := hW
  obtain ⟨p, q, hA0, hV, rfl, hfz, hnd⟩ := hW
  have hA : DataW.TrodAll enc Try.prog W 0 (fun _ => true) true Try.f9.params.toList args.toList ds p := hA0
  rw [Try.params9] at hA hval
  obtain ⟨v0, vs0, d0, ds0, p0, q0, hargs, rfl, rfl, h0, r0⟩ := trodAll_cons hA
  obtain ⟨v1, vs1, d1, ds1, p1, q1, hargs1, rfl, rfl, h1, r1⟩ := trodAll_cons r0
  obtain ⟨rfl, rfl, rfl⟩ := trodAll_nil r1
  obtain rfl : args = #[v0, v1] := by cases args; simp_all
  obtain ⟨rfl, rfl⟩ := trodVars_none hV
  have k0 := h0
  have k1 := h1
  have lt0 : ∀ x ∈ p0, x.block < W.heap.size := by obtain ⟨m, hm⟩ := k0; exact DataW.trod_lt m _ _ _ hm
  have lt1 : ∀ x ∈ p1, x.block < W.heap.size := by obtain ⟨m, hm⟩ := k1; exact DataW.trod_lt m _ _ _ hm
  obtain ⟨ty, by_, hv, q, bc, hs, rfl, o1, o2, o3, o4, o5, o6, o7⟩ := open_block_u (hval 0 31 v0 rfl rfl) h0
  obtain ⟨n1, rfl, e11, e12, w1⟩ := open_int Try.underlying3 (hval 1 3 v1 rfl rfl) h1
  have hbulk : Rows.uptoBulk d0 ≤ 1048576 := by
    have h2 := of_decide_eq_true hk
    simp only [List.append_nil, Rows.uptoBulkAll] at h2
    omega
  clear hA0 hval0
  have wb : -9223372036854775808 ≤ n1 ∧ n1 ≤ 9223372036854775807 := by simpa [Lit.wf, IntKind.min, IntKind.max, IntKind.signed, IntKind.bits] using w1
  have hw := fnFails_walk ty by_ hv q bc hs n1 W o1 o2 o3 (by omega) (by omega) (fun p hp => by have := o7 p hp; omega) (by omega) wb.2 wb.1
  refine hw.mono fun e W' ⟨he, bel⟩ => ?_
  subst he
  have t0 := Below.trod laidOut (by kernel_rfl) (of_decide_eq_true (by kernel_rfl)) k0 bel lt0
  have t1 := Below.trod laidOut (by kernel_rfl) (of_decide_eq_true (by kernel_rfl)) k1 bel lt1
  exact ⟨_, rfl, _, _, _, [], _, [], hW', trodAll_mk1 (shut_bool Try.underlying4 _), (trodAll_cons_mk t0 (trodAll_cons_mk t1 trodAll_mk0)), rfl, bel.frame _, fun h => by cases h⟩

set_option maxRecDepth 100000 in
theorem lifted (os : Os) (started : os.Started) (H : Type) (enc : TypeId × Value → H) (F : Stop.Interp) :
    ReturnsInHanded {} Try.checked os 9 .any ((Rows.OpenSpec.upto Rows.fnWriteFailsSpec).pre6 enc Try.prog Try.f9 Rows.fnWriteFailsUptoRow.domain false) (((Rows.OpenSpec.upto Rows.fnWriteFailsSpec).at F).post enc Try.prog Try.f9 false true false false) := by
  refine returnsInHanded_of_cond (C := Try.checked) (s := Rows.OpenSpec.upto Rows.fnWriteFailsSpec) (k := Rows.uptoSmall) rfl own started (by kernel_rfl) Try.func9
    (OpenSpec.witness (enc := enc) (C := Try.checked) (s := Rows.OpenSpec.upto Rows.fnWriteFailsSpec) (k := Rows.uptoSmall) rfl false ⟨#[], #[.agg #[.string ByteArray.empty, .slice none 0 0, .slice none 0 0], .int .i64 0], []⟩ 8 (by kernel_rfl) (by kernel_rfl) (by kernel_rfl)
      (x := ([.agg [.lit (.string []), .nil, .nil], .lit (.int .i64 0)], [], [])) (by kernel_rfl) rfl (by kernel_rfl)) ?_
  intro W base args ds gs before hval hW _ hk _
  exact contract H enc W base args ds gs before hval hW hk

theorem over : Rows.FnWriteFailsUptoSaid :=
  OpenClaim.holds_of_cond 9 Try.f9 rfl rfl rfl rfl rfl rfl rfl ⟨rfl, rfl, rfl, rfl, rfl⟩ rfl rfl rfl rfl rfl (by kernel_rfl) Try.func9 (by kernel_rfl)
    (of_decide_eq_true (by kernel_rfl)) (by unfold Func.isWrapper; first | (rw [if_pos (by decide +kernel)]; kernel_rfl) | (rw [if_neg (by decide +kernel)]; exact ⟨rfl, rfl⟩))
    (fun os started H enc _ F => lifted os started H enc F)
end Go.Proofs.Ytpjehmblndjknaa.fnWriteFails
namespace Go.Proofs.Ytpjehmblndjknaa
theorem fnWriteFailsUpto_holds : Rows.FnWriteFailsUptoSaid := fnWriteFails.over
#print axioms fnWriteFailsUpto_holds
end Go.Proofs.Ytpjehmblndjknaa
