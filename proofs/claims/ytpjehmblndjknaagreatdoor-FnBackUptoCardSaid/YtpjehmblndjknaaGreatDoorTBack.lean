/-
  The law FnBack, where what is handed in is of the given bulk at most: for every block and every rest the call returns true and what was handed in reads as it did.
  Its one condition is the second form's own: the bulk of what is handed in. The card.
-/
import Derived.Test.YtpjehmblndjknaaGreatDoorTCom
import Derived.Test.YtpjehmblndjknaaGreatDoorPem
import Derived.Test.YtpjehmblndjknaaGreatDoorCards
import Derived.Test.YtpjehmblndjknaaGreatDoorTie

namespace Go.Proofs.YtpjehmblndjknaaGreatDoor.fnBack
open Go.ChangeShapes Go.WideShapes Go.ChangeAt Go.RowKit
open Go.ChangeMaps (open_string shut_string)
set_option linter.unusedVariables false

theorem own : ownKnob Tryz.prog.godebug = none := by kernel_rfl
theorem laidOut : laidOutB Tryz.prog = true := by kernel_rfl

set_option maxRecDepth 100000 in
theorem contract (H : Type) (enc : TypeId × Value → H) (W : World) (base : Nat) (args : Array Value) (ds gs : List (DataW H)) (before : List MemPlace)
    (hval0 : ∀ (j : Nat) t v, Tryz.f5.params[j]? = some t → args[j]? = some v → Value.okWide Tryz.prog W .any base t v)
    (hW : DataW.Whole enc Tryz.prog Tryz.f5.params.toList Rows.fnBackSpec.vars false W args.toList ds gs before) (hk : Rows.uptoSmall H (ds ++ gs) = true) (hL : laidMetH Tryz.prog laidL W) :
    Calls Tryz.prog 5 args W fun e W' => ∃ v, e = .returned v ∧ Rows.fnBackSpec.post enc Tryz.prog Tryz.f5 false true false false W args v W' := by
  have hval : ∀ (j : Nat) t v, Tryz.f5.params[j]? = some t → args[j]? = some v → Value.okWide Tryz.prog W .any base t v := hval0
  have hW' := hW
  obtain ⟨p, q, hA0, hV, rfl, hfz, hnd⟩ := hW
  have hA : DataW.TrodAll enc Tryz.prog W 0 (fun _ => true) true Tryz.f5.params.toList args.toList ds p := hA0
  rw [Tryz.params5] at hA hval
  obtain ⟨v0, vs0, d0, ds0, p0, q0, hargs, rfl, rfl, h0, r0⟩ := trodAll_cons hA
  obtain ⟨v1, vs1, d1, ds1, p1, q1, rfl, rfl, rfl, h1, r1⟩ := trodAll_cons r0
  obtain ⟨rfl, rfl, rfl⟩ := trodAll_nil r1
  obtain rfl : args = #[v0, v1] := by cases args; simp_all
  obtain ⟨rfl, rfl⟩ := trodVars_none hV
  have k0 := h0
  have k1 := h1
  have lt0 : ∀ x ∈ p0, x.block < W.heap.size := by obtain ⟨m, hm⟩ := k0; exact DataW.trod_lt m _ _ _ hm
  have lt1 : ∀ x ∈ p1, x.block < W.heap.size := by obtain ⟨m, hm⟩ := k1; exact DataW.trod_lt m _ _ _ hm
  obtain ⟨ty, by_, hv, q, bc, hs, rfl, o1, o2, o3, o4, o5, o6, o7⟩ := open_block_u (hval 0 25 v0 rfl rfl) h0
  obtain ⟨qr, rc, rest, rfl, e2, e3⟩ := open_bytes_arg (hval 1 23 v1 rfl rfl) h1
  have hbulk : Rows.uptoBulk d0 + Rows.uptoBulk d1 ≤ 1048576 := by
    have h2 := of_decide_eq_true hk
    simp only [List.append_nil, Rows.uptoBulkAll] at h2
    omega
  clear hA0 hval0
  have hw := fnBack_walk (fun v data w hs hl hT => pemDecode_any v data w hs hl hT) ty by_ rest hv q qr bc rc hs W (tabs_of hL) o1 o2 o3 e2 (by omega) (by omega) (fun p hp => by have := o7 p hp; omega) (by omega) (by omega)
  refine hw.mono fun e W' ⟨he, bel⟩ => ?_
  subst he
  have t0 := Below.trod laidOut (by kernel_rfl) (of_decide_eq_true (by kernel_rfl)) k0 bel lt0
  have t1 := Below.trod laidOut (by kernel_rfl) (of_decide_eq_true (by kernel_rfl)) k1 bel lt1
  exact ⟨_, rfl, _, _, _, [], _, [], hW', trodAll_mk1 (shut_bool Tryz.underlying4 _), (trodAll_cons_mk t0 (trodAll_cons_mk t1 trodAll_mk0)), rfl, bel.frame _, fun h => by cases h⟩

theorem reads (os : Os) {H : Type} (enc : TypeId × Value → H) : ∃ places, DataW.whole enc Tryz.prog ((laidWorld os).forCall (fun _ _ => 0) ⟨#[], #[.agg #[.string ⟨#[]⟩, .slice none 0 0, .slice none 0 0], .slice none 0 0], []⟩).memory Tryz.f5.params.toList Rows.fnBackSpec.vars false #[Value.agg #[.string ⟨#[]⟩, .slice none 0 0, .slice none 0 0], .slice none 0 0].toList 8 = some ([.agg [.lit (.string []), .nil, .nil], .nil], [], places) :=
  ⟨[], by kernel_rfl⟩

set_option maxRecDepth 100000 in
theorem lifted (os : Os) (started : os.Started) (H : Type) (enc : TypeId × Value → H) (F : Stop.Interp) :
    ReturnsInHanded {} Tryz.checked os 5 .any ((Rows.OpenSpec.upto Rows.fnBackSpec).preRow enc Tryz.prog Tryz.f5 Rows.fnBackUptoRow.domain false Rows.fnBackUptoRow.laid) (((Rows.OpenSpec.upto Rows.fnBackSpec).at F).post enc Tryz.prog Tryz.f5 false true false false) := by
  obtain ⟨places, hx⟩ := reads os enc
  refine returnsInHanded_of_row (C := Tryz.checked) (s := Rows.OpenSpec.upto Rows.fnBackSpec) own started (by kernel_rfl) Tryz.func5
    (witness_row_atRef (enc := enc) (C := Tryz.checked) false (laidWorld os) #[.agg #[.string ⟨#[]⟩, .slice none 0 0, .slice none 0 0], .slice none 0 0] rfl (by kernel_rfl) (by kernel_rfl) (by kernel_rfl)
      (OpenSpec.preRow_of_cond 8 hx (by kernel_rfl) (fun k hk => by cases hk; kernel_rfl) (by kernel_rfl) (laid_met os _))) ?_
  intro W base args ds gs before hval hW _ hcond _ hL _ _
  exact contract H enc W base args ds gs before hval hW (hcond _ rfl) hL

theorem saidUpto : Rows.FnBackUptoSaid :=
  OpenClaim.holds_of_cond 5 Tryz.f5 rfl rfl rfl rfl rfl rfl rfl ⟨rfl, rfl, rfl, rfl, rfl⟩ rfl rfl rfl rfl rfl (by kernel_rfl) Tryz.func5 (by kernel_rfl)
    (of_decide_eq_true (by kernel_rfl)) (by unfold Func.isWrapper; first | (rw [if_pos (by decide +kernel)]; kernel_rfl) | (rw [if_neg (by decide +kernel)]; exact ⟨rfl, rfl⟩))
    (fun os started H enc _ F => by rw [OpenClaim.pre_eq_preRow]; exact lifted os started H enc F)

/-- No parameter wants a stand-in; the program's own looks are off: what the card asks. -/
theorem plain (f : FuncId) (fn : Func) (hf : Tryz.pinned.checked.prog.funcNamed "pemblocks/laws.FnBack" = some f) (hfn : Tryz.pinned.checked.prog.funcs[f]? = some fn) :
    false = Tryz.pinned.checked.prog.looks [] ∧ ∀ (j : Nat) t, fn.params[j]? = some t → Tryz.pinned.checked.prog.wantsStandIn t = false := by
  obtain rfl : f = 5 := Option.some.inj ((show Tryz.prog.funcNamed "pemblocks/laws.FnBack" = some 5 by kernel_rfl).symm.trans hf) |>.symm
  obtain rfl : fn = Tryz.f5 := (Option.some.inj (Tryz.func5.symm.trans hfn)).symm
  refine ⟨by kernel_rfl, fun j t ht => ?_⟩
  rw [Tryz.params5] at ht
  have hm := Array.mem_of_getElem? ht
  simp at hm
  rcases hm with rfl | rfl
  · exact (show Tryz.prog.wantsStandIn 25 = false by kernel_rfl)
  · exact (show Tryz.prog.wantsStandIn 23 = false by kernel_rfl)
end Go.Proofs.YtpjehmblndjknaaGreatDoor.fnBack
namespace Go.Proofs.YtpjehmblndjknaaGreatDoor
theorem fnBackUpto_card : Rows.FnBackUptoCardSaid :=
  Claim7.holds_tied_plain_at .later [] _ _ _ _ fnBack.saidUpto (fun _ h => by cases h) (by kernel_rfl) (fun _ h => by cases h) fnBackUpto_row_tie rfl ⟨rfl, rfl⟩ (by kernel_rfl) rfl fnBack.plain (by kernel_rfl)
#print axioms fnBackUpto_card
end Go.Proofs.YtpjehmblndjknaaGreatDoor
