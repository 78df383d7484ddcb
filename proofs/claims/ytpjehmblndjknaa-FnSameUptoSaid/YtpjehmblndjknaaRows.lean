/-
  No cell of these rows narrows 'for every input' (looked for: loops, veiled, ifaces, maps, wideKeys, modest, calm, conditions, laid).
  DERIVED. THE GIVEN ROWS OF THIS SEAT. 7 by the template 'for every input the law returns true; each argument reads behind the call as it read before'; 0 by the template 'total and deterministic' (their statements: YtpjehmblndjknaaTotals.lean).
  GIVEN WITH THE SEED: the statements are not yours to turn. If you find one false, say at which input.
  Laid BY PROGRAM, IN A SANDBOX (cutbox-rows.mjs): the forced cells as the released guide's own fill.sh prints them over the translation 9ea0983cbc0163ed… (all of the seat's roots in one cut). By AI agents, Wed Nov 11 2026. No macro, syntax, notation, axiom, sorry.
-/
import Derived.Test.YtpjehmblndjknaaChecked
import GoSem.Claim
import GoSem.ClaimJoined
import GoSem.ClaimMapViews
import Derived.JoinedTies
import Derived.KernelRfl
namespace Go.Proofs.Ytpjehmblndjknaa
/- THE CELL 'sum', in the pinned program and in every row, IS THE sha256 OF THE DUMP (.gsa) THAT YtpjehmblndjknaaProg.lean LOADS. Nothing in Lean hashes anything: it is a label: what it is worth is what the hold of that sum in a sandbox is worth. -/
noncomputable def Try.pinned : Pinned := { name := "ytpjehmblndjknaa", sum := "9ea0983cbc0163ed8559642e35dd946aac5c147574a7b89c813593cf0adbe109", checked := Try.checked }
namespace Rows
def none {H : Type} : Left H := { results := [], args := [] }

/-- 'laws.FnSolid': WHATEVER THE INPUT: true; the input reads as it did. -/
def fnSolidSpec : ChangeSpec := { name := "fnSolid", fn := fun _ => fun
  | [d] => { results := [.lit (.bool true)], args := [d] }
  | _ => none }
def fnSolidRow : OpenClaim := { program := "ytpjehmblndjknaa", sum := "9ea0983cbc0163ed8559642e35dd946aac5c147574a7b89c813593cf0adbe109", func := "pemblocks/laws.FnSolid", spec := "fnSolid", apart := false }
def FnSolidSaid : Prop := fnSolidRow.holds Try.pinned (OpenSpec.ofChange fnSolidSpec)

/-- ITS FALSE NEIGHBOUR: 'it returns false'. Refute it at one input. -/
def fnSolidWrong : ChangeSpec := { name := "fnSolid", fn := fun _ => fun
  | [d] => { results := [.lit (.bool false)], args := [d] }
  | _ => none }
def FnSolidWrongFalsely : Prop := fnSolidRow.holds Try.pinned (OpenSpec.ofChange fnSolidWrong)

/-- 'laws.FnBroken': WHATEVER THE INPUT: true; the input reads as it did. -/
def fnBrokenSpec : ChangeSpec := { name := "fnBroken", fn := fun _ => fun
  | [d] => { results := [.lit (.bool true)], args := [d] }
  | _ => none }
def fnBrokenRow : OpenClaim := { program := "ytpjehmblndjknaa", sum := "9ea0983cbc0163ed8559642e35dd946aac5c147574a7b89c813593cf0adbe109", func := "pemblocks/laws.FnBroken", spec := "fnBroken", unfollowed := true, recurses := true, apart := false }
def FnBrokenSaid : Prop := fnBrokenRow.holds Try.pinned (OpenSpec.ofChange fnBrokenSpec)

/-- ITS FALSE NEIGHBOUR: 'it returns false'. Refute it at one input. -/
def fnBrokenWrong : ChangeSpec := { name := "fnBroken", fn := fun _ => fun
  | [d] => { results := [.lit (.bool false)], args := [d] }
  | _ => none }
def FnBrokenWrongFalsely : Prop := fnBrokenRow.holds Try.pinned (OpenSpec.ofChange fnBrokenWrong)

/-- 'laws.FnForm': WHATEVER THE INPUT: true; the input reads as it did. -/
def fnFormSpec : ChangeSpec := { name := "fnForm", fn := fun _ => fun
  | [d] => { results := [.lit (.bool true)], args := [d] }
  | _ => none }
def fnFormRow : OpenClaim := { program := "ytpjehmblndjknaa", sum := "9ea0983cbc0163ed8559642e35dd946aac5c147574a7b89c813593cf0adbe109", func := "pemblocks/laws.FnForm", spec := "fnForm", unfollowed := true, recurses := true, apart := false }
def FnFormSaid : Prop := fnFormRow.holds Try.pinned (OpenSpec.ofChange fnFormSpec)

/-- ITS FALSE NEIGHBOUR: 'it returns false'. Refute it at one input. -/
def fnFormWrong : ChangeSpec := { name := "fnForm", fn := fun _ => fun
  | [d] => { results := [.lit (.bool false)], args := [d] }
  | _ => none }
def FnFormWrongFalsely : Prop := fnFormRow.holds Try.pinned (OpenSpec.ofChange fnFormWrong)

/-- 'laws.FnProcType': WHATEVER THE INPUT: true; the input reads as it did. -/
def fnProcTypeSpec : ChangeSpec := { name := "fnProcType", fn := fun _ => fun
  | [d1, d2] => { results := [.lit (.bool true)], args := [d1, d2] }
  | _ => none }
def fnProcTypeRow : OpenClaim := { program := "ytpjehmblndjknaa", sum := "9ea0983cbc0163ed8559642e35dd946aac5c147574a7b89c813593cf0adbe109", func := "pemblocks/laws.FnProcType", spec := "fnProcType", unfollowed := true, recurses := true, apart := false }
def FnProcTypeSaid : Prop := fnProcTypeRow.holds Try.pinned (OpenSpec.ofChange fnProcTypeSpec)

/-- ITS FALSE NEIGHBOUR: 'it returns false'. Refute it at one input. -/
def fnProcTypeWrong : ChangeSpec := { name := "fnProcType", fn := fun _ => fun
  | [d1, d2] => { results := [.lit (.bool false)], args := [d1, d2] }
  | _ => none }
def FnProcTypeWrongFalsely : Prop := fnProcTypeRow.holds Try.pinned (OpenSpec.ofChange fnProcTypeWrong)

/-- 'laws.FnColon': WHATEVER THE INPUT: true; the input reads as it did. -/
def fnColonSpec : ChangeSpec := { name := "fnColon", fn := fun _ => fun
  | [d1, d2, d3, d4] => { results := [.lit (.bool true)], args := [d1, d2, d3, d4] }
  | _ => none }
def fnColonRow : OpenClaim := { program := "ytpjehmblndjknaa", sum := "9ea0983cbc0163ed8559642e35dd946aac5c147574a7b89c813593cf0adbe109", func := "pemblocks/laws.FnColon", spec := "fnColon", inPlace := ["internal/reflectlite.TypeOf"], unfollowed := true, recurses := true, apart := false }
def FnColonSaid : Prop := fnColonRow.holds Try.pinned (OpenSpec.ofChange fnColonSpec)

/-- ITS FALSE NEIGHBOUR: 'it returns false'. Refute it at one input. -/
def fnColonWrong : ChangeSpec := { name := "fnColon", fn := fun _ => fun
  | [d1, d2, d3, d4] => { results := [.lit (.bool false)], args := [d1, d2, d3, d4] }
  | _ => none }
def FnColonWrongFalsely : Prop := fnColonRow.holds Try.pinned (OpenSpec.ofChange fnColonWrong)

/-- 'laws.FnSame': WHATEVER THE INPUT: true; the input reads as it did. -/
def fnSameSpec : ChangeSpec := { name := "fnSame", fn := fun _ => fun
  | [d] => { results := [.lit (.bool true)], args := [d] }
  | _ => none }
def fnSameRow : OpenClaim := { program := "ytpjehmblndjknaa", sum := "9ea0983cbc0163ed8559642e35dd946aac5c147574a7b89c813593cf0adbe109", func := "pemblocks/laws.FnSame", spec := "fnSame", inPlace := ["internal/reflectlite.TypeOf"], unfollowed := true, recurses := true, apart := false }
def FnSameSaid : Prop := fnSameRow.holds Try.pinned (OpenSpec.ofChange fnSameSpec)

/-- ITS FALSE NEIGHBOUR: 'it returns false'. Refute it at one input. -/
def fnSameWrong : ChangeSpec := { name := "fnSame", fn := fun _ => fun
  | [d] => { results := [.lit (.bool false)], args := [d] }
  | _ => none }
def FnSameWrongFalsely : Prop := fnSameRow.holds Try.pinned (OpenSpec.ofChange fnSameWrong)

/-- 'laws.FnWriteFails': WHATEVER THE INPUT: true; the input reads as it did. -/
def fnWriteFailsSpec : ChangeSpec := { name := "fnWriteFails", fn := fun _ => fun
  | [d1, d2] => { results := [.lit (.bool true)], args := [d1, d2] }
  | _ => none }
def fnWriteFailsRow : OpenClaim := { program := "ytpjehmblndjknaa", sum := "9ea0983cbc0163ed8559642e35dd946aac5c147574a7b89c813593cf0adbe109", func := "pemblocks/laws.FnWriteFails", spec := "fnWriteFails", inPlace := ["internal/reflectlite.TypeOf"], unfollowed := true, recurses := true, apart := false }
def FnWriteFailsSaid : Prop := fnWriteFailsRow.holds Try.pinned (OpenSpec.ofChange fnWriteFailsSpec)

/-- ITS FALSE NEIGHBOUR: 'it returns false'. Refute it at one input. -/
def fnWriteFailsWrong : ChangeSpec := { name := "fnWriteFails", fn := fun _ => fun
  | [d1, d2] => { results := [.lit (.bool false)], args := [d1, d2] }
  | _ => none }
def FnWriteFailsWrongFalsely : Prop := fnWriteFailsRow.holds Try.pinned (OpenSpec.ofChange fnWriteFailsWrong)

/- THE SECOND FORM. 'bulk': how many values and letters a reading holds, each counted each time it is reached (what is shared counts as often as it is met; a slice's spare places count too). A statement '..UptoSaid' is the law's where the arguments, and the package variables that the reading takes, are together of bulk at most 1048576: NARROWER than '..Said'. Prove '..Said' where nothing that the law and all that it calls make is longer than what came in: it says more and counts as full. Else prove '..UptoSaid'. A law counts once. -/
mutual
def uptoBulk {H : Type} : DataW H → Nat
  | .lit (.string bytes) => bytes.length + 1
  | .lit _ => 1
  | .nil => 1
  | .ptr d => uptoBulk d + 1
  | .slice elems spare => uptoBulkAll elems + uptoBulkAll spare + 1
  | .agg parts => uptoBulkAll parts + 1
  | .iface _ d => uptoBulk d + 1
  | .map entries => uptoBulkEntries entries + 1
  | .held _ => 1
def uptoBulkAll {H : Type} : List (DataW H) → Nat
  | [] => 0
  | d :: r => uptoBulk d + uptoBulkAll r
def uptoBulkEntries {H : Type} : List (Lit × DataW H) → Nat
  | [] => 0
  | x :: r => uptoBulkEntry x + uptoBulkEntries r
def uptoBulkEntry {H : Type} : Lit × DataW H → Nat
  | (.string bytes, d) => bytes.length + uptoBulk d + 1
  | (_, d) => uptoBulk d + 1
 end
def uptoSmall : (H : Type) → List (DataW H) → Bool := fun _ ds => decide (uptoBulkAll ds ≤ 1048576)
def OpenSpec.upto (s : _root_.Go.ChangeSpec) : _root_.Go.OpenSpec := { _root_.Go.OpenSpec.ofChange s with cond := some uptoSmall }

/-- 'laws.FnSolid', WHERE WHAT IT READS IS OF BULK AT MOST 1048576: true; the input reads as it did. -/
def fnSolidUptoRow : OpenClaim := { program := "ytpjehmblndjknaa", sum := "9ea0983cbc0163ed8559642e35dd946aac5c147574a7b89c813593cf0adbe109", func := "pemblocks/laws.FnSolid", spec := "fnSolid", apart := false, narrowed := true }
def FnSolidUptoSaid : Prop := fnSolidUptoRow.holds Try.pinned (OpenSpec.upto fnSolidSpec)

/-- 'laws.FnBroken', WHERE WHAT IT READS IS OF BULK AT MOST 1048576: true; the input reads as it did. -/
def fnBrokenUptoRow : OpenClaim := { program := "ytpjehmblndjknaa", sum := "9ea0983cbc0163ed8559642e35dd946aac5c147574a7b89c813593cf0adbe109", func := "pemblocks/laws.FnBroken", spec := "fnBroken", unfollowed := true, recurses := true, apart := false, narrowed := true }
def FnBrokenUptoSaid : Prop := fnBrokenUptoRow.holds Try.pinned (OpenSpec.upto fnBrokenSpec)

/-- 'laws.FnForm', WHERE WHAT IT READS IS OF BULK AT MOST 1048576: true; the input reads as it did. -/
def fnFormUptoRow : OpenClaim := { program := "ytpjehmblndjknaa", sum := "9ea0983cbc0163ed8559642e35dd946aac5c147574a7b89c813593cf0adbe109", func := "pemblocks/laws.FnForm", spec := "fnForm", unfollowed := true, recurses := true, apart := false, narrowed := true }
def FnFormUptoSaid : Prop := fnFormUptoRow.holds Try.pinned (OpenSpec.upto fnFormSpec)

/-- 'laws.FnProcType', WHERE WHAT IT READS IS OF BULK AT MOST 1048576: true; the input reads as it did. -/
def fnProcTypeUptoRow : OpenClaim := { program := "ytpjehmblndjknaa", sum := "9ea0983cbc0163ed8559642e35dd946aac5c147574a7b89c813593cf0adbe109", func := "pemblocks/laws.FnProcType", spec := "fnProcType", unfollowed := true, recurses := true, apart := false, narrowed := true }
def FnProcTypeUptoSaid : Prop := fnProcTypeUptoRow.holds Try.pinned (OpenSpec.upto fnProcTypeSpec)

/-- 'laws.FnColon', WHERE WHAT IT READS IS OF BULK AT MOST 1048576: true; the input reads as it did. -/
def fnColonUptoRow : OpenClaim := { program := "ytpjehmblndjknaa", sum := "9ea0983cbc0163ed8559642e35dd946aac5c147574a7b89c813593cf0adbe109", func := "pemblocks/laws.FnColon", spec := "fnColon", inPlace := ["internal/reflectlite.TypeOf"], unfollowed := true, recurses := true, apart := false, narrowed := true }
def FnColonUptoSaid : Prop := fnColonUptoRow.holds Try.pinned (OpenSpec.upto fnColonSpec)

/-- 'laws.FnSame', WHERE WHAT IT READS IS OF BULK AT MOST 1048576: true; the input reads as it did. -/
def fnSameUptoRow : OpenClaim := { program := "ytpjehmblndjknaa", sum := "9ea0983cbc0163ed8559642e35dd946aac5c147574a7b89c813593cf0adbe109", func := "pemblocks/laws.FnSame", spec := "fnSame", inPlace := ["internal/reflectlite.TypeOf"], unfollowed := true, recurses := true, apart := false, narrowed := true }
def FnSameUptoSaid : Prop := fnSameUptoRow.holds Try.pinned (OpenSpec.upto fnSameSpec)

/-- 'laws.FnWriteFails', WHERE WHAT IT READS IS OF BULK AT MOST 1048576: true; the input reads as it did. -/
def fnWriteFailsUptoRow : OpenClaim := { program := "ytpjehmblndjknaa", sum := "9ea0983cbc0163ed8559642e35dd946aac5c147574a7b89c813593cf0adbe109", func := "pemblocks/laws.FnWriteFails", spec := "fnWriteFails", inPlace := ["internal/reflectlite.TypeOf"], unfollowed := true, recurses := true, apart := false, narrowed := true }
def FnWriteFailsUptoSaid : Prop := fnWriteFailsUptoRow.holds Try.pinned (OpenSpec.upto fnWriteFailsSpec)

end Rows
end Go.Proofs.Ytpjehmblndjknaa
