/-
  NARROWER THAN 'FOR EVERY INPUT', by the rows' own cells (each row's printed sentence says how): FnAfterText: laid · FnAny: laid · FnBack: laid · FnBad: laid · FnBlanks: laid · FnInLine: laid · FnLineEnds: laid · FnSeveral: laid.
  DERIVED. THE GIVEN ROWS OF THIS SEAT. 8 by the template 'for every input the law returns true; each argument reads behind the call as it read before'; 0 by the template 'total and deterministic' (their statements: YtpjehmblndjknaaGreatDoorTotals.lean).
  GIVEN WITH THE SEED: the statements are not yours to turn. If you find one false, say at which input.
  Laid BY PROGRAM, IN A SANDBOX (cutbox-rows.mjs): the forced cells as the released guide's own fill.sh prints them over the translation 600930536b1cb093… (all of the seat's roots in one cut). By AI agents, Wed Nov 11 2026. No macro, syntax, notation, axiom, sorry.
-/
import Derived.Test.YtpjehmblndjknaaGreatDoorChecked
import GoSem.PinnedTables
import GoSem.Claim
import GoSem.ClaimJoined
import GoSem.ClaimMapViews
import Derived.JoinedTies
import Derived.KernelRfl
namespace Go.Proofs.YtpjehmblndjknaaGreatDoor
/- THE CELL 'sum', in the pinned program and in every row, IS THE sha256 OF THE DUMP (.gsa) THAT YtpjehmblndjknaaGreatDoorProg.lean LOADS. Nothing in Lean hashes anything: it is a label: what it is worth is what the hold of that sum in a sandbox is worth. -/
noncomputable def Tryz.pinned : Pinned := { name := "ytpjehmblndjknaagreatdoor", sum := "600930536b1cb093c6408a297813532c9bd62298e39039c1869e5863320553e0", checked := Tryz.checked }
namespace Rows
def none {H : Type} : Left H := { results := [], args := [] }

/- WHAT THE LISTED PACKAGE-LEVEL VARIABLES READ AS WHEN THE CALL BEGINS. Each datum BY PROGRAM (the guide's laid-datum.mjs) off the statement by which the dump's own 'gosem.cut.vars' lays the variable. In a bare row this is a premise. The card (YtpjehmblndjknaaGreatDoorCards.lean) ties it to the program's text. -/
def laid_unicode_utf8_acceptRanges {H : Type} : DataW H := .agg [.agg [.lit (.int .u8 128), .lit (.int .u8 191)], .agg [.lit (.int .u8 160), .lit (.int .u8 191)], .agg [.lit (.int .u8 128), .lit (.int .u8 159)], .agg [.lit (.int .u8 144), .lit (.int .u8 191)], .agg [.lit (.int .u8 128), .lit (.int .u8 143)], .agg [.lit (.int .u8 0), .lit (.int .u8 0)], .agg [.lit (.int .u8 0), .lit (.int .u8 0)], .agg [.lit (.int .u8 0), .lit (.int .u8 0)], .agg [.lit (.int .u8 0), .lit (.int .u8 0)], .agg [.lit (.int .u8 0), .lit (.int .u8 0)], .agg [.lit (.int .u8 0), .lit (.int .u8 0)], .agg [.lit (.int .u8 0), .lit (.int .u8 0)], .agg [.lit (.int .u8 0), .lit (.int .u8 0)], .agg [.lit (.int .u8 0), .lit (.int .u8 0)], .agg [.lit (.int .u8 0), .lit (.int .u8 0)], .agg [.lit (.int .u8 0), .lit (.int .u8 0)]]
def laid_unicode_White_Space {H : Type} : DataW H := .ptr (.agg [.slice [.agg [.lit (.int .u16 9), .lit (.int .u16 13), .lit (.int .u16 1)], .agg [.lit (.int .u16 32), .lit (.int .u16 133), .lit (.int .u16 101)], .agg [.lit (.int .u16 160), .lit (.int .u16 5760), .lit (.int .u16 5600)], .agg [.lit (.int .u16 8192), .lit (.int .u16 8202), .lit (.int .u16 1)], .agg [.lit (.int .u16 8232), .lit (.int .u16 8233), .lit (.int .u16 1)], .agg [.lit (.int .u16 8239), .lit (.int .u16 8287), .lit (.int .u16 48)], .agg [.lit (.int .u16 12288), .lit (.int .u16 12288), .lit (.int .u16 1)]] [], .nil, .lit (.int .i64 2)])
def laid_bytes_asciiSpace {H : Type} : DataW H := .agg [.lit (.int .u8 0), .lit (.int .u8 0), .lit (.int .u8 0), .lit (.int .u8 0), .lit (.int .u8 0), .lit (.int .u8 0), .lit (.int .u8 0), .lit (.int .u8 0), .lit (.int .u8 0), .lit (.int .u8 1), .lit (.int .u8 1), .lit (.int .u8 1), .lit (.int .u8 1), .lit (.int .u8 1), .lit (.int .u8 0), .lit (.int .u8 0), .lit (.int .u8 0), .lit (.int .u8 0), .lit (.int .u8 0), .lit (.int .u8 0), .lit (.int .u8 0), .lit (.int .u8 0), .lit (.int .u8 0), .lit (.int .u8 0), .lit (.int .u8 0), .lit (.int .u8 0), .lit (.int .u8 0), .lit (.int .u8 0), .lit (.int .u8 0), .lit (.int .u8 0), .lit (.int .u8 0), .lit (.int .u8 0), .lit (.int .u8 1), .lit (.int .u8 0), .lit (.int .u8 0), .lit (.int .u8 0), .lit (.int .u8 0), .lit (.int .u8 0), .lit (.int .u8 0), .lit (.int .u8 0), .lit (.int .u8 0), .lit (.int .u8 0), .lit (.int .u8 0), .lit (.int .u8 0), .lit (.int .u8 0), .lit (.int .u8 0), .lit (.int .u8 0), .lit (.int .u8 0), .lit (.int .u8 0), .lit (.int .u8 0), .lit (.int .u8 0), .lit (.int .u8 0), .lit (.int .u8 0), .lit (.int .u8 0), .lit (.int .u8 0), .lit (.int .u8 0), .lit (.int .u8 0), .lit (.int .u8 0), .lit (.int .u8 0), .lit (.int .u8 0), .lit (.int .u8 0), .lit (.int .u8 0), .lit (.int .u8 0), .lit (.int .u8 0), .lit (.int .u8 0), .lit (.int .u8 0), .lit (.int .u8 0), .lit (.int .u8 0), .lit (.int .u8 0), .lit (.int .u8 0), .lit (.int .u8 0), .lit (.int .u8 0), .lit (.int .u8 0), .lit (.int .u8 0), .lit (.int .u8 0), .lit (.int .u8 0), .lit (.int .u8 0), .lit (.int .u8 0), .lit (.int .u8 0), .lit (.int .u8 0), .lit (.int .u8 0), .lit (.int .u8 0), .lit (.int .u8 0), .lit (.int .u8 0), .lit (.int .u8 0), .lit (.int .u8 0), .lit (.int .u8 0), .lit (.int .u8 0), .lit (.int .u8 0), .lit (.int .u8 0), .lit (.int .u8 0), .lit (.int .u8 0), .lit (.int .u8 0), .lit (.int .u8 0), .lit (.int .u8 0), .lit (.int .u8 0), .lit (.int .u8 0), .lit (.int .u8 0), .lit (.int .u8 0), .lit (.int .u8 0), .lit (.int .u8 0), .lit (.int .u8 0), .lit (.int .u8 0), .lit (.int .u8 0), .lit (.int .u8 0), .lit (.int .u8 0), .lit (.int .u8 0), .lit (.int .u8 0), .lit (.int .u8 0), .lit (.int .u8 0), .lit (.int .u8 0), .lit (.int .u8 0), .lit (.int .u8 0), .lit (.int .u8 0), .lit (.int .u8 0), .lit (.int .u8 0), .lit (.int .u8 0), .lit (.int .u8 0), .lit (.int .u8 0), .lit (.int .u8 0), .lit (.int .u8 0), .lit (.int .u8 0), .lit (.int .u8 0), .lit (.int .u8 0), .lit (.int .u8 0), .lit (.int .u8 0), .lit (.int .u8 0), .lit (.int .u8 0), .lit (.int .u8 0), .lit (.int .u8 0), .lit (.int .u8 0), .lit (.int .u8 0), .lit (.int .u8 0), .lit (.int .u8 0), .lit (.int .u8 0), .lit (.int .u8 0), .lit (.int .u8 0), .lit (.int .u8 0), .lit (.int .u8 0), .lit (.int .u8 0), .lit (.int .u8 0), .lit (.int .u8 0), .lit (.int .u8 0), .lit (.int .u8 0), .lit (.int .u8 0), .lit (.int .u8 0), .lit (.int .u8 0), .lit (.int .u8 0), .lit (.int .u8 0), .lit (.int .u8 0), .lit (.int .u8 0), .lit (.int .u8 0), .lit (.int .u8 0), .lit (.int .u8 0), .lit (.int .u8 0), .lit (.int .u8 0), .lit (.int .u8 0), .lit (.int .u8 0), .lit (.int .u8 0), .lit (.int .u8 0), .lit (.int .u8 0), .lit (.int .u8 0), .lit (.int .u8 0), .lit (.int .u8 0), .lit (.int .u8 0), .lit (.int .u8 0), .lit (.int .u8 0), .lit (.int .u8 0), .lit (.int .u8 0), .lit (.int .u8 0), .lit (.int .u8 0), .lit (.int .u8 0), .lit (.int .u8 0), .lit (.int .u8 0), .lit (.int .u8 0), .lit (.int .u8 0), .lit (.int .u8 0), .lit (.int .u8 0), .lit (.int .u8 0), .lit (.int .u8 0), .lit (.int .u8 0), .lit (.int .u8 0), .lit (.int .u8 0), .lit (.int .u8 0), .lit (.int .u8 0), .lit (.int .u8 0), .lit (.int .u8 0), .lit (.int .u8 0), .lit (.int .u8 0), .lit (.int .u8 0), .lit (.int .u8 0), .lit (.int .u8 0), .lit (.int .u8 0), .lit (.int .u8 0), .lit (.int .u8 0), .lit (.int .u8 0), .lit (.int .u8 0), .lit (.int .u8 0), .lit (.int .u8 0), .lit (.int .u8 0), .lit (.int .u8 0), .lit (.int .u8 0), .lit (.int .u8 0), .lit (.int .u8 0), .lit (.int .u8 0), .lit (.int .u8 0), .lit (.int .u8 0), .lit (.int .u8 0), .lit (.int .u8 0), .lit (.int .u8 0), .lit (.int .u8 0), .lit (.int .u8 0), .lit (.int .u8 0), .lit (.int .u8 0), .lit (.int .u8 0), .lit (.int .u8 0), .lit (.int .u8 0), .lit (.int .u8 0), .lit (.int .u8 0), .lit (.int .u8 0), .lit (.int .u8 0), .lit (.int .u8 0), .lit (.int .u8 0), .lit (.int .u8 0), .lit (.int .u8 0), .lit (.int .u8 0), .lit (.int .u8 0), .lit (.int .u8 0), .lit (.int .u8 0), .lit (.int .u8 0), .lit (.int .u8 0), .lit (.int .u8 0), .lit (.int .u8 0), .lit (.int .u8 0), .lit (.int .u8 0), .lit (.int .u8 0), .lit (.int .u8 0), .lit (.int .u8 0), .lit (.int .u8 0), .lit (.int .u8 0), .lit (.int .u8 0), .lit (.int .u8 0), .lit (.int .u8 0), .lit (.int .u8 0), .lit (.int .u8 0), .lit (.int .u8 0), .lit (.int .u8 0), .lit (.int .u8 0), .lit (.int .u8 0), .lit (.int .u8 0), .lit (.int .u8 0), .lit (.int .u8 0), .lit (.int .u8 0), .lit (.int .u8 0), .lit (.int .u8 0), .lit (.int .u8 0)]
/-- One of Go's own tables, pinned by name: the form's constant. -/
def laid_unicode_utf8_first : DataW Unit := Go.Pinned.utf8First

/-- 'laws.FnAfterText': WHATEVER THE INPUT: true; the input reads as it did. -/
def fnAfterTextSpec : ChangeSpec := { name := "fnAfterText", fn := fun _ => fun
  | [d1, d2, d3] => { results := [.lit (.bool true)], args := [d1, d2, d3] }
  | _ => none }
def fnAfterTextRow : OpenClaim := { program := "ytpjehmblndjknaagreatdoor", sum := "600930536b1cb093c6408a297813532c9bd62298e39039c1869e5863320553e0", func := "pemblocks/laws.FnAfterText", spec := "fnAfterText", inPlace := ["internal/bytealg.IndexByte"], unfollowed := true, recurses := true, named := ["unicode/utf8.first", "unicode/utf8.acceptRanges", "bytes.asciiSpace", "unicode.White_Space"], apart := false, laid := [("unicode/utf8.acceptRanges", laid_unicode_utf8_acceptRanges), ("unicode.White_Space", laid_unicode_White_Space), ("bytes.asciiSpace", laid_bytes_asciiSpace), ("unicode/utf8.first", laid_unicode_utf8_first)] }
def FnAfterTextSaid : Prop := fnAfterTextRow.holds Tryz.pinned (OpenSpec.ofChange fnAfterTextSpec)

/-- ITS FALSE NEIGHBOUR: 'it returns false'. Refute it at one input. -/
def fnAfterTextWrong : ChangeSpec := { name := "fnAfterText", fn := fun _ => fun
  | [d1, d2, d3] => { results := [.lit (.bool false)], args := [d1, d2, d3] }
  | _ => none }
def FnAfterTextWrongFalsely : Prop := fnAfterTextRow.holds Tryz.pinned (OpenSpec.ofChange fnAfterTextWrong)

/-- 'laws.FnAny': WHATEVER THE INPUT: true; the input reads as it did. -/
def fnAnySpec : ChangeSpec := { name := "fnAny", fn := fun _ => fun
  | [d] => { results := [.lit (.bool true)], args := [d] }
  | _ => none }
def fnAnyRow : OpenClaim := { program := "ytpjehmblndjknaagreatdoor", sum := "600930536b1cb093c6408a297813532c9bd62298e39039c1869e5863320553e0", func := "pemblocks/laws.FnAny", spec := "fnAny", inPlace := ["internal/bytealg.IndexByte"], unfollowed := true, recurses := true, named := ["unicode/utf8.first", "unicode/utf8.acceptRanges", "bytes.asciiSpace", "unicode.White_Space"], apart := false, laid := [("unicode/utf8.acceptRanges", laid_unicode_utf8_acceptRanges), ("unicode.White_Space", laid_unicode_White_Space), ("bytes.asciiSpace", laid_bytes_asciiSpace), ("unicode/utf8.first", laid_unicode_utf8_first)] }
def FnAnySaid : Prop := fnAnyRow.holds Tryz.pinned (OpenSpec.ofChange fnAnySpec)

/-- ITS FALSE NEIGHBOUR: 'it returns false'. Refute it at one input. -/
def fnAnyWrong : ChangeSpec := { name := "fnAny", fn := fun _ => fun
  | [d] => { results := [.lit (.bool false)], args := [d] }
  | _ => none }
def FnAnyWrongFalsely : Prop := fnAnyRow.holds Tryz.pinned (OpenSpec.ofChange fnAnyWrong)

/-- 'laws.FnBack': WHATEVER THE INPUT: true; the input reads as it did. -/
def fnBackSpec : ChangeSpec := { name := "fnBack", fn := fun _ => fun
  | [d1, d2] => { results := [.lit (.bool true)], args := [d1, d2] }
  | _ => none }
def fnBackRow : OpenClaim := { program := "ytpjehmblndjknaagreatdoor", sum := "600930536b1cb093c6408a297813532c9bd62298e39039c1869e5863320553e0", func := "pemblocks/laws.FnBack", spec := "fnBack", inPlace := ["internal/bytealg.IndexByte"], unfollowed := true, recurses := true, named := ["unicode/utf8.first", "unicode/utf8.acceptRanges", "bytes.asciiSpace", "unicode.White_Space"], apart := false, laid := [("unicode/utf8.acceptRanges", laid_unicode_utf8_acceptRanges), ("unicode.White_Space", laid_unicode_White_Space), ("bytes.asciiSpace", laid_bytes_asciiSpace), ("unicode/utf8.first", laid_unicode_utf8_first)] }
def FnBackSaid : Prop := fnBackRow.holds Tryz.pinned (OpenSpec.ofChange fnBackSpec)

/-- ITS FALSE NEIGHBOUR: 'it returns false'. Refute it at one input. -/
def fnBackWrong : ChangeSpec := { name := "fnBack", fn := fun _ => fun
  | [d1, d2] => { results := [.lit (.bool false)], args := [d1, d2] }
  | _ => none }
def FnBackWrongFalsely : Prop := fnBackRow.holds Tryz.pinned (OpenSpec.ofChange fnBackWrong)

/-- 'laws.FnBad': WHATEVER THE INPUT: true; the input reads as it did. -/
def fnBadSpec : ChangeSpec := { name := "fnBad", fn := fun _ => fun
  | [d1, d2, d3, d4] => { results := [.lit (.bool true)], args := [d1, d2, d3, d4] }
  | _ => none }
def fnBadRow : OpenClaim := { program := "ytpjehmblndjknaagreatdoor", sum := "600930536b1cb093c6408a297813532c9bd62298e39039c1869e5863320553e0", func := "pemblocks/laws.FnBad", spec := "fnBad", inPlace := ["internal/bytealg.IndexByte"], unfollowed := true, recurses := true, named := ["unicode/utf8.first", "unicode/utf8.acceptRanges", "bytes.asciiSpace", "unicode.White_Space"], apart := false, laid := [("unicode/utf8.acceptRanges", laid_unicode_utf8_acceptRanges), ("unicode.White_Space", laid_unicode_White_Space), ("bytes.asciiSpace", laid_bytes_asciiSpace), ("unicode/utf8.first", laid_unicode_utf8_first)] }
def FnBadSaid : Prop := fnBadRow.holds Tryz.pinned (OpenSpec.ofChange fnBadSpec)

/-- ITS FALSE NEIGHBOUR: 'it returns false'. Refute it at one input. -/
def fnBadWrong : ChangeSpec := { name := "fnBad", fn := fun _ => fun
  | [d1, d2, d3, d4] => { results := [.lit (.bool false)], args := [d1, d2, d3, d4] }
  | _ => none }
def FnBadWrongFalsely : Prop := fnBadRow.holds Tryz.pinned (OpenSpec.ofChange fnBadWrong)

/-- 'laws.FnBlanks': WHATEVER THE INPUT: true; the input reads as it did. -/
def fnBlanksSpec : ChangeSpec := { name := "fnBlanks", fn := fun _ => fun
  | [d1, d2] => { results := [.lit (.bool true)], args := [d1, d2] }
  | _ => none }
def fnBlanksRow : OpenClaim := { program := "ytpjehmblndjknaagreatdoor", sum := "600930536b1cb093c6408a297813532c9bd62298e39039c1869e5863320553e0", func := "pemblocks/laws.FnBlanks", spec := "fnBlanks", inPlace := ["internal/bytealg.IndexByte"], unfollowed := true, recurses := true, named := ["unicode/utf8.first", "unicode/utf8.acceptRanges", "bytes.asciiSpace", "unicode.White_Space"], apart := false, laid := [("unicode/utf8.acceptRanges", laid_unicode_utf8_acceptRanges), ("unicode.White_Space", laid_unicode_White_Space), ("bytes.asciiSpace", laid_bytes_asciiSpace), ("unicode/utf8.first", laid_unicode_utf8_first)] }
def FnBlanksSaid : Prop := fnBlanksRow.holds Tryz.pinned (OpenSpec.ofChange fnBlanksSpec)

/-- ITS FALSE NEIGHBOUR: 'it returns false'. Refute it at one input. -/
def fnBlanksWrong : ChangeSpec := { name := "fnBlanks", fn := fun _ => fun
  | [d1, d2] => { results := [.lit (.bool false)], args := [d1, d2] }
  | _ => none }
def FnBlanksWrongFalsely : Prop := fnBlanksRow.holds Tryz.pinned (OpenSpec.ofChange fnBlanksWrong)

/-- 'laws.FnInLine': WHATEVER THE INPUT: true; the input reads as it did. -/
def fnInLineSpec : ChangeSpec := { name := "fnInLine", fn := fun _ => fun
  | [d1, d2, d3] => { results := [.lit (.bool true)], args := [d1, d2, d3] }
  | _ => none }
def fnInLineRow : OpenClaim := { program := "ytpjehmblndjknaagreatdoor", sum := "600930536b1cb093c6408a297813532c9bd62298e39039c1869e5863320553e0", func := "pemblocks/laws.FnInLine", spec := "fnInLine", inPlace := ["internal/bytealg.IndexByte"], unfollowed := true, recurses := true, named := ["unicode/utf8.first", "unicode/utf8.acceptRanges", "bytes.asciiSpace", "unicode.White_Space"], apart := false, laid := [("unicode/utf8.acceptRanges", laid_unicode_utf8_acceptRanges), ("unicode.White_Space", laid_unicode_White_Space), ("bytes.asciiSpace", laid_bytes_asciiSpace), ("unicode/utf8.first", laid_unicode_utf8_first)] }
def FnInLineSaid : Prop := fnInLineRow.holds Tryz.pinned (OpenSpec.ofChange fnInLineSpec)

/-- ITS FALSE NEIGHBOUR: 'it returns false'. Refute it at one input. -/
def fnInLineWrong : ChangeSpec := { name := "fnInLine", fn := fun _ => fun
  | [d1, d2, d3] => { results := [.lit (.bool false)], args := [d1, d2, d3] }
  | _ => none }
def FnInLineWrongFalsely : Prop := fnInLineRow.holds Tryz.pinned (OpenSpec.ofChange fnInLineWrong)

/-- 'laws.FnLineEnds': WHATEVER THE INPUT: true; the input reads as it did. -/
def fnLineEndsSpec : ChangeSpec := { name := "fnLineEnds", fn := fun _ => fun
  | [d] => { results := [.lit (.bool true)], args := [d] }
  | _ => none }
def fnLineEndsRow : OpenClaim := { program := "ytpjehmblndjknaagreatdoor", sum := "600930536b1cb093c6408a297813532c9bd62298e39039c1869e5863320553e0", func := "pemblocks/laws.FnLineEnds", spec := "fnLineEnds", inPlace := ["internal/bytealg.IndexByte"], unfollowed := true, recurses := true, named := ["unicode/utf8.first", "unicode/utf8.acceptRanges", "bytes.asciiSpace", "unicode.White_Space"], apart := false, laid := [("unicode/utf8.acceptRanges", laid_unicode_utf8_acceptRanges), ("unicode.White_Space", laid_unicode_White_Space), ("bytes.asciiSpace", laid_bytes_asciiSpace), ("unicode/utf8.first", laid_unicode_utf8_first)] }
def FnLineEndsSaid : Prop := fnLineEndsRow.holds Tryz.pinned (OpenSpec.ofChange fnLineEndsSpec)

/-- ITS FALSE NEIGHBOUR: 'it returns false'. Refute it at one input. -/
def fnLineEndsWrong : ChangeSpec := { name := "fnLineEnds", fn := fun _ => fun
  | [d] => { results := [.lit (.bool false)], args := [d] }
  | _ => none }
def FnLineEndsWrongFalsely : Prop := fnLineEndsRow.holds Tryz.pinned (OpenSpec.ofChange fnLineEndsWrong)

/-- 'laws.FnSeveral': WHATEVER THE INPUT: true; the input reads as it did. -/
def fnSeveralSpec : ChangeSpec := { name := "fnSeveral", fn := fun _ => fun
  | [d] => { results := [.lit (.bool true)], args := [d] }
  | _ => none }
def fnSeveralRow : OpenClaim := { program := "ytpjehmblndjknaagreatdoor", sum := "600930536b1cb093c6408a297813532c9bd62298e39039c1869e5863320553e0", func := "pemblocks/laws.FnSeveral", spec := "fnSeveral", inPlace := ["internal/bytealg.IndexByte"], unfollowed := true, recurses := true, named := ["unicode/utf8.first", "unicode/utf8.acceptRanges", "bytes.asciiSpace", "unicode.White_Space"], apart := false, laid := [("unicode/utf8.acceptRanges", laid_unicode_utf8_acceptRanges), ("unicode.White_Space", laid_unicode_White_Space), ("bytes.asciiSpace", laid_bytes_asciiSpace), ("unicode/utf8.first", laid_unicode_utf8_first)] }
def FnSeveralSaid : Prop := fnSeveralRow.holds Tryz.pinned (OpenSpec.ofChange fnSeveralSpec)

/-- ITS FALSE NEIGHBOUR: 'it returns false'. Refute it at one input. -/
def fnSeveralWrong : ChangeSpec := { name := "fnSeveral", fn := fun _ => fun
  | [d] => { results := [.lit (.bool false)], args := [d] }
  | _ => none }
def FnSeveralWrongFalsely : Prop := fnSeveralRow.holds Tryz.pinned (OpenSpec.ofChange fnSeveralWrong)

/- THE SECOND FORM. 'bulk': how many values and letters a reading holds, each counted each time it is reached (what is shared counts as often as it is met; a slice's spare places count too). A statement '..UptoSaid' is the law's where the arguments, and the package variables that the reading takes, are together of bulk at most 1048576: NARROWER than '..Said'. Prove '..Said' where nothing that the law and all that it calls make is longer than what came in: it says more and counts as full. Else prove '..UptoSaid'. A law counts once. -/
mutual
def uptoBulk {H : Type} : DataW H → Nat
  | .lit (.string bytes) => bytes.length + 1
  | .lit _ => 1
  | .nil => 1
  | .ptr d => uptoBulk d + 1
  | .slice elems spare => uptoBulkAll elems + uptoBulkAll spare + 1
  | .agg parts => uptoBulkAll parts + 1
  | .iface _ d => uptoBulk d + 1
  | .map entries => uptoBulkEntries entries + 1
  | .held _ => 1
def uptoBulkAll {H : Type} : List (DataW H) → Nat
  | [] => 0
  | d :: r => uptoBulk d + uptoBulkAll r
def uptoBulkEntries {H : Type} : List (Lit × DataW H) → Nat
  | [] => 0
  | x :: r => uptoBulkEntry x + uptoBulkEntries r
def uptoBulkEntry {H : Type} : Lit × DataW H → Nat
  | (.string bytes, d) => bytes.length + uptoBulk d + 1
  | (_, d) => uptoBulk d + 1
 end
def uptoSmall : (H : Type) → List (DataW H) → Bool := fun _ ds => decide (uptoBulkAll ds ≤ 1048576)
def OpenSpec.upto (s : _root_.Go.ChangeSpec) : _root_.Go.OpenSpec := { _root_.Go.OpenSpec.ofChange s with cond := some uptoSmall }

/-- 'laws.FnAfterText', WHERE WHAT IT READS IS OF BULK AT MOST 1048576: true; the input reads as it did. -/
def fnAfterTextUptoRow : OpenClaim := { program := "ytpjehmblndjknaagreatdoor", sum := "600930536b1cb093c6408a297813532c9bd62298e39039c1869e5863320553e0", func := "pemblocks/laws.FnAfterText", spec := "fnAfterText", inPlace := ["internal/bytealg.IndexByte"], unfollowed := true, recurses := true, named := ["unicode/utf8.first", "unicode/utf8.acceptRanges", "bytes.asciiSpace", "unicode.White_Space"], apart := false, laid := [("unicode/utf8.acceptRanges", laid_unicode_utf8_acceptRanges), ("unicode.White_Space", laid_unicode_White_Space), ("bytes.asciiSpace", laid_bytes_asciiSpace), ("unicode/utf8.first", laid_unicode_utf8_first)], narrowed := true }
def FnAfterTextUptoSaid : Prop := fnAfterTextUptoRow.holds Tryz.pinned (OpenSpec.upto fnAfterTextSpec)

/-- 'laws.FnAny', WHERE WHAT IT READS IS OF BULK AT MOST 1048576: true; the input reads as it did. -/
def fnAnyUptoRow : OpenClaim := { program := "ytpjehmblndjknaagreatdoor", sum := "600930536b1cb093c6408a297813532c9bd62298e39039c1869e5863320553e0", func := "pemblocks/laws.FnAny", spec := "fnAny", inPlace := ["internal/bytealg.IndexByte"], unfollowed := true, recurses := true, named := ["unicode/utf8.first", "unicode/utf8.acceptRanges", "bytes.asciiSpace", "unicode.White_Space"], apart := false, laid := [("unicode/utf8.acceptRanges", laid_unicode_utf8_acceptRanges), ("unicode.White_Space", laid_unicode_White_Space), ("bytes.asciiSpace", laid_bytes_asciiSpace), ("unicode/utf8.first", laid_unicode_utf8_first)], narrowed := true }
def FnAnyUptoSaid : Prop := fnAnyUptoRow.holds Tryz.pinned (OpenSpec.upto fnAnySpec)

/-- 'laws.FnBack', WHERE WHAT IT READS IS OF BULK AT MOST 1048576: true; the input reads as it did. -/
def fnBackUptoRow : OpenClaim := { program := "ytpjehmblndjknaagreatdoor", sum := "600930536b1cb093c6408a297813532c9bd62298e39039c1869e5863320553e0", func := "pemblocks/laws.FnBack", spec := "fnBack", inPlace := ["internal/bytealg.IndexByte"], unfollowed := true, recurses := true, named := ["unicode/utf8.first", "unicode/utf8.acceptRanges", "bytes.asciiSpace", "unicode.White_Space"], apart := false, laid := [("unicode/utf8.acceptRanges", laid_unicode_utf8_acceptRanges), ("unicode.White_Space", laid_unicode_White_Space), ("bytes.asciiSpace", laid_bytes_asciiSpace), ("unicode/utf8.first", laid_unicode_utf8_first)], narrowed := true }
def FnBackUptoSaid : Prop := fnBackUptoRow.holds Tryz.pinned (OpenSpec.upto fnBackSpec)

/-- 'laws.FnBad', WHERE WHAT IT READS IS OF BULK AT MOST 1048576: true; the input reads as it did. -/
def fnBadUptoRow : OpenClaim := { program := "ytpjehmblndjknaagreatdoor", sum := "600930536b1cb093c6408a297813532c9bd62298e39039c1869e5863320553e0", func := "pemblocks/laws.FnBad", spec := "fnBad", inPlace := ["internal/bytealg.IndexByte"], unfollowed := true, recurses := true, named := ["unicode/utf8.first", "unicode/utf8.acceptRanges", "bytes.asciiSpace", "unicode.White_Space"], apart := false, laid := [("unicode/utf8.acceptRanges", laid_unicode_utf8_acceptRanges), ("unicode.White_Space", laid_unicode_White_Space), ("bytes.asciiSpace", laid_bytes_asciiSpace), ("unicode/utf8.first", laid_unicode_utf8_first)], narrowed := true }
def FnBadUptoSaid : Prop := fnBadUptoRow.holds Tryz.pinned (OpenSpec.upto fnBadSpec)

/-- 'laws.FnBlanks', WHERE WHAT IT READS IS OF BULK AT MOST 1048576: true; the input reads as it did. -/
def fnBlanksUptoRow : OpenClaim := { program := "ytpjehmblndjknaagreatdoor", sum := "600930536b1cb093c6408a297813532c9bd62298e39039c1869e5863320553e0", func := "pemblocks/laws.FnBlanks", spec := "fnBlanks", inPlace := ["internal/bytealg.IndexByte"], unfollowed := true, recurses := true, named := ["unicode/utf8.first", "unicode/utf8.acceptRanges", "bytes.asciiSpace", "unicode.White_Space"], apart := false, laid := [("unicode/utf8.acceptRanges", laid_unicode_utf8_acceptRanges), ("unicode.White_Space", laid_unicode_White_Space), ("bytes.asciiSpace", laid_bytes_asciiSpace), ("unicode/utf8.first", laid_unicode_utf8_first)], narrowed := true }
def FnBlanksUptoSaid : Prop := fnBlanksUptoRow.holds Tryz.pinned (OpenSpec.upto fnBlanksSpec)

/-- 'laws.FnInLine', WHERE WHAT IT READS IS OF BULK AT MOST 1048576: true; the input reads as it did. -/
def fnInLineUptoRow : OpenClaim := { program := "ytpjehmblndjknaagreatdoor", sum := "600930536b1cb093c6408a297813532c9bd62298e39039c1869e5863320553e0", func := "pemblocks/laws.FnInLine", spec := "fnInLine", inPlace := ["internal/bytealg.IndexByte"], unfollowed := true, recurses := true, named := ["unicode/utf8.first", "unicode/utf8.acceptRanges", "bytes.asciiSpace", "unicode.White_Space"], apart := false, laid := [("unicode/utf8.acceptRanges", laid_unicode_utf8_acceptRanges), ("unicode.White_Space", laid_unicode_White_Space), ("bytes.asciiSpace", laid_bytes_asciiSpace), ("unicode/utf8.first", laid_unicode_utf8_first)], narrowed := true }
def FnInLineUptoSaid : Prop := fnInLineUptoRow.holds Tryz.pinned (OpenSpec.upto fnInLineSpec)

/-- 'laws.FnLineEnds', WHERE WHAT IT READS IS OF BULK AT MOST 1048576: true; the input reads as it did. -/
def fnLineEndsUptoRow : OpenClaim := { program := "ytpjehmblndjknaagreatdoor", sum := "600930536b1cb093c6408a297813532c9bd62298e39039c1869e5863320553e0", func := "pemblocks/laws.FnLineEnds", spec := "fnLineEnds", inPlace := ["internal/bytealg.IndexByte"], unfollowed := true, recurses := true, named := ["unicode/utf8.first", "unicode/utf8.acceptRanges", "bytes.asciiSpace", "unicode.White_Space"], apart := false, laid := [("unicode/utf8.acceptRanges", laid_unicode_utf8_acceptRanges), ("unicode.White_Space", laid_unicode_White_Space), ("bytes.asciiSpace", laid_bytes_asciiSpace), ("unicode/utf8.first", laid_unicode_utf8_first)], narrowed := true }
def FnLineEndsUptoSaid : Prop := fnLineEndsUptoRow.holds Tryz.pinned (OpenSpec.upto fnLineEndsSpec)

/-- 'laws.FnSeveral', WHERE WHAT IT READS IS OF BULK AT MOST 1048576: true; the input reads as it did. -/
def fnSeveralUptoRow : OpenClaim := { program := "ytpjehmblndjknaagreatdoor", sum := "600930536b1cb093c6408a297813532c9bd62298e39039c1869e5863320553e0", func := "pemblocks/laws.FnSeveral", spec := "fnSeveral", inPlace := ["internal/bytealg.IndexByte"], unfollowed := true, recurses := true, named := ["unicode/utf8.first", "unicode/utf8.acceptRanges", "bytes.asciiSpace", "unicode.White_Space"], apart := false, laid := [("unicode/utf8.acceptRanges", laid_unicode_utf8_acceptRanges), ("unicode.White_Space", laid_unicode_White_Space), ("bytes.asciiSpace", laid_bytes_asciiSpace), ("unicode/utf8.first", laid_unicode_utf8_first)], narrowed := true }
def FnSeveralUptoSaid : Prop := fnSeveralUptoRow.holds Tryz.pinned (OpenSpec.upto fnSeveralSpec)

end Rows
end Go.Proofs.YtpjehmblndjknaaGreatDoor
