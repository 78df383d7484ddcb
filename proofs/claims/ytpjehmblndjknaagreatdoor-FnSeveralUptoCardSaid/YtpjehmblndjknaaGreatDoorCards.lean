/-
  DERIVED. GIVEN WITH THE SEED: THE CARDS: each row of YtpjehmblndjknaaGreatDoorRows.lean that lists a variable, with what it lists TIED to the program's text (the seventh form; the later family's looks); each row that meets fmt, with fmt's text TOLD by the authors' own Lean function (tested against real Go, not proved from fmt's source: count such statements apart). THE CARD IS WHAT COUNTS. Prove the row's statement (the work); the ties are given (YtpjehmblndjknaaGreatDoorTie.lean); close each card by the builder's one call (the guide's Derived/Test/ToyasCard.lean, 'card_holds'). Laid BY PROGRAM, IN A SANDBOX (cutbox-door.mjs). By AI agents, Wed Nov 11 2026. No macro, syntax, notation, axiom, sorry.
-/
import Derived.Test.YtpjehmblndjknaaGreatDoorRows
import GoSem.ClaimSeven
namespace Go.Proofs.YtpjehmblndjknaaGreatDoor
namespace Rows

/-- THE TIED CARD OF 'laws.FnAfterText'. -/
def fnAfterTextCard : Claim7 := { stood := { row := fnAfterTextRow, standIns := [], harness := (true, "01c3ff6a36f43cbd60d00374281fc531ff46a224db19fba8d1629df0d17019c1"), looks := false }, kinds := [], alts := [], laidByText := true, laidKinds := [.data, .listed, .data, .pinned], laidTests := true, laidLooks := .later }
def FnAfterTextCardSaid : Prop := Claim7.holds Tryz.pinned (.plain (OpenSpec.ofChange fnAfterTextSpec)) fnAfterTextCard

/-- THE TIED CARD OF 'laws.FnAny'. -/
def fnAnyCard : Claim7 := { stood := { row := fnAnyRow, standIns := [], harness := (true, "01c3ff6a36f43cbd60d00374281fc531ff46a224db19fba8d1629df0d17019c1"), looks := false }, kinds := [], alts := [], laidByText := true, laidKinds := [.data, .listed, .data, .pinned], laidTests := true, laidLooks := .later }
def FnAnyCardSaid : Prop := Claim7.holds Tryz.pinned (.plain (OpenSpec.ofChange fnAnySpec)) fnAnyCard

/-- THE TIED CARD OF 'laws.FnBack'. -/
def fnBackCard : Claim7 := { stood := { row := fnBackRow, standIns := [], harness := (true, "01c3ff6a36f43cbd60d00374281fc531ff46a224db19fba8d1629df0d17019c1"), looks := false }, kinds := [], alts := [], laidByText := true, laidKinds := [.data, .listed, .data, .pinned], laidTests := true, laidLooks := .later }
def FnBackCardSaid : Prop := Claim7.holds Tryz.pinned (.plain (OpenSpec.ofChange fnBackSpec)) fnBackCard

/-- THE TIED CARD OF 'laws.FnBad'. -/
def fnBadCard : Claim7 := { stood := { row := fnBadRow, standIns := [], harness := (true, "01c3ff6a36f43cbd60d00374281fc531ff46a224db19fba8d1629df0d17019c1"), looks := false }, kinds := [], alts := [], laidByText := true, laidKinds := [.data, .listed, .data, .pinned], laidTests := true, laidLooks := .later }
def FnBadCardSaid : Prop := Claim7.holds Tryz.pinned (.plain (OpenSpec.ofChange fnBadSpec)) fnBadCard

/-- THE TIED CARD OF 'laws.FnBlanks'. -/
def fnBlanksCard : Claim7 := { stood := { row := fnBlanksRow, standIns := [], harness := (true, "01c3ff6a36f43cbd60d00374281fc531ff46a224db19fba8d1629df0d17019c1"), looks := false }, kinds := [], alts := [], laidByText := true, laidKinds := [.data, .listed, .data, .pinned], laidTests := true, laidLooks := .later }
def FnBlanksCardSaid : Prop := Claim7.holds Tryz.pinned (.plain (OpenSpec.ofChange fnBlanksSpec)) fnBlanksCard

/-- THE TIED CARD OF 'laws.FnInLine'. -/
def fnInLineCard : Claim7 := { stood := { row := fnInLineRow, standIns := [], harness := (true, "01c3ff6a36f43cbd60d00374281fc531ff46a224db19fba8d1629df0d17019c1"), looks := false }, kinds := [], alts := [], laidByText := true, laidKinds := [.data, .listed, .data, .pinned], laidTests := true, laidLooks := .later }
def FnInLineCardSaid : Prop := Claim7.holds Tryz.pinned (.plain (OpenSpec.ofChange fnInLineSpec)) fnInLineCard

/-- THE TIED CARD OF 'laws.FnLineEnds'. -/
def fnLineEndsCard : Claim7 := { stood := { row := fnLineEndsRow, standIns := [], harness := (true, "01c3ff6a36f43cbd60d00374281fc531ff46a224db19fba8d1629df0d17019c1"), looks := false }, kinds := [], alts := [], laidByText := true, laidKinds := [.data, .listed, .data, .pinned], laidTests := true, laidLooks := .later }
def FnLineEndsCardSaid : Prop := Claim7.holds Tryz.pinned (.plain (OpenSpec.ofChange fnLineEndsSpec)) fnLineEndsCard

/-- THE TIED CARD OF 'laws.FnSeveral'. -/
def fnSeveralCard : Claim7 := { stood := { row := fnSeveralRow, standIns := [], harness := (true, "01c3ff6a36f43cbd60d00374281fc531ff46a224db19fba8d1629df0d17019c1"), looks := false }, kinds := [], alts := [], laidByText := true, laidKinds := [.data, .listed, .data, .pinned], laidTests := true, laidLooks := .later }
def FnSeveralCardSaid : Prop := Claim7.holds Tryz.pinned (.plain (OpenSpec.ofChange fnSeveralSpec)) fnSeveralCard

/-- THE SECOND FORM's CARD OF 'laws.FnAfterText'. -/
def fnAfterTextUptoCard : Claim7 := { stood := { row := fnAfterTextUptoRow, standIns := [], harness := (true, "01c3ff6a36f43cbd60d00374281fc531ff46a224db19fba8d1629df0d17019c1"), looks := false }, kinds := [], alts := [], laidByText := true, laidKinds := [.data, .listed, .data, .pinned], laidTests := true, laidLooks := .later }
def FnAfterTextUptoCardSaid : Prop := Claim7.holds Tryz.pinned (.plain (OpenSpec.upto fnAfterTextSpec)) fnAfterTextUptoCard

/-- THE SECOND FORM's CARD OF 'laws.FnAny'. -/
def fnAnyUptoCard : Claim7 := { stood := { row := fnAnyUptoRow, standIns := [], harness := (true, "01c3ff6a36f43cbd60d00374281fc531ff46a224db19fba8d1629df0d17019c1"), looks := false }, kinds := [], alts := [], laidByText := true, laidKinds := [.data, .listed, .data, .pinned], laidTests := true, laidLooks := .later }
def FnAnyUptoCardSaid : Prop := Claim7.holds Tryz.pinned (.plain (OpenSpec.upto fnAnySpec)) fnAnyUptoCard

/-- THE SECOND FORM's CARD OF 'laws.FnBack'. -/
def fnBackUptoCard : Claim7 := { stood := { row := fnBackUptoRow, standIns := [], harness := (true, "01c3ff6a36f43cbd60d00374281fc531ff46a224db19fba8d1629df0d17019c1"), looks := false }, kinds := [], alts := [], laidByText := true, laidKinds := [.data, .listed, .data, .pinned], laidTests := true, laidLooks := .later }
def FnBackUptoCardSaid : Prop := Claim7.holds Tryz.pinned (.plain (OpenSpec.upto fnBackSpec)) fnBackUptoCard

/-- THE SECOND FORM's CARD OF 'laws.FnBad'. -/
def fnBadUptoCard : Claim7 := { stood := { row := fnBadUptoRow, standIns := [], harness := (true, "01c3ff6a36f43cbd60d00374281fc531ff46a224db19fba8d1629df0d17019c1"), looks := false }, kinds := [], alts := [], laidByText := true, laidKinds := [.data, .listed, .data, .pinned], laidTests := true, laidLooks := .later }
def FnBadUptoCardSaid : Prop := Claim7.holds Tryz.pinned (.plain (OpenSpec.upto fnBadSpec)) fnBadUptoCard

/-- THE SECOND FORM's CARD OF 'laws.FnBlanks'. -/
def fnBlanksUptoCard : Claim7 := { stood := { row := fnBlanksUptoRow, standIns := [], harness := (true, "01c3ff6a36f43cbd60d00374281fc531ff46a224db19fba8d1629df0d17019c1"), looks := false }, kinds := [], alts := [], laidByText := true, laidKinds := [.data, .listed, .data, .pinned], laidTests := true, laidLooks := .later }
def FnBlanksUptoCardSaid : Prop := Claim7.holds Tryz.pinned (.plain (OpenSpec.upto fnBlanksSpec)) fnBlanksUptoCard

/-- THE SECOND FORM's CARD OF 'laws.FnInLine'. -/
def fnInLineUptoCard : Claim7 := { stood := { row := fnInLineUptoRow, standIns := [], harness := (true, "01c3ff6a36f43cbd60d00374281fc531ff46a224db19fba8d1629df0d17019c1"), looks := false }, kinds := [], alts := [], laidByText := true, laidKinds := [.data, .listed, .data, .pinned], laidTests := true, laidLooks := .later }
def FnInLineUptoCardSaid : Prop := Claim7.holds Tryz.pinned (.plain (OpenSpec.upto fnInLineSpec)) fnInLineUptoCard

/-- THE SECOND FORM's CARD OF 'laws.FnLineEnds'. -/
def fnLineEndsUptoCard : Claim7 := { stood := { row := fnLineEndsUptoRow, standIns := [], harness := (true, "01c3ff6a36f43cbd60d00374281fc531ff46a224db19fba8d1629df0d17019c1"), looks := false }, kinds := [], alts := [], laidByText := true, laidKinds := [.data, .listed, .data, .pinned], laidTests := true, laidLooks := .later }
def FnLineEndsUptoCardSaid : Prop := Claim7.holds Tryz.pinned (.plain (OpenSpec.upto fnLineEndsSpec)) fnLineEndsUptoCard

/-- THE SECOND FORM's CARD OF 'laws.FnSeveral'. -/
def fnSeveralUptoCard : Claim7 := { stood := { row := fnSeveralUptoRow, standIns := [], harness := (true, "01c3ff6a36f43cbd60d00374281fc531ff46a224db19fba8d1629df0d17019c1"), looks := false }, kinds := [], alts := [], laidByText := true, laidKinds := [.data, .listed, .data, .pinned], laidTests := true, laidLooks := .later }
def FnSeveralUptoCardSaid : Prop := Claim7.holds Tryz.pinned (.plain (OpenSpec.upto fnSeveralSpec)) fnSeveralUptoCard
end Rows
end Go.Proofs.YtpjehmblndjknaaGreatDoor
