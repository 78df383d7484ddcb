/-
  DERIVED. GIVEN WITH THE SEED: THE CARDS: each row of YtpjehmblndjknaaDoorRows.lean that lists a variable, with what it lists TIED to the program's text (the seventh form; the later family's looks); each row that meets fmt, with fmt's text TOLD by the authors' own Lean function (tested against real Go, not proved from fmt's source: count such statements apart). THE CARD IS WHAT COUNTS. Prove the row's statement (the work); the ties are given (YtpjehmblndjknaaDoorTie.lean); close each card by the builder's one call (the guide's Derived/Test/ToyasCard.lean, 'card_holds'). Laid BY PROGRAM, IN A SANDBOX (cutbox-door.mjs). By AI agents, Wed Nov 11 2026. No macro, syntax, notation, axiom, sorry.
-/
import Derived.Test.YtpjehmblndjknaaDoorRows
import GoSem.ClaimSeven
namespace Go.Proofs.YtpjehmblndjknaaDoor
namespace Rows

/-- THE TIED CARD OF 'laws.FnLine'. -/
def fnLineCard : Claim7 := { stood := { row := fnLineRow, standIns := [], harness := (true, "3589d499c894ed2cc342b403e53d7d2bab9b359e85ed72821bb62e83079200ee"), looks := false }, kinds := [], alts := [], laidByText := true, laidKinds := [.data, .pinned], laidTests := true, laidLooks := .later }
def FnLineCardSaid : Prop := Claim7.holds Tryd.pinned (.plain (OpenSpec.ofChange fnLineSpec)) fnLineCard

/-- THE TIED CARD OF 'laws.FnNone'. -/
def fnNoneCard : Claim7 := { stood := { row := fnNoneRow, standIns := [], harness := (true, "3589d499c894ed2cc342b403e53d7d2bab9b359e85ed72821bb62e83079200ee"), looks := false }, kinds := [], alts := [], laidByText := true, laidKinds := [.data, .listed, .data, .pinned], laidTests := true, laidLooks := .later }
def FnNoneCardSaid : Prop := Claim7.holds Tryd.pinned (.plain (OpenSpec.ofChange fnNoneSpec)) fnNoneCard

/-- THE SECOND FORM's CARD OF 'laws.FnLine'. -/
def fnLineUptoCard : Claim7 := { stood := { row := fnLineUptoRow, standIns := [], harness := (true, "3589d499c894ed2cc342b403e53d7d2bab9b359e85ed72821bb62e83079200ee"), looks := false }, kinds := [], alts := [], laidByText := true, laidKinds := [.data, .pinned], laidTests := true, laidLooks := .later }
def FnLineUptoCardSaid : Prop := Claim7.holds Tryd.pinned (.plain (OpenSpec.upto fnLineSpec)) fnLineUptoCard

/-- THE SECOND FORM's CARD OF 'laws.FnNone'. -/
def fnNoneUptoCard : Claim7 := { stood := { row := fnNoneUptoRow, standIns := [], harness := (true, "3589d499c894ed2cc342b403e53d7d2bab9b359e85ed72821bb62e83079200ee"), looks := false }, kinds := [], alts := [], laidByText := true, laidKinds := [.data, .listed, .data, .pinned], laidTests := true, laidLooks := .later }
def FnNoneUptoCardSaid : Prop := Claim7.holds Tryd.pinned (.plain (OpenSpec.upto fnNoneSpec)) fnNoneUptoCard
end Rows
end Go.Proofs.YtpjehmblndjknaaDoor
