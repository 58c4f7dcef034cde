/-
  DERIVED. GIVEN WITH THE SEED: THE CARDS: each row of YtakpiopiboipnaaDoorRows.lean that lists a variable, with what it lists TIED to the program's text (the seventh form; the later family's looks); each row that meets fmt, with fmt's text TOLD by the authors' own Lean function (tested against real Go, not proved from fmt's source: count such statements apart). THE CARD IS WHAT COUNTS. Prove the row's statement (the work); the ties are given (YtakpiopiboipnaaDoorTie.lean); close each card by the builder's one call (the guide's Derived/Test/ToyasCard.lean, 'card_holds'). Laid BY PROGRAM, IN A SANDBOX (cutbox-door.mjs). By AI agents, Wed Nov 11 2026. No macro, syntax, notation, axiom, sorry.
-/
import Derived.Test.YtakpiopiboipnaaDoorRows
import GoSem.ClaimSeven
namespace Go.Proofs.YtakpiopiboipnaaDoor
namespace Rows

/-- THE TIED CARD OF 'laws.FnLogEntry'. -/
def fnLogEntryCard : Claim7 := { stood := { row := fnLogEntryRow, standIns := [], harness := (true, "b86c3b48366f841b23e284b1ca0350b08acd74e6a8dba7d819dab9c2f48084b5"), looks := true }, kinds := [], alts := [], laidByText := true, laidKinds := [.sentinel], laidTests := true, laidLooks := .later }
def FnLogEntryCardSaid : Prop := Claim7.holds Tryd.pinned (.plain (OpenSpec.ofChange fnLogEntrySpec)) fnLogEntryCard

/-- THE SECOND FORM's CARD OF 'laws.FnLogEntry'. -/
def fnLogEntryUptoCard : Claim7 := { stood := { row := fnLogEntryUptoRow, standIns := [], harness := (true, "b86c3b48366f841b23e284b1ca0350b08acd74e6a8dba7d819dab9c2f48084b5"), looks := true }, kinds := [], alts := [], laidByText := true, laidKinds := [.sentinel], laidTests := true, laidLooks := .later }
def FnLogEntryUptoCardSaid : Prop := Claim7.holds Tryd.pinned (.plain (OpenSpec.upto fnLogEntrySpec)) fnLogEntryUptoCard
end Rows
end Go.Proofs.YtakpiopiboipnaaDoor
