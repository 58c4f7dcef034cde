/-
  DERIVED. GIVEN WITH THE SEED: THE CARDS: each row of YtjioghedokbgcaaDoorRows.lean that lists a variable, with what it lists TIED to the program's text (the seventh form; the later family's looks); each row that meets fmt, with fmt's text TOLD by the authors' own Lean function (tested against real Go, not proved from fmt's source: count such statements apart). THE CARD IS WHAT COUNTS. Prove the row's statement (the work); the ties are given (YtjioghedokbgcaaDoorTie.lean); close each card by the builder's one call (the guide's Derived/Test/ToyasCard.lean, 'card_holds'). Laid BY PROGRAM, IN A SANDBOX (cutbox-door.mjs). By AI agents, Wed Nov 11 2026. No macro, syntax, notation, axiom, sorry.
-/
import Derived.Test.YtjioghedokbgcaaDoorRows
import GoSem.ClaimSeven
namespace Go.Proofs.YtjioghedokbgcaaDoor
namespace Rows

/-- THE TIED CARD OF 'laws.FnDiscards'. -/
def fnDiscardsCard : Claim7 := { stood := { row := fnDiscardsRow, standIns := [], harness := (true, "1fc51fadd6f0b7f1d32fc7e48643ee837fa508ad985dbb66a309b9ce549dffae"), looks := true }, kinds := [], alts := [], laidByText := true, laidKinds := [.sentinel, .sentinel, .sentinel], laidTests := true, laidLooks := .later }
def FnDiscardsCardSaid : Prop := Claim7.holds Tryd.pinned (.plain (OpenSpec.ofChange fnDiscardsSpec)) fnDiscardsCard

/-- THE SECOND FORM's CARD OF 'laws.FnDiscards'. -/
def fnDiscardsUptoCard : Claim7 := { stood := { row := fnDiscardsUptoRow, standIns := [], harness := (true, "1fc51fadd6f0b7f1d32fc7e48643ee837fa508ad985dbb66a309b9ce549dffae"), looks := true }, kinds := [], alts := [], laidByText := true, laidKinds := [.sentinel, .sentinel, .sentinel], laidTests := true, laidLooks := .later }
def FnDiscardsUptoCardSaid : Prop := Claim7.holds Tryd.pinned (.plain (OpenSpec.upto fnDiscardsSpec)) fnDiscardsUptoCard
end Rows
end Go.Proofs.YtjioghedokbgcaaDoor
