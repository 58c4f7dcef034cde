/-
  DERIVED. GIVEN WITH THE SEED: THE CARDS: each row of YtkjgkjmaoebeoaaDoorRows.lean that lists a variable, with what it lists TIED to the program's text (the seventh form; the later family's looks); each row that meets fmt, with fmt's text TOLD by the authors' own Lean function (tested against real Go, not proved from fmt's source: count such statements apart). THE CARD IS WHAT COUNTS. Prove the row's statement (the work); the ties are given (YtkjgkjmaoebeoaaDoorTie.lean); close each card by the builder's one call (the guide's Derived/Test/ToyasCard.lean, 'card_holds'). Laid BY PROGRAM, IN A SANDBOX (cutbox-door.mjs). By AI agents, Wed Nov 11 2026. No macro, syntax, notation, axiom, sorry.
-/
import Derived.Test.YtkjgkjmaoebeoaaDoorRows
import GoSem.ClaimSeven
namespace Go.Proofs.YtkjgkjmaoebeoaaDoor
namespace Rows

/-- THE TIED CARD OF 'laws.FnManifestRead'. -/
def fnManifestReadCard : Claim7 := { stood := { row := fnManifestReadRow, standIns := [], harness := (true, "7e2ded1a189d1f63ace93344771c768205faa35d3ce8b8e30ba5e33e149a92fb"), looks := true }, kinds := [], alts := [], laidByText := true, laidKinds := [.sentinel, .sentinel, .sentinel, .sentinel, .sentinel, .sentinel, .sentinel, .sentinel], laidTests := true, laidLooks := .later }
def FnManifestReadCardSaid : Prop := Claim7.holds Tryd.pinned (.plain (OpenSpec.ofChange fnManifestReadSpec)) fnManifestReadCard

/-- THE TIED CARD OF 'laws.FnManifestTorn'. -/
def fnManifestTornCard : Claim7 := { stood := { row := fnManifestTornRow, standIns := [], harness := (true, "7e2ded1a189d1f63ace93344771c768205faa35d3ce8b8e30ba5e33e149a92fb"), looks := true }, kinds := [], alts := [], laidByText := true, laidKinds := [.sentinel, .sentinel, .sentinel, .sentinel, .sentinel, .sentinel, .sentinel, .sentinel], laidTests := true, laidLooks := .later }
def FnManifestTornCardSaid : Prop := Claim7.holds Tryd.pinned (.plain (OpenSpec.ofChange fnManifestTornSpec)) fnManifestTornCard

/-- THE SECOND FORM's CARD OF 'laws.FnManifestRead'. -/
def fnManifestReadUptoCard : Claim7 := { stood := { row := fnManifestReadUptoRow, standIns := [], harness := (true, "7e2ded1a189d1f63ace93344771c768205faa35d3ce8b8e30ba5e33e149a92fb"), looks := true }, kinds := [], alts := [], laidByText := true, laidKinds := [.sentinel, .sentinel, .sentinel, .sentinel, .sentinel, .sentinel, .sentinel, .sentinel], laidTests := true, laidLooks := .later }
def FnManifestReadUptoCardSaid : Prop := Claim7.holds Tryd.pinned (.plain (OpenSpec.upto fnManifestReadSpec)) fnManifestReadUptoCard

/-- THE SECOND FORM's CARD OF 'laws.FnManifestTorn'. -/
def fnManifestTornUptoCard : Claim7 := { stood := { row := fnManifestTornUptoRow, standIns := [], harness := (true, "7e2ded1a189d1f63ace93344771c768205faa35d3ce8b8e30ba5e33e149a92fb"), looks := true }, kinds := [], alts := [], laidByText := true, laidKinds := [.sentinel, .sentinel, .sentinel, .sentinel, .sentinel, .sentinel, .sentinel, .sentinel], laidTests := true, laidLooks := .later }
def FnManifestTornUptoCardSaid : Prop := Claim7.holds Tryd.pinned (.plain (OpenSpec.upto fnManifestTornSpec)) fnManifestTornUptoCard
end Rows
end Go.Proofs.YtkjgkjmaoebeoaaDoor
