/-
  DERIVED. GIVEN WITH THE SEED: THE CARDS: each row of YtpndlcjilgcfkaaGreatDoorRows.lean that lists a variable, with what it lists TIED to the program's text (the seventh form; the later family's looks); each row that meets fmt, with fmt's text TOLD by the authors' own Lean function (tested against real Go, not proved from fmt's source: count such statements apart). THE CARD IS WHAT COUNTS. Prove the row's statement (the work); the ties are given (YtpndlcjilgcfkaaGreatDoorTie.lean); close each card by the builder's one call (the guide's Derived/Test/ToyasCard.lean, 'card_holds'). Laid BY PROGRAM, IN A SANDBOX (cutbox-door.mjs). By AI agents, Wed Nov 11 2026. No macro, syntax, notation, axiom, sorry.
-/
import Derived.Test.YtpndlcjilgcfkaaGreatDoorRows
import GoSem.ClaimSeven
namespace Go.Proofs.YtpndlcjilgcfkaaGreatDoor
namespace Rows

/-- THE TIED CARD OF 'laws.FnReadLog'. -/
def fnReadLogCard : Claim7 := { stood := { row := fnReadLogRow, standIns := [], harness := (true, "2618b42fb713529dcc1d350da7f252f8d9351e8bd2083d2bb60764f2f0d06012"), looks := true }, kinds := [], alts := [], laidByText := true, laidKinds := [.data, .data, .data, .sentinel, .sentinel, .sentinel, .sentinel, .sentinel, .sentinel, .sentinel, .sentinel, .sentinel, .sentinel, .sentinel], laidTests := true, laidLooks := .later }
def FnReadLogCardSaid : Prop := Claim7.holds Tryz.pinned (.plain (OpenSpec.ofChange fnReadLogSpec)) fnReadLogCard

/-- THE TIED CARD OF 'laws.FnLogBack'. -/
def fnLogBackCard : Claim7 := { stood := { row := fnLogBackRow, standIns := [], harness := (true, "2618b42fb713529dcc1d350da7f252f8d9351e8bd2083d2bb60764f2f0d06012"), looks := true }, kinds := [], alts := [], laidByText := true, laidKinds := [.data, .data, .data, .sentinel, .sentinel, .sentinel, .sentinel, .sentinel, .sentinel, .sentinel, .sentinel, .sentinel, .sentinel, .sentinel, .sentinel], laidTests := true, laidLooks := .later }
def FnLogBackCardSaid : Prop := Claim7.holds Tryz.pinned (.plain (OpenSpec.ofChange fnLogBackSpec)) fnLogBackCard

/-- THE TIED CARD OF 'laws.FnLogCut'. -/
def fnLogCutCard : Claim7 := { stood := { row := fnLogCutRow, standIns := [], harness := (true, "2618b42fb713529dcc1d350da7f252f8d9351e8bd2083d2bb60764f2f0d06012"), looks := true }, kinds := [], alts := [], laidByText := true, laidKinds := [.data, .data, .data, .sentinel, .sentinel, .sentinel, .sentinel, .sentinel, .sentinel, .sentinel, .sentinel, .sentinel, .sentinel, .sentinel, .sentinel], laidTests := true, laidLooks := .later }
def FnLogCutCardSaid : Prop := Claim7.holds Tryz.pinned (.plain (OpenSpec.ofChange fnLogCutSpec)) fnLogCutCard

/-- THE TIED CARD OF 'laws.FnLogTorn'. -/
def fnLogTornCard : Claim7 := { stood := { row := fnLogTornRow, standIns := [], harness := (true, "2618b42fb713529dcc1d350da7f252f8d9351e8bd2083d2bb60764f2f0d06012"), looks := true }, kinds := [], alts := [], laidByText := true, laidKinds := [.data, .data, .data, .sentinel, .sentinel, .sentinel, .sentinel, .sentinel, .sentinel, .sentinel, .sentinel, .sentinel, .sentinel, .sentinel, .sentinel], laidTests := true, laidLooks := .later }
def FnLogTornCardSaid : Prop := Claim7.holds Tryz.pinned (.plain (OpenSpec.ofChange fnLogTornSpec)) fnLogTornCard

/-- THE SECOND FORM's CARD OF 'laws.FnReadLog'. -/
def fnReadLogUptoCard : Claim7 := { stood := { row := fnReadLogUptoRow, standIns := [], harness := (true, "2618b42fb713529dcc1d350da7f252f8d9351e8bd2083d2bb60764f2f0d06012"), looks := true }, kinds := [], alts := [], laidByText := true, laidKinds := [.data, .data, .data, .sentinel, .sentinel, .sentinel, .sentinel, .sentinel, .sentinel, .sentinel, .sentinel, .sentinel, .sentinel, .sentinel], laidTests := true, laidLooks := .later }
def FnReadLogUptoCardSaid : Prop := Claim7.holds Tryz.pinned (.plain (OpenSpec.upto fnReadLogSpec)) fnReadLogUptoCard

/-- THE SECOND FORM's CARD OF 'laws.FnLogBack'. -/
def fnLogBackUptoCard : Claim7 := { stood := { row := fnLogBackUptoRow, standIns := [], harness := (true, "2618b42fb713529dcc1d350da7f252f8d9351e8bd2083d2bb60764f2f0d06012"), looks := true }, kinds := [], alts := [], laidByText := true, laidKinds := [.data, .data, .data, .sentinel, .sentinel, .sentinel, .sentinel, .sentinel, .sentinel, .sentinel, .sentinel, .sentinel, .sentinel, .sentinel, .sentinel], laidTests := true, laidLooks := .later }
def FnLogBackUptoCardSaid : Prop := Claim7.holds Tryz.pinned (.plain (OpenSpec.upto fnLogBackSpec)) fnLogBackUptoCard

/-- THE SECOND FORM's CARD OF 'laws.FnLogCut'. -/
def fnLogCutUptoCard : Claim7 := { stood := { row := fnLogCutUptoRow, standIns := [], harness := (true, "2618b42fb713529dcc1d350da7f252f8d9351e8bd2083d2bb60764f2f0d06012"), looks := true }, kinds := [], alts := [], laidByText := true, laidKinds := [.data, .data, .data, .sentinel, .sentinel, .sentinel, .sentinel, .sentinel, .sentinel, .sentinel, .sentinel, .sentinel, .sentinel, .sentinel, .sentinel], laidTests := true, laidLooks := .later }
def FnLogCutUptoCardSaid : Prop := Claim7.holds Tryz.pinned (.plain (OpenSpec.upto fnLogCutSpec)) fnLogCutUptoCard

/-- THE SECOND FORM's CARD OF 'laws.FnLogTorn'. -/
def fnLogTornUptoCard : Claim7 := { stood := { row := fnLogTornUptoRow, standIns := [], harness := (true, "2618b42fb713529dcc1d350da7f252f8d9351e8bd2083d2bb60764f2f0d06012"), looks := true }, kinds := [], alts := [], laidByText := true, laidKinds := [.data, .data, .data, .sentinel, .sentinel, .sentinel, .sentinel, .sentinel, .sentinel, .sentinel, .sentinel, .sentinel, .sentinel, .sentinel, .sentinel], laidTests := true, laidLooks := .later }
def FnLogTornUptoCardSaid : Prop := Claim7.holds Tryz.pinned (.plain (OpenSpec.upto fnLogTornSpec)) fnLogTornUptoCard
end Rows
end Go.Proofs.YtpndlcjilgcfkaaGreatDoor
