/-
  The statement 'FnReadLogCardSaid' is proved: for every input the law returns true and its argument reads as before; the listed variables are tied to the program's text by the given tie.
-/
import Derived.Test.YtpndlcjilgcfkaaGreatDoorRows
import Derived.Test.YtpndlcjilgcfkaaGreatDoorTie
import Derived.Test.YtpndlcjilgcfkaaGreatDoorCards
import Derived.Test.YtpndlcjilgcfkaaGreatDoorLogR
import Derived.Test.YtpndlcjilgcfkaaGreatDoorLaid
import Derived.WalkKit
import Derived.ProofKit
import Derived.OpenShut
import Derived.ShutString
import Derived.LaidMore
import Derived.Stop.Joined
import Derived.SevenTiedAt
import Derived.Below
namespace Go.Proofs.YtpndlcjilgcfkaaGreatDoor.fnReadLog
open Go Go.ChangeShapes Go.WideShapes Go.ChangeAt Go.RowKit
open Go.ChangeMaps (open_string shut_string)
open Go.Proofs.YtpndlcjilgcfkaaGreatDoor
set_option linter.unusedVariables false

theorem own : ownKnob Tryz.prog.godebug = none := by kernel_rfl

set_option maxRecDepth 100000 in
/-- The listed variables, as the walk wants them. -/
theorem mem_of_laid {W : World} (h : laidMetH Tryz.prog Rows.fnReadLogRow.laid W) : LogMem W := by
  have hp : (Rows.fnReadLogRow.laid.all fun x => x.2.handleName?.isNone) = true := by kernel_rfl
  have s1 := sent_one (n := "io.EOF") (g := 1) (by kernel_rfl) (by kernel_rfl) (laid_one h hp "io.EOF" Rows.laid_io_EOF (by kernel_rfl))
  have s2 := sent_one (n := "io.ErrUnexpectedEOF") (g := 2) (by kernel_rfl) (by kernel_rfl) (laid_one h hp "io.ErrUnexpectedEOF" Rows.laid_io_ErrUnexpectedEOF (by kernel_rfl))
  have s3 := sent_one (n := "pub-clitter/pub/badger.errTruncate") (g := 3) (by kernel_rfl) (by kernel_rfl) (laid_one h hp "pub-clitter/pub/badger.errTruncate" Rows.laid_pub_clitter_pub_badger_errTruncate (by kernel_rfl))
  obtain ⟨a4, s4, _⟩ := sent_one (n := "pub-clitter/pub/badger/zz.NewFile") (g := 0) (by kernel_rfl) (by kernel_rfl) (laid_one h hp "pub-clitter/pub/badger/zz.NewFile" Rows.laid_pub_clitter_pub_badger_zz_NewFile (by kernel_rfl))
  obtain ⟨a5, s5, _⟩ := sent_one (n := "strconv.ErrSyntax") (g := 11) (by kernel_rfl) (by kernel_rfl) (laid_one h hp "strconv.ErrSyntax" Rows.laid_strconv_ErrSyntax (by kernel_rfl))
  obtain ⟨a6, s6, _⟩ := sent_one (n := "strconv.ErrRange") (g := 12) (by kernel_rfl) (by kernel_rfl) (laid_one h hp "strconv.ErrRange" Rows.laid_strconv_ErrRange (by kernel_rfl))
  have hN : glN ≤ W.heap.size := by
    have h12 : 12 < W.heap.size := block_lt_of_cell s6
    unfold glN
    omega
  exact ⟨⟨s1, s2, s3, hN⟩, ⟨_, _, s4⟩, ⟨_, _, s5⟩, ⟨_, _, s6⟩⟩

/-- The door's own heap meets the condition. -/
theorem door_met (os : Os) (args : Array Value) : laidMetH Tryz.prog Rows.fnReadLogRow.laid ((World.doorLaid Tryz.prog 400 os).forCall (fun _ _ => 0) ⟨#[], args, []⟩).memory :=
  laidMetH_of_parts3 (fuel := 8) (laidMet_of_run' 8 (by kernel_rfl) (by kernel_rfl)) (by kernel_rfl) (by kernel_rfl)

set_option maxRecDepth 100000 in
theorem lifted (os : Os) (started : os.Started) (H : Type) (enc : TypeId × Value → H) :
    ReturnsInHanded {} Tryz.checked os 3 .any (fun w args => (Rows.fnReadLogSpec.pre enc Tryz.prog Tryz.f3 [] false w args ∧ laidMetH Tryz.prog Rows.fnReadLogRow.laid w) ∧ sizedMet enc Tryz.prog Tryz.f3 (OpenSpec.ofChange Rows.fnReadLogSpec) false w args)
      (Rows.fnReadLogSpec.post enc Tryz.prog Tryz.f3 false true false false) := by
  refine returnsInHanded_of_change_and (C := Tryz.checked) (X := fun w _ => laidMetH Tryz.prog Rows.fnReadLogRow.laid w) (fun _ _ _ hh h => h.of_heap hh) own started (by kernel_rfl) Tryz.func3
    (ChangeSpec.witness_shaped (enc := enc) (C := Tryz.checked) (os := os) (X := fun w _ => laidMetH Tryz.prog Rows.fnReadLogRow.laid w) false (World.doorLaid Tryz.prog 400 os) #[.string ⟨#[]⟩] 8 rfl (World.shaped_of_RefB (by kernel_rfl) (by kernel_rfl)) (by kernel_rfl) (by kernel_rfl) (by kernel_rfl) (door_met os _)) ?_
  intro W base args ds gs before hval0 hW _ _ hL _
  have hval : ∀ (j : Nat) t v, Tryz.f3.params[j]? = some t → args[j]? = some v → Value.okWide Tryz.prog W .any base t v := hval0
  have hW' := hW
  obtain ⟨p, q, hA0, hV, rfl, hfz, hnd⟩ := hW
  have hA : DataW.TrodAll enc Tryz.prog W 0 (fun _ => true) true Tryz.f3.params.toList args.toList ds p := hA0
  rw [Tryz.params3] at hA hval
  obtain ⟨v0, d0, rfl, rfl, h0⟩ := trodAll_one hA
  obtain ⟨rfl, rfl⟩ := trodVars_none hV
  obtain ⟨a0, rfl, rfl, rfl, w0⟩ := open_string Tryz.underlying9 (hval 0 9 v0 rfl rfl) h0
  clear hA0 hval0
  simp only [List.append_nil] at hW'
  refine (fnReadLog_walk a0 W (mem_of_laid hL)).mono fun e W' ⟨he, hg⟩ => ?_
  subst he
  exact ⟨_, rfl, _, _, _, [], _, [], hW', trodAll_mk1 (shut_bool Tryz.underlying4 _), trodAll_mk1 (shut_string Tryz.underlying9 w0), rfl, hg.frame _, fun h => by cases h⟩

theorem over : Rows.FnReadLogSaid :=
  OpenClaim.holds_of_wide 3 Tryz.f3 rfl rfl rfl rfl rfl rfl rfl ⟨rfl, rfl, rfl, rfl, rfl⟩ rfl rfl rfl rfl rfl (by kernel_rfl) Tryz.func3 (by kernel_rfl)
    (of_decide_eq_true (by kernel_rfl)) (by unfold Func.isWrapper; first | (rw [if_pos (by decide +kernel)]; kernel_rfl) | (rw [if_neg (by decide +kernel)]; exact ⟨rfl, rfl⟩))
    (fun os started H enc _ => lifted os started H enc)

/-- ████ THE STATEMENT ████ -/
theorem proved : Rows.FnReadLogCardSaid :=
  Claim7.holds_tied_plain_at .later [] [.data, .data, .data, .sentinel, .sentinel, .sentinel, .sentinel, .sentinel, .sentinel, .sentinel, .sentinel, .sentinel, .sentinel, .sentinel] true (true, "2618b42fb713529dcc1d350da7f252f8d9351e8bd2083d2bb60764f2f0d06012") true
    over (fun _ h => by cases h) (by kernel_rfl) (fun _ h => by cases h) fnReadLog_row_tie rfl ⟨rfl, rfl⟩ (by kernel_rfl) rfl
    (fun f fn hf hfn => by
      obtain rfl : f = 3 := Option.some.inj ((show Tryz.prog.funcNamed "pub-clitter/laws.FnReadLog" = some 3 by kernel_rfl).symm.trans hf) |>.symm
      obtain rfl : fn = Tryz.f3 := (Option.some.inj (Tryz.func3.symm.trans hfn)).symm
      exact ⟨by kernel_rfl, fun j t ht => by
        rw [Tryz.params3] at ht
        have h3 : t = 9 := by
          rcases j with _ | j
          · simpa using ht.symm
          · simp at ht
        subst h3
        exact (show Tryz.prog.wantsStandIn 9 = false by kernel_rfl)⟩)
    (by kernel_rfl)
#print axioms proved
end Go.Proofs.YtpndlcjilgcfkaaGreatDoor.fnReadLog
