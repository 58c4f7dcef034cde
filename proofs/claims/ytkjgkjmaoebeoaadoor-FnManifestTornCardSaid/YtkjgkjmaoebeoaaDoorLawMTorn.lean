/-
  The statement 'FnManifestTornCardSaid' is proved: for every input the law returns true and its arguments read as before; the listed variables are tied to the program's text by the given tie.
-/
import Derived.Test.YtkjgkjmaoebeoaaDoorRows
import Derived.Test.YtkjgkjmaoebeoaaDoorTie
import Derived.Test.YtkjgkjmaoebeoaaDoorCards
import Derived.Test.YtkjgkjmaoebeoaaDoorMlt
import Derived.Test.YtkjgkjmaoebeoaaDoorOpenR
import Derived.Test.YtkjgkjmaoebeoaaDoorLaidM
import Derived.WalkKit
import Derived.ProofKit
import Derived.OpenShut
import Derived.ShutString
import Derived.LaidMore
import Derived.Stop.Joined
import Derived.SevenTiedAt
import Derived.Below
import Derived.Carry
namespace Go.Proofs.YtkjgkjmaoebeoaaDoor.fnManifestTorn
open Go Go.ChangeShapes Go.WideShapes Go.ChangeAt Go.RowKit
open Go.ChangeMaps (open_string shut_string)
open Go.Proofs.YtkjgkjmaoebeoaaDoor
set_option linter.unusedVariables false

theorem own : ownKnob Tryd.prog.godebug = none := by kernel_rfl
theorem laidOut : laidOutB Tryd.prog = true := by kernel_rfl

set_option maxRecDepth 100000 in
/-- The listed variables, as the walk wants them. -/
theorem mem_of_laid {W : World} (h : laidMetH Tryd.prog Rows.fnManifestTornRow.laid W) : Gs W.heap.size W := by
  have hp : (Rows.fnManifestTornRow.laid.all fun x => x.2.handleName?.isNone) = true := by kernel_rfl
  have s1 := sent_one (n := "io.EOF") (g := 3) (by kernel_rfl) (by kernel_rfl) (laid_one h hp "io.EOF" Rows.laid_io_EOF (by kernel_rfl))
  have s2 := sent_one (n := "io.ErrUnexpectedEOF") (g := 4) (by kernel_rfl) (by kernel_rfl) (laid_one h hp "io.ErrUnexpectedEOF" Rows.laid_io_ErrUnexpectedEOF (by kernel_rfl))
  have s3 := sent_one (n := "pub-clitter/pub/badger.errBadChecksum") (g := 5) (by kernel_rfl) (by kernel_rfl) (laid_one h hp "pub-clitter/pub/badger.errBadChecksum" Rows.laid_pub_clitter_pub_badger_errBadChecksum (by kernel_rfl))
  have hN : glN ≤ W.heap.size := by
    obtain ⟨_, c1, _⟩ := s1
    obtain ⟨_, c2, _⟩ := s2
    obtain ⟨_, c3, _⟩ := s3
    have h1 : 3 < W.heap.size := block_lt_of_cell c1
    have h2 : 4 < W.heap.size := block_lt_of_cell c2
    have h3 : 5 < W.heap.size := block_lt_of_cell c3
    unfold glN
    omega
  exact ⟨s1, s2, s3, hN⟩

/-- The door's own heap meets the condition. -/
theorem door_met (os : Os) (args : Array Value) : laidMetH Tryd.prog Rows.fnManifestTornRow.laid ((World.doorLaid Tryd.prog 400 os).forCall (fun _ _ => 0) ⟨#[], args, []⟩).memory :=
  laidMetH_of_parts3 (fuel := 8) (laidMet_of_run' 8 (by kernel_rfl) (by kernel_rfl)) (by kernel_rfl) (by kernel_rfl)

set_option maxRecDepth 100000 in
theorem lifted (os : Os) (started : os.Started) (H : Type) (enc : TypeId × Value → H) :
    ReturnsInHanded {} Tryd.checked os 4 .any (fun w args => (Rows.fnManifestTornSpec.pre enc Tryd.prog Tryd.f4 [] false w args ∧ laidMetH Tryd.prog Rows.fnManifestTornRow.laid w) ∧ sizedMet enc Tryd.prog Tryd.f4 (OpenSpec.ofChange Rows.fnManifestTornSpec) false w args)
      (Rows.fnManifestTornSpec.post enc Tryd.prog Tryd.f4 false true false false) := by
  refine returnsInHanded_of_change_and (C := Tryd.checked) (X := fun w _ => laidMetH Tryd.prog Rows.fnManifestTornRow.laid w) (fun _ _ _ hh h => h.of_heap hh) own started (by kernel_rfl) Tryd.func4
    (ChangeSpec.witness_shaped (enc := enc) (C := Tryd.checked) (os := os) (X := fun w _ => laidMetH Tryd.prog Rows.fnManifestTornRow.laid w) false (World.doorLaid Tryd.prog 400 os) #[.slice none 0 0, .int .u16 0, .int .i64 0, .int .u8 0] 8 rfl (World.shaped_of_RefB (by kernel_rfl) (by kernel_rfl)) (by kernel_rfl) (by kernel_rfl) (by kernel_rfl) (door_met os _)) ?_
  intro W base args ds gs before hval0 hW _ _ hL _
  have hval : ∀ (j : Nat) t v, Tryd.f4.params[j]? = some t → args[j]? = some v → Value.okWide Tryd.prog W .any base t v := hval0
  have hW' := hW
  obtain ⟨p, q, hA0, hV, rfl, hfz, hnd⟩ := hW
  have hA : DataW.TrodAll enc Tryd.prog W 0 (fun _ => true) true Tryd.f4.params.toList args.toList ds p := hA0
  rw [Tryd.params4] at hA hval
  obtain ⟨v0, v1, v2, v3, d0, d1, d2, d3, p0, p1, p2, p3, rfl, rfl, rfl, h0, h1, h2, h3⟩ := trodAll_four hA
  obtain ⟨rfl, rfl⟩ := trodVars_none hV
  obtain ⟨y, rfl, rfl, rfl, w1⟩ := open_int Tryd.underlying23 (hval 1 23 v1 rfl rfl) h1
  obtain ⟨z, rfl, rfl, rfl, w2⟩ := open_int Tryd.underlying3 (hval 2 3 v2 rfl rfl) h2
  obtain ⟨yy, rfl, rfl, rfl, w3⟩ := open_int Tryd.underlying5 (hval 3 5 v3 rfl rfl) h3
  obtain ⟨m, rfl, hm16⟩ := nat_u16 w1
  obtain ⟨by_, rfl, hby⟩ := nat_u8 w3
  have h0k := h0
  obtain ⟨Ls, hLs, hlm, hid⟩ := open_sets (hval 0 22 v0 rfl rfl) h0
  clear hA0 hval0
  simp only [List.append_nil] at hW'
  have hlt : ∀ x ∈ p0, x.block < W.heap.size := fun x hx => by simpa using hW'.lt x hx
  refine (fnManifestTorn_main Ls v0 m by_ z W hLs hlm hid hm16 hby (mem_of_laid hL)).mono fun e W' ⟨he, hc⟩ => ?_
  subst he
  have hg := hc.below_nil
  exact ⟨_, rfl, _, _, _, [], _, [], hW', trodAll_mk1 (shut_bool Tryd.underlying4 _), trodAll_mk4 (Below.trod laidOut (by kernel_rfl) (of_decide_eq_true (by kernel_rfl)) h0k hg hlt) (shut_int Tryd.underlying23 w1) (shut_int Tryd.underlying3 w2) (shut_int Tryd.underlying5 w3), rfl, hg.frame _, fun h => by cases h⟩

theorem over : Rows.FnManifestTornSaid :=
  OpenClaim.holds_of_wide 4 Tryd.f4 rfl rfl rfl rfl rfl rfl rfl ⟨rfl, rfl, rfl, rfl, rfl⟩ rfl rfl rfl rfl rfl (by kernel_rfl) Tryd.func4 (by kernel_rfl)
    (of_decide_eq_true (by kernel_rfl)) (by unfold Func.isWrapper; first | (rw [if_pos (by decide +kernel)]; kernel_rfl) | (rw [if_neg (by decide +kernel)]; exact ⟨rfl, rfl⟩))
    (fun os started H enc _ => lifted os started H enc)

/-- ████ THE STATEMENT ████ -/
theorem proved : Rows.FnManifestTornCardSaid :=
  Claim7.holds_tied_plain_at .later [] [.sentinel, .sentinel, .sentinel, .sentinel, .sentinel, .sentinel, .sentinel, .sentinel] true (true, "7e2ded1a189d1f63ace93344771c768205faa35d3ce8b8e30ba5e33e149a92fb") true
    over (fun _ h => by cases h) (by kernel_rfl) (fun _ h => by cases h) fnManifestTorn_row_tie rfl ⟨rfl, rfl⟩ (by kernel_rfl) rfl
    (fun f fn hf hfn => by
      obtain rfl : f = 4 := Option.some.inj ((show Tryd.prog.funcNamed "pub-clitter/laws.FnManifestTorn" = some 4 by kernel_rfl).symm.trans hf) |>.symm
      obtain rfl : fn = Tryd.f4 := (Option.some.inj (Tryd.func4.symm.trans hfn)).symm
      exact ⟨by kernel_rfl, fun j t ht => by
        rw [Tryd.params4] at ht
        have h3 : t = 22 ∨ t = 23 ∨ t = 3 ∨ t = 5 := by
          rcases j with _ | _ | _ | _ | j
          · left; simpa using ht.symm
          · right; left; simpa using ht.symm
          · right; right; left; simpa using ht.symm
          · right; right; right; simpa using ht.symm
          · simp at ht
        rcases h3 with rfl | rfl | rfl | rfl
        · exact (show Tryd.prog.wantsStandIn 22 = false by kernel_rfl)
        · exact (show Tryd.prog.wantsStandIn 23 = false by kernel_rfl)
        · exact (show Tryd.prog.wantsStandIn 3 = false by kernel_rfl)
        · exact (show Tryd.prog.wantsStandIn 5 = false by kernel_rfl)⟩)
    (by kernel_rfl)
#print axioms proved
end Go.Proofs.YtkjgkjmaoebeoaaDoor.fnManifestTorn
