/-
  The statement 'FnLogCutCardSaid' is proved: for every input the law returns true and its arguments read as before; the listed variables are tied to the program's text by the given tie.
-/
import Derived.Test.YtpndlcjilgcfkaaGreatDoorRows
import Derived.Test.YtpndlcjilgcfkaaGreatDoorTie
import Derived.Test.YtpndlcjilgcfkaaGreatDoorCards
import Derived.Test.YtpndlcjilgcfkaaGreatDoorBats
import Derived.Test.YtpndlcjilgcfkaaGreatDoorLaid
import Derived.Deep.Slices
import Derived.ChangeSame
import Derived.WalkKit
import Derived.ProofKit
import Derived.OpenShut
import Derived.ShutString
import Derived.LaidMore
import Derived.Stop.Joined
import Derived.SevenTiedAt
import Derived.Below
import Derived.Carry
namespace Go.Proofs.YtpndlcjilgcfkaaGreatDoor
open Go Go.RowKit
open Go.Proofs


set_option maxHeartbeats 8000000 in
set_option maxRecDepth 20000 in
theorem fnLogCut_walk (ts : List (Nat × List LEnt)) (v : Value) (at_ z : Int) (w : World) (hv : BatsR w v ts) (hl : ts.length ≤ 9223372036854775807) (hm : LogMem w) :
    Calls Tryz.prog 5 #[v, .int .i64 at_, .int .i64 z] w fun e w' => e = .returned (.bool true) ∧ Below w.heap.size w w' := by
  have hfits := zzFits7_any ts v w hv hl
  cases hf : fit7 ts with
  | false =>
    rw [hf] at hfits
    have hfits' := Lib.hid hfits
    have hv' := Lib.hid hv
    have hm' := Lib.hid hm
    have hf' := Lib.hid hf
    clear hf hm hv hfits
    go_enter Tryz.func5, Tryz.ntmps5
    go_wp2_with fail
    refine hfits'.out.mono ?_
    rintro e w1 ⟨rfl, hb1⟩
    have hb1' := Lib.hid hb1
    clear hb1
    go_wp2_with fail
    go_ret
    exact ⟨rfl, hb1'.out⟩
  | true =>
    rw [hf] at hfits
    have hbat := fun W (hb : Below w.heap.size w W) => lBatches_any ts v W (hv.below hb) hl
    have hawk := fun W (hb : Below w.heap.size w W) => rAwake_any w W hm hb
    have hbat' := Lib.hid hbat
    have hawk' := Lib.hid hawk
    clear hawk hbat
    have hfits' := Lib.hid hfits
    have hv' := Lib.hid hv
    have hm' := Lib.hid hm
    have hf' := Lib.hid hf
    clear hf hm hv hfits
    go_enter Tryz.func5, Tryz.ntmps5
    go_wp2_with fail
    refine hfits'.out.mono ?_
    rintro e w1 ⟨rfl, hb1⟩
    have hb1' := Lib.hid hb1
    clear hb1
    go_wp2_with fail
    refine (hbat'.out _ hb1'.out).mono ?_
    rintro e w2 ⟨hb2, hcase⟩
    have hbB := below_call_ hb2 hb1'.out
    rcases hcase with ⟨hno, rfl⟩ | ⟨hok, ve, va, us, rfl, hve, hva⟩
    · skip
      have hb2' := Lib.hid hb2
      have hbB' := Lib.hid hbB
      have hno' := Lib.hid hno
      clear hno hbB hb2
      go_wp2_with fail
      with_reducible refine (hawk'.out _ hbB'.out).mono ?_
      rintro e w3 ⟨rfl, hb3⟩
      go_wp2_with fail
      go_ret
      exact ⟨rfl, below_call_ hb3 hbB'.out⟩
    obtain ⟨hn10, hoks⟩ := okBs_parts hok
    have hTok := txBs_ok hoks hv'.out.wf
    have hTle := txBs_le ts hoks hv'.out.wf
    have hne := batsAt_ne (fun t ht => (hTok t ht).ne) 20
    have hcnt : (batsAt 20 (ts.map txB)).length ≤ 1000 := by rw [batsAt_length, List.length_map]; omega
    obtain ⟨P, hP⟩ : ∃ P, zeros20 ++ batsBytes (ts.map txB) = P := ⟨_, rfl⟩
    have hPl : P.length = 20 + (batsBytes (ts.map txB)).length := by rw [← hP, List.length_append]; rfl
    rw [hP]
    have hs1 : (ByteArray.mk P.toArray).size = P.length := by simp [ByteArray.size]
    have hPn : P.length ≤ 80000 := by omega
    by_cases h1 : at_ < 20
    · skip
      have hb2' := Lib.hid hb2
      have hbB' := Lib.hid hbB
      have hok' := Lib.hid hok
      have hve' := Lib.hid hve
      have hva' := Lib.hid hva
      have hn10' := Lib.hid hn10
      have hoks' := Lib.hid hoks
      have hTok' := Lib.hid hTok
      have hTle' := Lib.hid hTle
      have hne' := Lib.hid hne
      have hcnt' := Lib.hid hcnt
      have hP' := Lib.hid hP
      have hPl' := Lib.hid hPl
      clear hPl hP hcnt hne hTle hTok hoks hn10 hva hve hok hbB hb2
      go_wp2_with fail
      with_reducible refine (hawk'.out _ hbB'.out).mono ?_
      rintro e w3 ⟨rfl, hb3⟩
      go_wp2_with fail
      go_ret
      exact ⟨rfl, below_call_ hb3 hbB'.out⟩
    by_cases h2 : (P.length : Int) < at_
    · skip
      have hb2' := Lib.hid hb2
      have hbB' := Lib.hid hbB
      have hok' := Lib.hid hok
      have hve' := Lib.hid hve
      have hva' := Lib.hid hva
      have hn10' := Lib.hid hn10
      have hoks' := Lib.hid hoks
      have hTok' := Lib.hid hTok
      have hTle' := Lib.hid hTle
      have hne' := Lib.hid hne
      have hcnt' := Lib.hid hcnt
      have hP' := Lib.hid hP
      have hPl' := Lib.hid hPl
      clear hPl hP hcnt hne hTle hTok hoks hn10 hva hve hok hbB hb2
      go_wp2_with fail
      with_reducible refine (hawk'.out _ hbB'.out).mono ?_
      rintro e w3 ⟨rfl, hb3⟩
      go_wp2_with fail
      go_ret
      exact ⟨rfl, below_call_ hb3 hbB'.out⟩
    by_cases h3 : z < 0
    · skip
      have hb2' := Lib.hid hb2
      have hbB' := Lib.hid hbB
      have hok' := Lib.hid hok
      have hve' := Lib.hid hve
      have hva' := Lib.hid hva
      have hn10' := Lib.hid hn10
      have hoks' := Lib.hid hoks
      have hTok' := Lib.hid hTok
      have hTle' := Lib.hid hTle
      have hne' := Lib.hid hne
      have hcnt' := Lib.hid hcnt
      have hP' := Lib.hid hP
      have hPl' := Lib.hid hPl
      clear hPl hP hcnt hne hTle hTok hoks hn10 hva hve hok hbB hb2
      go_wp2_with fail
      with_reducible refine (hawk'.out _ hbB'.out).mono ?_
      rintro e w3 ⟨rfl, hb3⟩
      go_wp2_with fail
      go_ret
      exact ⟨rfl, below_call_ hb3 hbB'.out⟩
    by_cases h4 : 1000 < z
    · skip
      have hb2' := Lib.hid hb2
      have hbB' := Lib.hid hbB
      have hok' := Lib.hid hok
      have hve' := Lib.hid hve
      have hva' := Lib.hid hva
      have hn10' := Lib.hid hn10
      have hoks' := Lib.hid hoks
      have hTok' := Lib.hid hTok
      have hTle' := Lib.hid hTle
      have hne' := Lib.hid hne
      have hcnt' := Lib.hid hcnt
      have hP' := Lib.hid hP
      have hPl' := Lib.hid hPl
      clear hPl hP hcnt hne hTle hTok hoks hn10 hva hve hok hbB hb2
      go_wp2_with fail
      with_reducible refine (hawk'.out _ hbB'.out).mono ?_
      rintro e w3 ⟨rfl, hb3⟩
      go_wp2_with fail
      go_ret
      exact ⟨rfl, below_call_ hb3 hbB'.out⟩
    obtain ⟨a, rfl⟩ : ∃ a : Nat, at_ = (a : Int) := ⟨at_.toNat, by omega⟩
    obtain ⟨zn, rfl⟩ : ∃ a : Nat, z = (a : Int) := ⟨z.toNat, by omega⟩
    obtain ⟨D, hD⟩ : ∃ D, P.take a = D := ⟨_, rfl⟩
    have hDl : D.length = a := by rw [← hD, List.length_take]; omega
    obtain ⟨Y, hY⟩ : ∃ Y, List.replicate zn (0 : UInt8) = Y := ⟨_, rfl⟩
    have hYl : Y.length = zn := by rw [← hY, List.length_replicate]
    obtain ⟨C, hC⟩ : ∃ C, D ++ Y = C := ⟨_, rfl⟩
    have hCl : C.length = a + zn := by rw [← hC, List.length_append, hDl, hYl]
    have hCt : C.take a = P.take a := by rw [← hC, hD, ← hDl, List.take_left]
    have hpre := cut_prefix hP hTok C a (by omega) (by omega) hCt
    have hreads := fun W' (hb : Below w2.heap.size w2 W') => readsAll_any C a (batsAt 20 (ts.map txB)) ve va us _ w W' hm'.out (below_step hbB hbB.size hb) (hve.below hb (Nat.le_refl _)) (hva.below hb (Nat.le_refl _)) hne hcnt hpre (by omega) (by omega)
    have hsl : ∀ W : World, (Instr.slice 9 (.string ⟨P.toArray⟩) none (some (.int .i64 (a : Int))) none).run Tryz.prog W = .ok (.string ⟨D.toArray⟩) W := fun W => hD ▸ run_sliceTo_mk _ Tryz.underlying9 P .i64 a (by omega) W
    have hmk := run_mkB2 .i64 .i64 zn zn rfl (by omega)
    obtain ⟨Z, hZ⟩ : ∃ Z, List.replicate zn (Value.int .u8 0) = Z := ⟨_, rfl⟩
    rw [hZ] at hmk
    have zb : ∀ (W : World) (n : Nat), n = W.heap.size → Bs (W.alloc (.cells Z.toArray 5)) n 0 Y := fun W n hn => by rw [← hY]; exact bs_zeros (by rw [hZ]; exact Bk.at_ _ _ _ _ hn)
    have hconv : ∀ (W : World) (b : Nat), Bs W b 0 Y → (convert 22 9 (.slice (some ⟨b, 0, none⟩) zn zn)).run Tryz.prog W = .ok (.string ⟨Y.toArray⟩) W :=
      fun W b h => run_b2s W _ _ 5 Tryz.underlying22 Tryz.underlying5 Tryz.underlying9 _ _ _ _ _ hYl h
    have hcat : ByteArray.mk D.toArray ++ ByteArray.mk Y.toArray = ⟨C.toArray⟩ := by rw [← hC]; exact mkapp
    have hs2 : (ByteArray.mk D.toArray).size = a := by simp [ByteArray.size, hDl]
    have hs3 : (ByteArray.mk Y.toArray).size = zn := by simp [ByteArray.size, hYl]
    have hsum : ¬ 9223372036854775807 < a + zn := by omega
    have hreads' := fun W h => Lib.hid (hreads W h)
    clear hreads
    have hb2' := Lib.hid hb2
    have hbB' := Lib.hid hbB
    have hok' := Lib.hid hok
    have hve' := Lib.hid hve
    have hva' := Lib.hid hva
    have hn10' := Lib.hid hn10
    have hoks' := Lib.hid hoks
    have hTok' := Lib.hid hTok
    have hTle' := Lib.hid hTle
    have hne' := Lib.hid hne
    have hcnt' := Lib.hid hcnt
    have hP' := Lib.hid hP
    have hPl' := Lib.hid hPl
    have hD' := Lib.hid hD
    have hDl' := Lib.hid hDl
    have hY' := Lib.hid hY
    have hYl' := Lib.hid hYl
    have hC' := Lib.hid hC
    have hCl' := Lib.hid hCl
    have hCt' := Lib.hid hCt
    have hpre' := Lib.hid hpre
    have hZ' := Lib.hid hZ
    clear hZ hpre hCt hCl hC hYl hY hDl hD hPl hP hcnt hne hTle hTok hoks hn10 hva hve hok hbB hb2
    go_upto_region 6 with fail
    go_region_with (first | (go_at_call 17; (try rw [hcat]); with_reducible refine (hreads' _ (by repeat (first | exact Below.refl _ _ | refine below_drew_ ?_ | refine below_alloc_ ?_ _))).out.mono ?_; rintro e w4 ⟨rfl, hb4⟩) | (rw [hconv _ _ (by first | exact zb _ _ rfl | exact Bs.drew (zb _ _ rfl))]; go_simp) | (rw [hsl]; go_simp))
    all_goals
      go_wp2_with fail
      go_ret
      exact ⟨rfl, below_call_ hb4 (by repeat (first | exact hbB'.out | refine below_drew_ ?_ | refine below_alloc_ ?_ _))⟩
end Go.Proofs.YtpndlcjilgcfkaaGreatDoor
namespace Go.Proofs.YtpndlcjilgcfkaaGreatDoor.fnLogCut
open Go Go.ChangeShapes Go.WideShapes Go.ChangeAt Go.RowKit
open Go.ChangeMaps (open_string shut_string)
open Go.Proofs.YtpndlcjilgcfkaaGreatDoor
set_option linter.unusedVariables false

theorem own : ownKnob Tryz.prog.godebug = none := by kernel_rfl
theorem laidOut : laidOutB Tryz.prog = true := by kernel_rfl

set_option maxRecDepth 100000 in
/-- The listed variables, as the walk wants them. -/
theorem mem_of_laid {W : World} (h : laidMetH Tryz.prog Rows.fnLogCutRow.laid W) : LogMem W := by
  have hp : (Rows.fnLogCutRow.laid.all fun x => x.2.handleName?.isNone) = true := by kernel_rfl
  have s1 := sent_one (n := "io.EOF") (g := 1) (by kernel_rfl) (by kernel_rfl) (laid_one h hp "io.EOF" Rows.laid_io_EOF (by kernel_rfl))
  have s2 := sent_one (n := "io.ErrUnexpectedEOF") (g := 2) (by kernel_rfl) (by kernel_rfl) (laid_one h hp "io.ErrUnexpectedEOF" Rows.laid_io_ErrUnexpectedEOF (by kernel_rfl))
  have s3 := sent_one (n := "pub-clitter/pub/badger.errTruncate") (g := 3) (by kernel_rfl) (by kernel_rfl) (laid_one h hp "pub-clitter/pub/badger.errTruncate" Rows.laid_pub_clitter_pub_badger_errTruncate (by kernel_rfl))
  obtain ⟨a4, s4, _⟩ := sent_one (n := "pub-clitter/pub/badger/zz.NewFile") (g := 0) (by kernel_rfl) (by kernel_rfl) (laid_one h hp "pub-clitter/pub/badger/zz.NewFile" Rows.laid_pub_clitter_pub_badger_zz_NewFile (by kernel_rfl))
  obtain ⟨a5, s5, _⟩ := sent_one (n := "strconv.ErrSyntax") (g := 11) (by kernel_rfl) (by kernel_rfl) (laid_one h hp "strconv.ErrSyntax" Rows.laid_strconv_ErrSyntax (by kernel_rfl))
  obtain ⟨a6, s6, _⟩ := sent_one (n := "strconv.ErrRange") (g := 12) (by kernel_rfl) (by kernel_rfl) (laid_one h hp "strconv.ErrRange" Rows.laid_strconv_ErrRange (by kernel_rfl))
  have hN : glN ≤ W.heap.size := by
    have h12 : 12 < W.heap.size := block_lt_of_cell s6
    unfold glN
    omega
  exact ⟨⟨s1, s2, s3, hN⟩, ⟨_, _, s4⟩, ⟨_, _, s5⟩, ⟨_, _, s6⟩⟩

/-- The door's own heap meets the condition. -/
theorem door_met (os : Os) (args : Array Value) : laidMetH Tryz.prog Rows.fnLogCutRow.laid ((World.doorLaid Tryz.prog 400 os).forCall (fun _ _ => 0) ⟨#[], args, []⟩).memory :=
  laidMetH_of_parts3 (fuel := 8) (laidMet_of_run' 8 (by kernel_rfl) (by kernel_rfl)) (by kernel_rfl) (by kernel_rfl)

set_option maxRecDepth 100000 in
theorem lifted (os : Os) (started : os.Started) (H : Type) (enc : TypeId × Value → H) :
    ReturnsInHanded {} Tryz.checked os 5 .any (fun w args => (Rows.fnLogCutSpec.pre enc Tryz.prog Tryz.f5 [] false w args ∧ laidMetH Tryz.prog Rows.fnLogCutRow.laid w) ∧ sizedMet enc Tryz.prog Tryz.f5 (OpenSpec.ofChange Rows.fnLogCutSpec) false w args)
      (Rows.fnLogCutSpec.post enc Tryz.prog Tryz.f5 false true false false) := by
  refine returnsInHanded_of_change_and (C := Tryz.checked) (X := fun w _ => laidMetH Tryz.prog Rows.fnLogCutRow.laid w) (fun _ _ _ hh h => h.of_heap hh) own started (by kernel_rfl) Tryz.func5
    (ChangeSpec.witness_shaped (enc := enc) (C := Tryz.checked) (os := os) (X := fun w _ => laidMetH Tryz.prog Rows.fnLogCutRow.laid w) false (World.doorLaid Tryz.prog 400 os) #[.slice none 0 0, .int .i64 0, .int .i64 0] 8 rfl (World.shaped_of_RefB (by kernel_rfl) (by kernel_rfl)) (by kernel_rfl) (by kernel_rfl) (by kernel_rfl) (door_met os _)) ?_
  intro W base args ds gs before hval0 hW _ _ hL _
  have hval : ∀ (j : Nat) t v, Tryz.f5.params[j]? = some t → args[j]? = some v → Value.okWide Tryz.prog W .any base t v := hval0
  have hW' := hW
  obtain ⟨p, q, hA0, hV, rfl, hfz, hnd⟩ := hW
  have hA : DataW.TrodAll enc Tryz.prog W 0 (fun _ => true) true Tryz.f5.params.toList args.toList ds p := hA0
  rw [Tryz.params5] at hA hval
  obtain ⟨v0, v1, v2, d0, d1, d2, p0, p1, p2, rfl, rfl, rfl, h0, h1, h2⟩ := trodAll_three hA
  obtain ⟨rfl, rfl⟩ := trodVars_none hV
  obtain ⟨z, rfl, rfl, rfl, w1⟩ := open_int Tryz.underlying3 (hval 1 3 v1 rfl rfl) h1
  obtain ⟨y, rfl, rfl, rfl, w2⟩ := open_int Tryz.underlying3 (hval 2 3 v2 rfl rfl) h2
  have h0k := h0
  obtain ⟨ts, hts, hlm⟩ := open_bats (hval 0 36 v0 rfl rfl) h0
  clear hA0 hval0
  simp only [List.append_nil] at hW'
  have hlt : ∀ x ∈ p0, x.block < W.heap.size := fun x hx => by simpa using hW'.lt x hx
  refine (fnLogCut_walk ts v0 z y W hts (by unfold maxLen at hlm; omega) (mem_of_laid hL)).mono fun e W' ⟨he, hg⟩ => ?_
  subst he
  exact ⟨_, rfl, _, _, _, [], _, [], hW', trodAll_mk1 (shut_bool Tryz.underlying4 _), trodAll_mk3 (Below.trod laidOut (by kernel_rfl) (of_decide_eq_true (by kernel_rfl)) h0k hg hlt) (shut_int Tryz.underlying3 w1) (shut_int Tryz.underlying3 w2), rfl, hg.frame _, fun h => by cases h⟩

theorem over : Rows.FnLogCutSaid :=
  OpenClaim.holds_of_wide 5 Tryz.f5 rfl rfl rfl rfl rfl rfl rfl ⟨rfl, rfl, rfl, rfl, rfl⟩ rfl rfl rfl rfl rfl (by kernel_rfl) Tryz.func5 (by kernel_rfl)
    (of_decide_eq_true (by kernel_rfl)) (by unfold Func.isWrapper; first | (rw [if_pos (by decide +kernel)]; kernel_rfl) | (rw [if_neg (by decide +kernel)]; exact ⟨rfl, rfl⟩))
    (fun os started H enc _ => lifted os started H enc)

/-- ████ THE STATEMENT ████ -/
theorem proved : Rows.FnLogCutCardSaid :=
  Claim7.holds_tied_plain_at .later [] [.data, .data, .data, .sentinel, .sentinel, .sentinel, .sentinel, .sentinel, .sentinel, .sentinel, .sentinel, .sentinel, .sentinel, .sentinel, .sentinel] true (true, "2618b42fb713529dcc1d350da7f252f8d9351e8bd2083d2bb60764f2f0d06012") true
    over (fun _ h => by cases h) (by kernel_rfl) (fun _ h => by cases h) fnLogCut_row_tie rfl ⟨rfl, rfl⟩ (by kernel_rfl) rfl
    (fun f fn hf hfn => by
      obtain rfl : f = 5 := Option.some.inj ((show Tryz.prog.funcNamed "pub-clitter/laws.FnLogCut" = some 5 by kernel_rfl).symm.trans hf) |>.symm
      obtain rfl : fn = Tryz.f5 := (Option.some.inj (Tryz.func5.symm.trans hfn)).symm
      exact ⟨by kernel_rfl, fun j t ht => by
        rw [Tryz.params5] at ht
        have h3 : t = 36 ∨ t = 3 := by
          rcases j with _ | _ | _ | j
          · left; simpa using ht.symm
          · right; simpa using ht.symm
          · right; simpa using ht.symm
          · simp at ht
        rcases h3 with rfl | rfl
        · exact (show Tryz.prog.wantsStandIn 36 = false by kernel_rfl)
        · exact (show Tryz.prog.wantsStandIn 3 = false by kernel_rfl)⟩)
    (by kernel_rfl)
#print axioms proved
end Go.Proofs.YtpndlcjilgcfkaaGreatDoor.fnLogCut
