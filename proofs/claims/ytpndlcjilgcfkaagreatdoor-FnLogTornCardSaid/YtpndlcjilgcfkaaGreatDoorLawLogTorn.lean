/-
  The statement 'FnLogTornCardSaid' is proved: for every input the law returns true and its arguments read as before; the listed variables are tied to the program's text by the given tie.
-/
import Derived.Test.YtpndlcjilgcfkaaGreatDoorRows
import Derived.Test.YtpndlcjilgcfkaaGreatDoorTie
import Derived.Test.YtpndlcjilgcfkaaGreatDoorCards
import Derived.Test.YtpndlcjilgcfkaaGreatDoorBats
import Derived.Test.YtpndlcjilgcfkaaGreatDoorLaid
import Derived.Deep.Slices
import Derived.ChangeSame
import Derived.WalkKit
import Derived.ProofKit
import Derived.OpenShut
import Derived.ShutString
import Derived.LaidMore
import Derived.Stop.Joined
import Derived.SevenTiedAt
import Derived.Below
import Derived.Carry
namespace Go.Proofs.YtpndlcjilgcfkaaGreatDoor
open Go Go.RowKit
open Go.Proofs


section
variable {P : Program} {w : World} {ops : Array Oper} {rest : List Oper} {o : Oper} {a : Act} {Q : Exit → Act → World → Prop}
/-- '[]byte(s)', the new world named. -/
theorem wpList_s2bW (hg : o.guard = none) (src dst e : TypeId) (x : Operand) (hop : o.op = Op.convert src dst x)
    {u : TypeDesc} (hs : P.underlying src = some u) (hd : P.underlying dst = some (.slice e)) (he : P.underlying e = some (.int .u8))
    (s : ByteArray) (hx : a.eval x = .string s) (hK : wpList P ops Q rest (a.put o.dst (.slice (some ⟨w.heap.size, 0, none⟩) s.size (grownCap w s.size 0 e))) (Lib.bytesWorld w e s)) : wpList P ops Q (o :: rest) a w := by
  refine wpList_plain hg fun K hK' => ?_
  have hrun := Lib.run_convert_string_bytes (P := P) w src dst e s hs hd he
  unfold Oper.wp
  simp [execOp, hop, hx, hrun, Result.andThen]
  exact hK' _ _ hK
end
theorem bytesWorld_free (w : World) (e : TypeId) (s : ByteArray) (j : Nat) (hj : j < s.size) : (Lib.bytesWorld w e s).frozen? ⟨w.heap.size, j, none⟩ = false := by
  have hl : s.size ≤ (Lib.bytesCells w e s).size := by
    simp [Lib.bytesCells]
  simp [World.frozen?, Lib.bytesWorld_at_new]
  omega
theorem Bs.setAt {w : World} {b : Nat} {l : List UInt8} (h : Bs w b 0 l) (a : Nat) (y : UInt8) : Bs (w.setCell ⟨b, a, none⟩ (.int .u8 (y.toNat : Int))) b 0 (l.set a y) := by
  intro j hj
  have hj' : j < l.length := by simpa using hj
  by_cases hja : j = a
  · subst hja
    rw [Nat.zero_add, List.getElem_set_self]
    have h1 := h j hj'
    rw [Nat.zero_add] at h1
    exact World.cell?_setCell_same w _ _ h1
  · rw [List.getElem_set_ne (Ne.symm hja)]
    exact (World.cell?_setCell_other w ⟨b, a, none⟩ ⟨b, 0 + j, none⟩ _ (fun e => hja (by injection e with _ e; omega))).trans (h j hj')

set_option maxHeartbeats 8000000 in
set_option maxRecDepth 20000 in
theorem fnLogTorn_walk (ts : List (Nat × List LEnt)) (v : Value) (at_ : Int) (m : Nat) (hm8 : m < 256) (w : World) (hv : BatsR w v ts) (hl : ts.length ≤ 9223372036854775807) (hm : LogMem w) :
    Calls Tryz.prog 6 #[v, .int .i64 at_, .int .u8 (m : Int)] w fun e w' => e = .returned (.bool true) ∧ Below w.heap.size w w' := by
  have hfits := zzFits7_any ts v w hv hl
  cases hf : fit7 ts with
  | false =>
    rw [hf] at hfits
    have hfits' := Lib.hid hfits
    have hv' := Lib.hid hv
    have hm' := Lib.hid hm
    have hf' := Lib.hid hf
    clear hf hm hv hfits
    go_enter Tryz.func6, Tryz.ntmps6
    go_wp2_with fail
    refine hfits'.out.mono ?_
    rintro e w1 ⟨rfl, hb1⟩
    have hb1' := Lib.hid hb1
    clear hb1
    go_wp2_with fail
    go_ret
    exact ⟨rfl, hb1'.out⟩
  | true =>
    rw [hf] at hfits
    have hbat := fun W (hb : Below w.heap.size w W) => lBatches_any ts v W (hv.below hb) hl
    have hawk := fun W (hb : Below w.heap.size w W) => rAwake_any w W hm hb
    have hbat' := Lib.hid hbat
    have hawk' := Lib.hid hawk
    clear hawk hbat
    have hfits' := Lib.hid hfits
    have hv' := Lib.hid hv
    have hm' := Lib.hid hm
    have hf' := Lib.hid hf
    clear hf hm hv hfits
    go_enter Tryz.func6, Tryz.ntmps6
    go_wp2_with fail
    refine hfits'.out.mono ?_
    rintro e w1 ⟨rfl, hb1⟩
    have hb1' := Lib.hid hb1
    clear hb1
    go_wp2_with fail
    refine (hbat'.out _ hb1'.out).mono ?_
    rintro e w2 ⟨hb2, hcase⟩
    have hbB := below_call_ hb2 hb1'.out
    rcases hcase with ⟨hno, rfl⟩ | ⟨hok, ve, va, us, rfl, hve, hva⟩
    · skip
      have hb2' := Lib.hid hb2
      have hbB' := Lib.hid hbB
      have hno' := Lib.hid hno
      clear hno hbB hb2
      go_wp2_with fail
      with_reducible refine (hawk'.out _ hbB'.out).mono ?_
      rintro e w3 ⟨rfl, hb3⟩
      go_wp2_with fail
      go_ret
      exact ⟨rfl, below_call_ hb3 hbB'.out⟩
    obtain ⟨hn10, hoks⟩ := okBs_parts hok
    have hTok := txBs_ok hoks hv'.out.wf
    have hTle := txBs_le ts hoks hv'.out.wf
    have hne := batsAt_ne (fun t ht => (hTok t ht).ne) 20
    have hcnt : (batsAt 20 (ts.map txB)).length ≤ 1000 := by rw [batsAt_length, List.length_map]; omega
    obtain ⟨P, hP⟩ : ∃ P, zeros20 ++ batsBytes (ts.map txB) = P := ⟨_, rfl⟩
    have hPl : P.length = 20 + (batsBytes (ts.map txB)).length := by rw [← hP, List.length_append]; rfl
    rw [hP]
    have hs1 : (ByteArray.mk P.toArray).size = P.length := by simp [ByteArray.size]
    have hPn : P.length ≤ 80000 := by omega
    by_cases h1 : at_ < 20
    · skip
      have hb2' := Lib.hid hb2
      have hbB' := Lib.hid hbB
      have hok' := Lib.hid hok
      have hve' := Lib.hid hve
      have hva' := Lib.hid hva
      have hn10' := Lib.hid hn10
      have hoks' := Lib.hid hoks
      have hTok' := Lib.hid hTok
      have hTle' := Lib.hid hTle
      have hne' := Lib.hid hne
      have hcnt' := Lib.hid hcnt
      have hP' := Lib.hid hP
      have hPl' := Lib.hid hPl
      clear hPl hP hcnt hne hTle hTok hoks hn10 hva hve hok hbB hb2
      go_wp2_with fail
      with_reducible refine (hawk'.out _ hbB'.out).mono ?_
      rintro e w3 ⟨rfl, hb3⟩
      go_wp2_with fail
      go_ret
      exact ⟨rfl, below_call_ hb3 hbB'.out⟩
    by_cases h2 : (P.length : Int) ≤ at_
    · skip
      have hb2' := Lib.hid hb2
      have hbB' := Lib.hid hbB
      have hok' := Lib.hid hok
      have hve' := Lib.hid hve
      have hva' := Lib.hid hva
      have hn10' := Lib.hid hn10
      have hoks' := Lib.hid hoks
      have hTok' := Lib.hid hTok
      have hTle' := Lib.hid hTle
      have hne' := Lib.hid hne
      have hcnt' := Lib.hid hcnt
      have hP' := Lib.hid hP
      have hPl' := Lib.hid hPl
      clear hPl hP hcnt hne hTle hTok hoks hn10 hva hve hok hbB hb2
      go_wp2_with fail
      with_reducible refine (hawk'.out _ hbB'.out).mono ?_
      rintro e w3 ⟨rfl, hb3⟩
      go_wp2_with fail
      go_ret
      exact ⟨rfl, below_call_ hb3 hbB'.out⟩
    by_cases h3 : m = 0
    · have h3I : (m : Int) = 0 := by omega
      have h3B : ((m : Int) == 0) = true := by simp [h3]
      have hb2' := Lib.hid hb2
      have hbB' := Lib.hid hbB
      have hok' := Lib.hid hok
      have hve' := Lib.hid hve
      have hva' := Lib.hid hva
      have hn10' := Lib.hid hn10
      have hoks' := Lib.hid hoks
      have hTok' := Lib.hid hTok
      have hTle' := Lib.hid hTle
      have hne' := Lib.hid hne
      have hcnt' := Lib.hid hcnt
      have hP' := Lib.hid hP
      have hPl' := Lib.hid hPl
      clear hPl hP hcnt hne hTle hTok hoks hn10 hva hve hok hbB hb2
      go_wp2_with fail
      with_reducible refine (hawk'.out _ hbB'.out).mono ?_
      rintro e w3 ⟨rfl, hb3⟩
      go_wp2_with fail
      go_ret
      exact ⟨rfl, below_call_ hb3 hbB'.out⟩
    have h3B : ((m : Int) == 0) = false := by simp; omega
    obtain ⟨a, rfl⟩ : ∃ a : Nat, at_ = (a : Int) := ⟨at_.toNat, by omega⟩
    have ha : a < P.length := by omega
    have haI : (a : Int) < (P.length : Int) := by omega
    have ha0 : (0 : Int) ≤ (a : Int) := by omega
    obtain ⟨x, hx⟩ : ∃ x : Nat, (P[a]).toNat = x := ⟨_, rfl⟩
    have hx8 : x < 256 := by rw [← hx]; exact UInt8.toNat_lt _
    have hxor := u8_xor_nat x m hx8 hm8
    obtain ⟨y, hy⟩ : ∃ y, x ^^^ m = y := ⟨_, rfl⟩
    have hy8 : y < 256 := by rw [← hy]; exact Nat.xor_lt_two_pow (n := 8) hx8 hm8
    rw [hy] at hxor
    obtain ⟨yb, hyb⟩ : ∃ b : UInt8, b.toNat = y := ⟨y.toUInt8, by simp; omega⟩
    obtain ⟨W3, hW3⟩ : ∃ W3, Lib.bytesWorld w2 5 ⟨P.toArray⟩ = W3 := ⟨_, rfl⟩
    obtain ⟨cp, hcp⟩ : ∃ c, grownCap w2 P.length 0 5 = c := ⟨_, rfl⟩
    have hbs : Bs W3 w2.heap.size 0 P := by rw [← hW3]; exact bs_bytesWorld w2 ⟨P.toArray⟩ 5
    have q1 : W3.cell? ⟨w2.heap.size, a, none⟩ = some (.int .u8 (x : Int)) := by
      have h := hbs a ha
      rw [Nat.zero_add, hx] at h
      exact h
    have f1 : W3.frozen? ⟨w2.heap.size, a, none⟩ = false := by rw [← hW3]; exact bytesWorld_free w2 _ _ a (by rw [hs1]; exact ha)
    have hb3 : Below w2.heap.size w2 W3 := by rw [← hW3]; exact Lib.bytesWorld_below w2 _ _
    have hb4 := hb3.setCell (p := ⟨w2.heap.size, a, none⟩) (Nat.le_refl _) (.int .u8 (y : Int))
    have hbT := hbs.setAt a yb
    rw [hyb] at hbT
    obtain ⟨T, hT⟩ : ∃ T, P.set a yb = T := ⟨_, rfl⟩
    have hTl : T.length = P.length := by rw [← hT]; simp
    have hTt : T.take a = P.take a := by rw [← hT]; exact List.take_set_of_le (Nat.le_refl _)
    rw [hT] at hbT
    have hpre1 := cut_prefix hP hTok T a (by omega) (by omega) hTt
    have hpre2 := cut_prefix hP hTok P P.length (by omega) (Nat.le_refl _) rfl
    have hr1 := readsAll_any T a (batsAt 20 (ts.map txB)) ve va us _ w _ hm'.out (below_step hbB hbB.size hb4) (hve.below hb4 (Nat.le_refl _)) (hva.below hb4 (Nat.le_refl _)) hne hcnt hpre1 (by omega) (by omega)
    have hr2 := fun W' (hb : Below w2.heap.size w2 W') => readsAll_any P P.length (batsAt 20 (ts.map txB)) ve va us _ w W' hm'.out (below_step hbB hbB.size hb) (hve.below hb (Nat.le_refl _)) (hva.below hb (Nat.le_refl _)) hne hcnt hpre2 (by omega) (by omega)
    have hb2' := Lib.hid hb2
    have hbB' := Lib.hid hbB
    have hok' := Lib.hid hok
    have hve' := Lib.hid hve
    have hva' := Lib.hid hva
    have hn10' := Lib.hid hn10
    have hoks' := Lib.hid hoks
    have hTok' := Lib.hid hTok
    have hTle' := Lib.hid hTle
    have hne' := Lib.hid hne
    have hcnt' := Lib.hid hcnt
    have hP' := Lib.hid hP
    have hPl' := Lib.hid hPl
    have hx' := Lib.hid hx
    have hy' := Lib.hid hy
    have hyb' := Lib.hid hyb
    have hW3' := Lib.hid hW3
    have hcp' := Lib.hid hcp
    have hbs' := Lib.hid hbs
    have hb3' := Lib.hid hb3
    have hb4' := Lib.hid hb4
    have hbT' := Lib.hid hbT
    have hT' := Lib.hid hT
    have hTl' := Lib.hid hTl
    have hTt' := Lib.hid hTt
    have hpre1' := Lib.hid hpre1
    have hpre2' := Lib.hid hpre2
    have hr1' := Lib.hid hr1
    have hr2' := Lib.hid hr2
    clear hr2 hr1 hpre2 hpre1 hTt hTl hT hbT hb4 hb3 hbs hcp hW3 hyb hy hx hPl hP hcnt hne hTle hTok hoks hn10 hva hve hok hbB hb2
    go_wp2_with (first | (refine wpList_s2bW rfl 9 22 5 (.tmp 39) rfl Tryz.underlying9 Tryz.underlying22 Tryz.underlying5 ⟨P.toArray⟩ rfl ?_; rw [hs1, hcp'.out, hW3'.out]) | (refine wpList_b2s rfl 22 9 5 (.tmp 48) rfl Tryz.underlying22 Tryz.underlying5 Tryz.underlying9 w2.heap.size 0 P.length cp rfl T hTl'.out hbT'.out ?_) | (go_at_call 17; with_reducible refine hr1'.out.mono ?_; rintro e w5 ⟨rfl, hb5⟩) | (go_at_call 17; with_reducible refine (hr2'.out _ (below_call_ hb5 hb4'.out)).mono ?_; rintro e w6 ⟨rfl, hb6⟩))
    go_ret
    exact ⟨rfl, below_call_ hb6 (below_call_ hb5 (below_step hbB'.out hbB'.out.size hb4'.out))⟩
end Go.Proofs.YtpndlcjilgcfkaaGreatDoor
namespace Go.Proofs.YtpndlcjilgcfkaaGreatDoor.fnLogTorn
open Go Go.ChangeShapes Go.WideShapes Go.ChangeAt Go.RowKit
open Go.ChangeMaps (open_string shut_string)
open Go.Proofs.YtpndlcjilgcfkaaGreatDoor
set_option linter.unusedVariables false

theorem own : ownKnob Tryz.prog.godebug = none := by kernel_rfl
theorem laidOut : laidOutB Tryz.prog = true := by kernel_rfl

set_option maxRecDepth 100000 in
/-- The listed variables, as the walk wants them. -/
theorem mem_of_laid {W : World} (h : laidMetH Tryz.prog Rows.fnLogTornRow.laid W) : LogMem W := by
  have hp : (Rows.fnLogTornRow.laid.all fun x => x.2.handleName?.isNone) = true := by kernel_rfl
  have s1 := sent_one (n := "io.EOF") (g := 1) (by kernel_rfl) (by kernel_rfl) (laid_one h hp "io.EOF" Rows.laid_io_EOF (by kernel_rfl))
  have s2 := sent_one (n := "io.ErrUnexpectedEOF") (g := 2) (by kernel_rfl) (by kernel_rfl) (laid_one h hp "io.ErrUnexpectedEOF" Rows.laid_io_ErrUnexpectedEOF (by kernel_rfl))
  have s3 := sent_one (n := "pub-clitter/pub/badger.errTruncate") (g := 3) (by kernel_rfl) (by kernel_rfl) (laid_one h hp "pub-clitter/pub/badger.errTruncate" Rows.laid_pub_clitter_pub_badger_errTruncate (by kernel_rfl))
  obtain ⟨a4, s4, _⟩ := sent_one (n := "pub-clitter/pub/badger/zz.NewFile") (g := 0) (by kernel_rfl) (by kernel_rfl) (laid_one h hp "pub-clitter/pub/badger/zz.NewFile" Rows.laid_pub_clitter_pub_badger_zz_NewFile (by kernel_rfl))
  obtain ⟨a5, s5, _⟩ := sent_one (n := "strconv.ErrSyntax") (g := 11) (by kernel_rfl) (by kernel_rfl) (laid_one h hp "strconv.ErrSyntax" Rows.laid_strconv_ErrSyntax (by kernel_rfl))
  obtain ⟨a6, s6, _⟩ := sent_one (n := "strconv.ErrRange") (g := 12) (by kernel_rfl) (by kernel_rfl) (laid_one h hp "strconv.ErrRange" Rows.laid_strconv_ErrRange (by kernel_rfl))
  have hN : glN ≤ W.heap.size := by
    have h12 : 12 < W.heap.size := block_lt_of_cell s6
    unfold glN
    omega
  exact ⟨⟨s1, s2, s3, hN⟩, ⟨_, _, s4⟩, ⟨_, _, s5⟩, ⟨_, _, s6⟩⟩

/-- The door's own heap meets the condition. -/
theorem door_met (os : Os) (args : Array Value) : laidMetH Tryz.prog Rows.fnLogTornRow.laid ((World.doorLaid Tryz.prog 400 os).forCall (fun _ _ => 0) ⟨#[], args, []⟩).memory :=
  laidMetH_of_parts3 (fuel := 8) (laidMet_of_run' 8 (by kernel_rfl) (by kernel_rfl)) (by kernel_rfl) (by kernel_rfl)

set_option maxRecDepth 100000 in
theorem lifted (os : Os) (started : os.Started) (H : Type) (enc : TypeId × Value → H) :
    ReturnsInHanded {} Tryz.checked os 6 .any (fun w args => (Rows.fnLogTornSpec.pre enc Tryz.prog Tryz.f6 [] false w args ∧ laidMetH Tryz.prog Rows.fnLogTornRow.laid w) ∧ sizedMet enc Tryz.prog Tryz.f6 (OpenSpec.ofChange Rows.fnLogTornSpec) false w args)
      (Rows.fnLogTornSpec.post enc Tryz.prog Tryz.f6 false true false false) := by
  refine returnsInHanded_of_change_and (C := Tryz.checked) (X := fun w _ => laidMetH Tryz.prog Rows.fnLogTornRow.laid w) (fun _ _ _ hh h => h.of_heap hh) own started (by kernel_rfl) Tryz.func6
    (ChangeSpec.witness_shaped (enc := enc) (C := Tryz.checked) (os := os) (X := fun w _ => laidMetH Tryz.prog Rows.fnLogTornRow.laid w) false (World.doorLaid Tryz.prog 400 os) #[.slice none 0 0, .int .i64 0, .int .u8 0] 8 rfl (World.shaped_of_RefB (by kernel_rfl) (by kernel_rfl)) (by kernel_rfl) (by kernel_rfl) (by kernel_rfl) (door_met os _)) ?_
  intro W base args ds gs before hval0 hW _ _ hL _
  have hval : ∀ (j : Nat) t v, Tryz.f6.params[j]? = some t → args[j]? = some v → Value.okWide Tryz.prog W .any base t v := hval0
  have hW' := hW
  obtain ⟨p, q, hA0, hV, rfl, hfz, hnd⟩ := hW
  have hA : DataW.TrodAll enc Tryz.prog W 0 (fun _ => true) true Tryz.f6.params.toList args.toList ds p := hA0
  rw [Tryz.params6] at hA hval
  obtain ⟨v0, v1, v2, d0, d1, d2, p0, p1, p2, rfl, rfl, rfl, h0, h1, h2⟩ := trodAll_three hA
  obtain ⟨rfl, rfl⟩ := trodVars_none hV
  obtain ⟨z, rfl, rfl, rfl, w1⟩ := open_int Tryz.underlying3 (hval 1 3 v1 rfl rfl) h1
  obtain ⟨y, rfl, rfl, rfl, w2⟩ := open_int Tryz.underlying5 (hval 2 5 v2 rfl rfl) h2
  obtain ⟨m, rfl, hm8⟩ := nat_u8 w2
  have h0k := h0
  obtain ⟨ts, hts, hlm⟩ := open_bats (hval 0 36 v0 rfl rfl) h0
  clear hA0 hval0
  simp only [List.append_nil] at hW'
  have hlt : ∀ x ∈ p0, x.block < W.heap.size := fun x hx => by simpa using hW'.lt x hx
  refine (fnLogTorn_walk ts v0 z m hm8 W hts (by unfold maxLen at hlm; omega) (mem_of_laid hL)).mono fun e W' ⟨he, hg⟩ => ?_
  subst he
  exact ⟨_, rfl, _, _, _, [], _, [], hW', trodAll_mk1 (shut_bool Tryz.underlying4 _), trodAll_mk3 (Below.trod laidOut (by kernel_rfl) (of_decide_eq_true (by kernel_rfl)) h0k hg hlt) (shut_int Tryz.underlying3 w1) (shut_int Tryz.underlying5 w2), rfl, hg.frame _, fun h => by cases h⟩

theorem over : Rows.FnLogTornSaid :=
  OpenClaim.holds_of_wide 6 Tryz.f6 rfl rfl rfl rfl rfl rfl rfl ⟨rfl, rfl, rfl, rfl, rfl⟩ rfl rfl rfl rfl rfl (by kernel_rfl) Tryz.func6 (by kernel_rfl)
    (of_decide_eq_true (by kernel_rfl)) (by unfold Func.isWrapper; first | (rw [if_pos (by decide +kernel)]; kernel_rfl) | (rw [if_neg (by decide +kernel)]; exact ⟨rfl, rfl⟩))
    (fun os started H enc _ => lifted os started H enc)

/-- ████ THE STATEMENT ████ -/
theorem proved : Rows.FnLogTornCardSaid :=
  Claim7.holds_tied_plain_at .later [] [.data, .data, .data, .sentinel, .sentinel, .sentinel, .sentinel, .sentinel, .sentinel, .sentinel, .sentinel, .sentinel, .sentinel, .sentinel, .sentinel] true (true, "2618b42fb713529dcc1d350da7f252f8d9351e8bd2083d2bb60764f2f0d06012") true
    over (fun _ h => by cases h) (by kernel_rfl) (fun _ h => by cases h) fnLogTorn_row_tie rfl ⟨rfl, rfl⟩ (by kernel_rfl) rfl
    (fun f fn hf hfn => by
      obtain rfl : f = 6 := Option.some.inj ((show Tryz.prog.funcNamed "pub-clitter/laws.FnLogTorn" = some 6 by kernel_rfl).symm.trans hf) |>.symm
      obtain rfl : fn = Tryz.f6 := (Option.some.inj (Tryz.func6.symm.trans hfn)).symm
      exact ⟨by kernel_rfl, fun j t ht => by
        rw [Tryz.params6] at ht
        have h3 : t = 36 ∨ t = 3 ∨ t = 5 := by
          rcases j with _ | _ | _ | j
          · left; simpa using ht.symm
          · right; left; simpa using ht.symm
          · right; right; simpa using ht.symm
          · simp at ht
        rcases h3 with rfl | rfl | rfl
        · exact (show Tryz.prog.wantsStandIn 36 = false by kernel_rfl)
        · exact (show Tryz.prog.wantsStandIn 3 = false by kernel_rfl)
        · exact (show Tryz.prog.wantsStandIn 5 = false by kernel_rfl)⟩)
    (by kernel_rfl)
#print axioms proved
end Go.Proofs.YtpndlcjilgcfkaaGreatDoor.fnLogTorn
