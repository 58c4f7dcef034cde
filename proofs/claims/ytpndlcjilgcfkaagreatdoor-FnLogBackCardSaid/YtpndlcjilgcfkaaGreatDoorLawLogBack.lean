/-
  The statement 'FnLogBackCardSaid' is proved: for every input the law returns true and its arguments read as before; the listed variables are tied to the program's text by the given tie.
-/
import Derived.Test.YtpndlcjilgcfkaaGreatDoorRows
import Derived.Test.YtpndlcjilgcfkaaGreatDoorTie
import Derived.Test.YtpndlcjilgcfkaaGreatDoorCards
import Derived.Test.YtpndlcjilgcfkaaGreatDoorLogB
import Derived.Deep.Slices
import Derived.ChangeSame
import Derived.Test.YtpndlcjilgcfkaaGreatDoorLaid
import Derived.WalkKit
import Derived.ProofKit
import Derived.OpenShut
import Derived.ShutString
import Derived.LaidMore
import Derived.Stop.Joined
import Derived.SevenTiedAt
import Derived.Below
import Derived.Carry
namespace Go.Proofs.YtpndlcjilgcfkaaGreatDoor
open Go Go.RowKit Go.ChangeShapes Go.WideShapes Go.Deep
open Go.Proofs

theorem ecells_ent : Tryz.prog.cellsOf 30 = 7 := by kernel_rfl
theorem ecells_str : Tryz.prog.cellsOf 9 = 1 := by kernel_rfl
theorem ecells_u8 : Tryz.prog.cellsOf 5 = 1 := by kernel_rfl
theorem ecells_u64 : Tryz.prog.cellsOf 28 = 1 := by kernel_rfl
theorem ecells_u32 : Tryz.prog.cellsOf 24 = 1 := by kernel_rfl

theorem nat_u8 {n : Int} (h : (Lit.int .u8 n).wf = true) : ∃ m : Nat, n = (m : Int) ∧ m < 256 := by
  have := bounds_u8 h
  exact ⟨n.toNat, by omega, by omega⟩
theorem nat_u64 {n : Int} (h : (Lit.int .u64 n).wf = true) : ∃ m : Nat, n = (m : Int) ∧ m < 18446744073709551616 := by
  have := bounds_u64 h
  exact ⟨n.toNat, by omega, by omega⟩
theorem nat_u32 {n : Int} (h : (Lit.int .u32 n).wf = true) : ∃ m : Nat, n = (m : Int) ∧ m < 4294967296 := by
  have := bounds_u32 h
  exact ⟨n.toNat, by omega, by omega⟩
theorem bytes_back (s : ByteArray) : (⟨s.data.toList.toArray⟩ : ByteArray) = s := by cases s; simp

section
variable {H : Type} {enc : TypeId × Value → H} {W : World} {base : Nat} {spare : Nat → Bool} {held : Bool}

set_option maxRecDepth 100000 in
/-- Seven cells that read as an entry. -/
theorem ent_of_cells {n : Nat} {cs : List Value} {x : DataW H × List MemPlace} (hl : cs.length = 7) (h : DataW.trod enc Tryz.prog W base spare held n 30 cs = some x) :
    ∃ E : LEnt, cs = (enC E).toList ∧ E.bits < 256 ∧ E.um < 256 ∧ E.exp < 18446744073709551616 := by
  obtain ⟨xs, n, _, hx, _, hlen, hfl⟩ := DataW.trod_struct Tryz.underlying30 h
  match cs, hl, xs, hlen with
  | [c0, c1, c2, c3, c4, c5, c6], _, [y0, y1, y2, y3, y4, y5, y6], _ =>
    obtain ⟨k, e0, rfl, b0'⟩ := DataW.trod_string Tryz.underlying9 (show DataW.trod enc Tryz.prog W base spare held n 9 _ = some y0 from hfl 0 _ rfl)
    obtain ⟨y, e1, rfl, b1'⟩ := DataW.trod_string Tryz.underlying9 (show DataW.trod enc Tryz.prog W base spare held n 9 _ = some y1 from hfl 1 _ rfl)
    obtain ⟨m, e2, rfl, w2⟩ := DataW.trod_int Tryz.underlying5 (show DataW.trod enc Tryz.prog W base spare held n 5 _ = some y2 from hfl 2 _ rfl)
    obtain ⟨u, e3, rfl, w3⟩ := DataW.trod_int Tryz.underlying5 (show DataW.trod enc Tryz.prog W base spare held n 5 _ = some y3 from hfl 3 _ rfl)
    obtain ⟨x, e4, rfl, w4⟩ := DataW.trod_int Tryz.underlying28 (show DataW.trod enc Tryz.prog W base spare held n 28 _ = some y4 from hfl 4 _ rfl)
    obtain ⟨o, e5, rfl, w5⟩ := DataW.trod_int Tryz.underlying24 (show DataW.trod enc Tryz.prog W base spare held n 24 _ = some y5 from hfl 5 _ rfl)
    obtain ⟨q, e6, rfl, w6⟩ := DataW.trod_int Tryz.underlying24 (show DataW.trod enc Tryz.prog W base spare held n 24 _ = some y6 from hfl 6 _ rfl)
    simp [ecells_str, ecells_u8, ecells_u64, ecells_u32] at e0 e1 e2 e3 e4 e5 e6
    subst e0 e1 e2 e3 e4 e5 e6
    obtain ⟨m, rfl, hm⟩ := nat_u8 w2
    obtain ⟨u, rfl, hu⟩ := nat_u8 w3
    obtain ⟨x, rfl, hx4⟩ := nat_u64 w4
    obtain ⟨o, rfl, _⟩ := nat_u32 w5
    obtain ⟨q, rfl, _⟩ := nat_u32 w6
    refine ⟨⟨k.data.toList, y.data.toList, m, u, x, o, q⟩, ?_, hm, hu, hx4⟩
    simp only [enC, entCells, bytes_back]
end

theorem ents_list {len : Nat} {p : Nat → LEnt → Prop} (h : ∀ i, i < len → ∃ E, p i E) : ∃ l : List LEnt, l.length = len ∧ ∀ i (hi : i < l.length), p i l[i] := by
  induction len with
  | zero => exact ⟨[], rfl, fun i hi => by simp at hi⟩
  | succ n ih =>
    obtain ⟨l, hl, hp⟩ := ih fun i hi => h i (by omega)
    obtain ⟨E, hE⟩ := h n (by omega)
    refine ⟨l ++ [E], by simp [hl], fun i hi => ?_⟩
    by_cases hin : i < l.length
    · rw [List.getElem_append_left hin]
      exact hp i hin
    · have hi2 : i = n := by simp at hi; omega
      subst hi2
      subst hl
      simpa using hE

set_option maxRecDepth 100000 in
/-- A slice of entries as it is handed in. -/
theorem open_ents {H : Type} {enc : TypeId × Value → H} {W : World} {r : Reach} {b0 : Nat} {v : Value} {d : DataW H} {p : List MemPlace} (hv : Value.okWide Tryz.prog W r b0 23 v)
    (h : DataW.Trod enc Tryz.prog W 0 (fun _ => true) true 23 v d p) : ∃ l, EntsR W v l ∧ l.length ≤ maxLen := by
  obtain ⟨a0, len0, cap0, rfl⟩ := okWide_slice Tryz.underlying23 hv
  obtain ⟨fuel, hf⟩ := h
  rcases open_slice Tryz.underlying23 hf with ⟨h0, _⟩ | ⟨a, len, cap, m, n, D, Pl, hcs, _, hl, hm, hmm, _, hi⟩
  · simp only [Value.cells, List.cons.injEq, Value.slice.injEq, and_true] at h0
    obtain ⟨rfl, rfl, rfl⟩ := h0
    exact ⟨[], ⟨⟨none, 0, rfl⟩, fun j hj => by simp at hj, fun e he => by cases he⟩, by simp⟩
  · simp only [Value.cells, List.cons.injEq, Value.slice.injEq, and_true] at hcs
    obtain ⟨rfl, rfl, rfl⟩ := hcs
    rw [if_pos rfl] at hmm
    subst hmm
    obtain ⟨b, o, sp⟩ := a
    rw [ecells_ent] at hi
    by_cases hz : len0 = 0
    · subst hz
      exact ⟨[], ⟨⟨_, _, rfl⟩, fun j hj => by simp at hj, fun e he => by cases he⟩, by simp⟩
    have hsp : sp = none := by
      obtain ⟨cs', hc, ht'⟩ := hi 0 (by omega)
      obtain ⟨_, hcl, hat⟩ := World.cells?_some hc
      obtain ⟨E, rfl, _⟩ := ent_of_cells hcl ht'
      have h0 := hat 0 (by omega)
      simpa [Addr.add] using World.cell?_spot (h0.trans (show (enC E).toList[0]? = some _ from rfl))
    subst hsp
    obtain ⟨l, hll, hp⟩ := ents_list (len := len0) (p := fun i E => b < W.heap.size ∧ (∀ k u, (enC E)[k]? = some u → W.cell? ⟨b, o + i * 7 + k, none⟩ = some u) ∧ E.bits < 256 ∧ E.um < 256 ∧ E.exp < 18446744073709551616) (fun i hil => by
      obtain ⟨cs', hc, ht'⟩ := hi i (by omega)
      obtain ⟨_, hcl, hat⟩ := World.cells?_some hc
      obtain ⟨E, rfl, w1, w2, w3⟩ := ent_of_cells hcl ht'
      have hall : ∀ k u, (enC E)[k]? = some u → W.cell? ⟨b, o + i * 7 + k, none⟩ = some u := fun k u hk => by
        have hk7 : k < 7 := by
          have := (Array.getElem?_eq_some_iff.1 hk).1
          simpa [enC, entCells] using this
        have h1 := hat k hk7
        rw [Addr.add_lit, Addr.add_lit] at h1
        rw [h1, ← hk]
        simp
      exact ⟨E, block_lt_of_cell (hall 0 _ rfl), hall, w1, w2, w3⟩)
    refine ⟨l, ⟨⟨_, _, by rw [hll]⟩, fun j hj => ?_, fun e he => ?_⟩, by rw [hll]; omega⟩
    · obtain ⟨hb, h1, _⟩ := hp j hj
      exact ⟨b, o, _, by rw [hll], hb, h1 0 _ rfl, h1 1 _ rfl, h1 2 _ rfl, h1 3 _ rfl, h1 4 _ rfl, h1 5 _ rfl, h1 6 _ rfl⟩
    · obtain ⟨j, hj, rfl⟩ := List.getElem_of_mem he
      exact (hp j hj).2.2
end Go.Proofs.YtpndlcjilgcfkaaGreatDoor

namespace Go.Proofs.YtpndlcjilgcfkaaGreatDoor.fnLogBack
open Go Go.ChangeShapes Go.WideShapes Go.ChangeAt Go.RowKit
open Go.ChangeMaps (open_string shut_string)
open Go.Proofs.YtpndlcjilgcfkaaGreatDoor
set_option linter.unusedVariables false

theorem own : ownKnob Tryz.prog.godebug = none := by kernel_rfl
theorem laidOut : laidOutB Tryz.prog = true := by kernel_rfl

set_option maxRecDepth 100000 in
/-- The listed variables, as the walk wants them. -/
theorem mem_of_laid {W : World} (h : laidMetH Tryz.prog Rows.fnLogBackRow.laid W) : LogMem W := by
  have hp : (Rows.fnLogBackRow.laid.all fun x => x.2.handleName?.isNone) = true := by kernel_rfl
  have s1 := sent_one (n := "io.EOF") (g := 1) (by kernel_rfl) (by kernel_rfl) (laid_one h hp "io.EOF" Rows.laid_io_EOF (by kernel_rfl))
  have s2 := sent_one (n := "io.ErrUnexpectedEOF") (g := 2) (by kernel_rfl) (by kernel_rfl) (laid_one h hp "io.ErrUnexpectedEOF" Rows.laid_io_ErrUnexpectedEOF (by kernel_rfl))
  have s3 := sent_one (n := "pub-clitter/pub/badger.errTruncate") (g := 3) (by kernel_rfl) (by kernel_rfl) (laid_one h hp "pub-clitter/pub/badger.errTruncate" Rows.laid_pub_clitter_pub_badger_errTruncate (by kernel_rfl))
  obtain ⟨a4, s4, _⟩ := sent_one (n := "pub-clitter/pub/badger/zz.NewFile") (g := 0) (by kernel_rfl) (by kernel_rfl) (laid_one h hp "pub-clitter/pub/badger/zz.NewFile" Rows.laid_pub_clitter_pub_badger_zz_NewFile (by kernel_rfl))
  obtain ⟨a5, s5, _⟩ := sent_one (n := "strconv.ErrSyntax") (g := 11) (by kernel_rfl) (by kernel_rfl) (laid_one h hp "strconv.ErrSyntax" Rows.laid_strconv_ErrSyntax (by kernel_rfl))
  obtain ⟨a6, s6, _⟩ := sent_one (n := "strconv.ErrRange") (g := 12) (by kernel_rfl) (by kernel_rfl) (laid_one h hp "strconv.ErrRange" Rows.laid_strconv_ErrRange (by kernel_rfl))
  have hN : glN ≤ W.heap.size := by
    have h12 : 12 < W.heap.size := block_lt_of_cell s6
    unfold glN
    omega
  exact ⟨⟨s1, s2, s3, hN⟩, ⟨_, _, s4⟩, ⟨_, _, s5⟩, ⟨_, _, s6⟩⟩

/-- The door's own heap meets the condition. -/
theorem door_met (os : Os) (args : Array Value) : laidMetH Tryz.prog Rows.fnLogBackRow.laid ((World.doorLaid Tryz.prog 400 os).forCall (fun _ _ => 0) ⟨#[], args, []⟩).memory :=
  laidMetH_of_parts3 (fuel := 8) (laidMet_of_run' 8 (by kernel_rfl) (by kernel_rfl)) (by kernel_rfl) (by kernel_rfl)

set_option maxRecDepth 100000 in
theorem lifted (os : Os) (started : os.Started) (H : Type) (enc : TypeId × Value → H) :
    ReturnsInHanded {} Tryz.checked os 4 .any (fun w args => (Rows.fnLogBackSpec.pre enc Tryz.prog Tryz.f4 [] false w args ∧ laidMetH Tryz.prog Rows.fnLogBackRow.laid w) ∧ sizedMet enc Tryz.prog Tryz.f4 (OpenSpec.ofChange Rows.fnLogBackSpec) false w args)
      (Rows.fnLogBackSpec.post enc Tryz.prog Tryz.f4 false true false false) := by
  refine returnsInHanded_of_change_and (C := Tryz.checked) (X := fun w _ => laidMetH Tryz.prog Rows.fnLogBackRow.laid w) (fun _ _ _ hh h => h.of_heap hh) own started (by kernel_rfl) Tryz.func4
    (ChangeSpec.witness_shaped (enc := enc) (C := Tryz.checked) (os := os) (X := fun w _ => laidMetH Tryz.prog Rows.fnLogBackRow.laid w) false (World.doorLaid Tryz.prog 400 os) #[.slice none 0 0, .int .i64 0] 8 rfl (World.shaped_of_RefB (by kernel_rfl) (by kernel_rfl)) (by kernel_rfl) (by kernel_rfl) (by kernel_rfl) (door_met os _)) ?_
  intro W base args ds gs before hval0 hW _ _ hL _
  have hval : ∀ (j : Nat) t v, Tryz.f4.params[j]? = some t → args[j]? = some v → Value.okWide Tryz.prog W .any base t v := hval0
  have hW' := hW
  obtain ⟨p, q, hA0, hV, rfl, hfz, hnd⟩ := hW
  have hA : DataW.TrodAll enc Tryz.prog W 0 (fun _ => true) true Tryz.f4.params.toList args.toList ds p := hA0
  rw [Tryz.params4] at hA hval
  obtain ⟨v0, v1, d0, d1, p0, p1, rfl, rfl, rfl, h0, h1⟩ := trodAll_two hA
  obtain ⟨rfl, rfl⟩ := trodVars_none hV
  obtain ⟨z, rfl, rfl, rfl, w1⟩ := open_int Tryz.underlying3 (hval 1 3 v1 rfl rfl) h1
  have h0k := h0
  obtain ⟨l, hl, hlm⟩ := open_ents (hval 0 23 v0 rfl rfl) h0
  clear hA0 hval0
  simp only [List.append_nil] at hW'
  have hlt : ∀ x ∈ p0, x.block < W.heap.size := fun x hx => by simpa using hW'.lt x hx
  refine (fnLogBack_walk l v0 z W hl (by unfold maxLen at hlm; omega) (mem_of_laid hL)).mono fun e W' ⟨he, hg⟩ => ?_
  subst he
  exact ⟨_, rfl, _, _, _, [], _, [], hW', trodAll_mk1 (shut_bool Tryz.underlying4 _), trodAll_mk2 (Below.trod laidOut (by kernel_rfl) (of_decide_eq_true (by kernel_rfl)) h0k hg hlt) (shut_int Tryz.underlying3 w1), rfl, hg.frame _, fun h => by cases h⟩

theorem over : Rows.FnLogBackSaid :=
  OpenClaim.holds_of_wide 4 Tryz.f4 rfl rfl rfl rfl rfl rfl rfl ⟨rfl, rfl, rfl, rfl, rfl⟩ rfl rfl rfl rfl rfl (by kernel_rfl) Tryz.func4 (by kernel_rfl)
    (of_decide_eq_true (by kernel_rfl)) (by unfold Func.isWrapper; first | (rw [if_pos (by decide +kernel)]; kernel_rfl) | (rw [if_neg (by decide +kernel)]; exact ⟨rfl, rfl⟩))
    (fun os started H enc _ => lifted os started H enc)

/-- ████ THE STATEMENT ████ -/
theorem proved : Rows.FnLogBackCardSaid :=
  Claim7.holds_tied_plain_at .later [] [.data, .data, .data, .sentinel, .sentinel, .sentinel, .sentinel, .sentinel, .sentinel, .sentinel, .sentinel, .sentinel, .sentinel, .sentinel, .sentinel] true (true, "2618b42fb713529dcc1d350da7f252f8d9351e8bd2083d2bb60764f2f0d06012") true
    over (fun _ h => by cases h) (by kernel_rfl) (fun _ h => by cases h) fnLogBack_row_tie rfl ⟨rfl, rfl⟩ (by kernel_rfl) rfl
    (fun f fn hf hfn => by
      obtain rfl : f = 4 := Option.some.inj ((show Tryz.prog.funcNamed "pub-clitter/laws.FnLogBack" = some 4 by kernel_rfl).symm.trans hf) |>.symm
      obtain rfl : fn = Tryz.f4 := (Option.some.inj (Tryz.func4.symm.trans hfn)).symm
      exact ⟨by kernel_rfl, fun j t ht => by
        rw [Tryz.params4] at ht
        have h3 : t = 23 ∨ t = 3 := by
          rcases j with _ | _ | j
          · left; simpa using ht.symm
          · right; simpa using ht.symm
          · simp at ht
        rcases h3 with rfl | rfl
        · exact (show Tryz.prog.wantsStandIn 23 = false by kernel_rfl)
        · exact (show Tryz.prog.wantsStandIn 3 = false by kernel_rfl)⟩)
    (by kernel_rfl)
#print axioms proved
end Go.Proofs.YtpndlcjilgcfkaaGreatDoor.fnLogBack
