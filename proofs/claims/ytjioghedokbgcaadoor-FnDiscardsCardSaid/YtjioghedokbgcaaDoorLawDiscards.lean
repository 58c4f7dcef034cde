/-
  The statement 'FnDiscardsCardSaid' is proved: for every input the law returns true and its arguments read as before; the listed variables are tied to the program's text by the given tie.
-/
import Derived.Test.YtjioghedokbgcaaDoorRows
import Derived.Test.YtjioghedokbgcaaDoorTie
import Derived.Test.YtjioghedokbgcaaDoorCards
import Derived.Test.YtjioghedokbgcaaDoorDisWw
import Derived.LaidLaws
import Derived.LaidSub
import Derived.MakeChecks
import Derived.Deep.Slices
import Derived.ChangeSame
import Derived.WalkKit
import Derived.ProofKit
import Derived.OpenShut
import Derived.ShutString
import Derived.LaidMore
import Derived.Stop.Joined
import Derived.SevenTiedAt
import Derived.Below
import Derived.Carry
namespace Go.Proofs.YtjioghedokbgcaaDoor
open Go Go.RowKit Go.ChangeShapes Go.WideShapes Go.Deep
open Go.Proofs

theorem errStar : "*" ++ "errors.errorString" = "*errors.errorString" := by decide
theorem errRow : ∀ u, Tryd.prog.typeName? 3 u = some "*errors.errorString" → u = 101 := fun u h =>
  typeName_ptr_named (nm := "errors.errorString") (by rw [errStar]; kernel_rfl) (by kernel_rfl) (by decide) u (by rw [errStar]; exact h)
theorem errCells : Tryd.prog.cellsOf 103 = 1 := by kernel_rfl
theorem strCells : Tryd.prog.cellsOf 9 = 1 := by kernel_rfl

set_option maxRecDepth 20000 in
theorem sent_one {W : World} {n : String} {g : Nat} {text : List UInt8} (hg : Tryd.prog.globalNamed n = some g) (ht : (Tryd.prog.globals[g]?).map (·.type) = some 40)
    (h : laidMet Tryd.prog [(n, .iface "*errors.errorString" (.ptr (.agg [.lit (.string text)])))] W) : ∃ a, W.cell? ⟨g, 0, none⟩ = some (.iface 101 (.pointer (some a))) := by
  obtain ⟨ps, ⟨g0, t0, cs0, f0, p0, q0, hg0, ht0, hv0, hd0, hq, e0⟩, hnd, hrows⟩ := h
  obtain rfl := Option.some.inj (hg.symm.trans hg0)
  obtain rfl := Option.some.inj (ht.symm.trans ht0)
  have hq' : q0 = [] := hq
  subst hq'
  subst e0
  obtain ⟨l0⟩ := cs0
  have ok0 : ∀ u v, l0 = [.iface u v] → Value.okWide Tryd.prog W .any 0 u v := fun u v e => by
    subst e
    exact (hrows g 0 (by simp [MemPlace.row])).2 u v (by simpa using World.var?_cell hg0 hv0 0)
  obtain ⟨a0, s0, rfl, hc0, hs0, hz0, rfl⟩ := errorString_of_trod Tryd.underlying40 errRow Tryd.underlying101 Tryd.underlying103 rfl rfl Tryd.underlying9 errCells strCells hd0 ok0
  exact ⟨a0, by simpa using World.var?_cell hg0 hv0 0⟩

theorem laid_one {W : World} {l : List (String × DataW Unit)} (h : laidMetH Tryd.prog l W) (hp : (l.all fun x => x.2.handleName?.isNone) = true) (n : String) (d : DataW Unit) (hl : l.filter (fun x => x.1 == n) = [(n, d)]) : laidMet Tryd.prog [(n, d)] W := by
  rw [MakeChecks.laidMetH_plain _ _ _ hp] at h
  have := h.filter (fun x => x.1 == n)
  rwa [hl] at this

theorem acells_add : Tryd.prog.cellsOf 27 = 2 := by kernel_rfl
theorem acells_u32 : Tryd.prog.cellsOf 25 = 1 := by kernel_rfl
theorem acells_i64 : Tryd.prog.cellsOf 2 = 1 := by kernel_rfl

/-- The cells of a step. -/
def addC (x : Nat × Int) : List Value := [.int .u32 (x.1 : Int), .int .i64 x.2]

section
variable {H : Type} {enc : TypeId × Value → H} {W : World} {base : Nat} {spare : Nat → Bool} {held : Bool}

set_option maxRecDepth 100000 in
/-- Two cells that read as a step. -/
theorem add_of_cells {n : Nat} {cs : List Value} {x : DataW H × List MemPlace} (hl : cs.length = 2) (h : DataW.trod enc Tryd.prog W base spare held n 27 cs = some x) :
    ∃ E : Nat × Int, cs = addC E ∧ E.1 < 4294967296 ∧ -9223372036854775808 ≤ E.2 := by
  obtain ⟨xs, n, _, hx, _, hlen, hfl⟩ := DataW.trod_struct Tryd.underlying27 h
  match cs, hl, xs, hlen with
  | [c0, c1], _, [y0, y1], _ =>
    obtain ⟨o, e0, rfl, w0⟩ := DataW.trod_int Tryd.underlying25 (show DataW.trod enc Tryd.prog W base spare held n 25 _ = some y0 from hfl 0 _ rfl)
    obtain ⟨q, e1, rfl, w1⟩ := DataW.trod_int Tryd.underlying2 (show DataW.trod enc Tryd.prog W base spare held n 2 _ = some y1 from hfl 1 _ rfl)
    simp [acells_u32, acells_i64] at e0 e1
    subst e0 e1
    have b0 := bounds_u32 w0
    have b1 := bounds_i64 w1
    exact ⟨(o.toNat, q), by simp only [addC]; rw [show ((o.toNat : Nat) : Int) = o by omega], by show o.toNat < 4294967296; omega, b1.1⟩
end

theorem adds_list {len : Nat} {p : Nat → (Nat × Int) → Prop} (h : ∀ i, i < len → ∃ E, p i E) : ∃ l : List (Nat × Int), l.length = len ∧ ∀ i (hi : i < l.length), p i l[i] := by
  induction len with
  | zero => exact ⟨[], rfl, fun i hi => by simp at hi⟩
  | succ n ih =>
    obtain ⟨l, hl, hp⟩ := ih fun i hi => h i (by omega)
    obtain ⟨E, hE⟩ := h n (by omega)
    refine ⟨l ++ [E], by simp [hl], fun i hi => ?_⟩
    by_cases hin : i < l.length
    · rw [List.getElem_append_left hin]
      exact hp i hin
    · have hi2 : i = n := by simp at hi; omega
      subst hi2
      subst hl
      simpa using hE

set_option maxRecDepth 100000 in
/-- Steps as they are handed in. -/
theorem open_adds {H : Type} {enc : TypeId × Value → H} {W : World} {r : Reach} {b0 : Nat} {v : Value} {d : DataW H} {p : List MemPlace} (hv : Value.okWide Tryd.prog W r b0 22 v)
    (h : DataW.Trod enc Tryd.prog W 0 (fun _ => true) true 22 v d p) : ∃ l, AddsR W v l ∧ (∀ x, x ∈ l → x.1 < 4294967296) ∧ ∀ x, x ∈ l → -9223372036854775808 ≤ x.2 := by
  obtain ⟨a0, len0, cap0, rfl⟩ := okWide_slice Tryd.underlying22 hv
  obtain ⟨fuel, hf⟩ := h
  rcases open_slice Tryd.underlying22 hf with ⟨h0, _⟩ | ⟨a, len, cap, m, n, D, Pl, hcs, _, hl, hm, hmm, _, hi⟩
  · simp only [Value.cells, List.cons.injEq, Value.slice.injEq, and_true] at h0
    obtain ⟨rfl, rfl, rfl⟩ := h0
    exact ⟨[], ⟨⟨none, 0, rfl⟩, fun j hj => by simp at hj⟩, (fun e he => by cases he), (fun e he => by cases he)⟩
  · simp only [Value.cells, List.cons.injEq, Value.slice.injEq, and_true] at hcs
    obtain ⟨rfl, rfl, rfl⟩ := hcs
    rw [if_pos rfl] at hmm
    subst hmm
    obtain ⟨b, o, sp⟩ := a
    rw [acells_add] at hi
    by_cases hz : len0 = 0
    · subst hz
      exact ⟨[], ⟨⟨_, _, rfl⟩, fun j hj => by simp at hj⟩, (fun e he => by cases he), (fun e he => by cases he)⟩
    have hsp : sp = none := by
      obtain ⟨cs', hc, ht'⟩ := hi 0 (by omega)
      obtain ⟨_, hcl, hat⟩ := World.cells?_some hc
      obtain ⟨E, rfl, _⟩ := add_of_cells hcl ht'
      have h0 := hat 0 (by omega)
      simpa [Addr.add] using World.cell?_spot (h0.trans (show (addC E)[0]? = some _ from rfl))
    subst hsp
    obtain ⟨l, hll, hp⟩ := adds_list (len := len0) (p := fun i E => b < W.heap.size ∧ (∀ k u, (addC E)[k]? = some u → W.cell? ⟨b, o + i * 2 + k, none⟩ = some u) ∧ E.1 < 4294967296 ∧ -9223372036854775808 ≤ E.2) (fun i hil => by
      obtain ⟨cs', hc, ht'⟩ := hi i (by omega)
      obtain ⟨_, hcl, hat⟩ := World.cells?_some hc
      obtain ⟨E, rfl, w1, w2⟩ := add_of_cells hcl ht'
      have hall : ∀ k u, (addC E)[k]? = some u → W.cell? ⟨b, o + i * 2 + k, none⟩ = some u := fun k u hk => by
        have hk7 : k < 2 := by
          have := (List.getElem?_eq_some_iff.1 hk).1
          simpa [addC] using this
        have h1 := hat k hk7
        rw [Addr.add_lit, Addr.add_lit] at h1
        rw [h1, ← hk]
      exact ⟨E, block_lt_of_cell (hall 0 _ rfl), hall, w1, w2⟩)
    refine ⟨l, ⟨⟨_, _, by rw [hll]⟩, fun j hj => ?_⟩, fun e he => ?_, fun e he => ?_⟩
    · obtain ⟨hb, h1, _⟩ := hp j hj
      exact ⟨b, o, _, by rw [hll], hb, h1 0 _ rfl, h1 1 _ rfl⟩
    · obtain ⟨j, hj, rfl⟩ := List.getElem_of_mem he
      exact (hp j hj).2.2.1
    · obtain ⟨j, hj, rfl⟩ := List.getElem_of_mem he
      exact (hp j hj).2.2.2
end Go.Proofs.YtjioghedokbgcaaDoor
namespace Go.Proofs.YtjioghedokbgcaaDoor.fnDiscards
open Go Go.ChangeShapes Go.WideShapes Go.ChangeAt Go.RowKit
open Go.ChangeMaps (open_string shut_string)
open Go.Proofs.YtjioghedokbgcaaDoor
set_option linter.unusedVariables false

theorem own : ownKnob Tryd.prog.godebug = none := by kernel_rfl
theorem laidOut : laidOutB Tryd.prog = true := by kernel_rfl

set_option maxRecDepth 100000 in
/-- The listed variable, as the walk wants it. -/
theorem mem_of_laid {W : World} (h : laidMetH Tryd.prog Rows.fnDiscardsRow.laid W) : ∃ a, W.cell? ⟨0, 0, none⟩ = some (.iface 101 (.pointer (some a))) := by
  have hp : (Rows.fnDiscardsRow.laid.all fun x => x.2.handleName?.isNone) = true := by kernel_rfl
  exact sent_one (n := "pub-clitter/pub/badger/zz.NewFile") (g := 0) (by kernel_rfl) (by kernel_rfl) (laid_one h hp "pub-clitter/pub/badger/zz.NewFile" Rows.laid_pub_clitter_pub_badger_zz_NewFile (by kernel_rfl))

/-- The door's own heap meets the condition. -/
theorem door_met (os : Os) (args : Array Value) : laidMetH Tryd.prog Rows.fnDiscardsRow.laid ((World.doorLaid Tryd.prog 400 os).forCall (fun _ _ => 0) ⟨#[], args, []⟩).memory :=
  laidMetH_of_parts3 (fuel := 8) (laidMet_of_run' 8 (by kernel_rfl) (by kernel_rfl)) (by kernel_rfl) (by kernel_rfl)

set_option maxRecDepth 100000 in
theorem lifted (os : Os) (started : os.Started) (H : Type) (enc : TypeId × Value → H) :
    ReturnsInHanded {} Tryd.checked os 3 .any (fun w args => (Rows.fnDiscardsSpec.pre enc Tryd.prog Tryd.f3 [] false w args ∧ laidMetH Tryd.prog Rows.fnDiscardsRow.laid w) ∧ sizedMet enc Tryd.prog Tryd.f3 (OpenSpec.ofChange Rows.fnDiscardsSpec) false w args)
      (Rows.fnDiscardsSpec.post enc Tryd.prog Tryd.f3 false true false false) := by
  refine returnsInHanded_of_change_and (C := Tryd.checked) (X := fun w _ => laidMetH Tryd.prog Rows.fnDiscardsRow.laid w) (fun _ _ _ hh h => h.of_heap hh) own started (by kernel_rfl) Tryd.func3
    (ChangeSpec.witness_shaped (enc := enc) (C := Tryd.checked) (os := os) (X := fun w _ => laidMetH Tryd.prog Rows.fnDiscardsRow.laid w) false (World.doorLaid Tryd.prog 400 os) #[.int .i64 0, .slice none 0 0] 8 rfl (World.shaped_of_RefB (by kernel_rfl) (by kernel_rfl)) (by kernel_rfl) (by kernel_rfl) (by kernel_rfl) (door_met os _)) ?_
  intro W base args ds gs before hval0 hW _ _ hL _
  have hval : ∀ (j : Nat) t v, Tryd.f3.params[j]? = some t → args[j]? = some v → Value.okWide Tryd.prog W .any base t v := hval0
  have hW' := hW
  obtain ⟨p, q, hA0, hV, rfl, hfz, hnd⟩ := hW
  have hA : DataW.TrodAll enc Tryd.prog W 0 (fun _ => true) true Tryd.f3.params.toList args.toList ds p := hA0
  rw [Tryd.params3] at hA hval
  obtain ⟨v0, v1, d0, d1, p0, p1, rfl, rfl, rfl, h0, h1⟩ := trodAll_two hA
  obtain ⟨rfl, rfl⟩ := trodVars_none hV
  obtain ⟨z, rfl, rfl, rfl, w1⟩ := open_int Tryd.underlying3 (hval 0 3 v0 rfl rfl) h0
  have h1k := h1
  obtain ⟨l, hl, hlf, hlN⟩ := open_adds (hval 1 22 v1 rfl rfl) h1
  obtain ⟨a, ha⟩ := mem_of_laid hL
  clear hA0 hval0
  simp only [List.append_nil] at hW'
  have hlt : ∀ x ∈ p1, x.block < W.heap.size := fun x hx => by simpa using hW'.lt x (by simpa using hx)
  refine (fnDiscards_walk z l hlf hlN v1 a W hl ha).mono fun e W' ⟨he, hc⟩ => ?_
  subst he
  have hg := hc.below_nil
  exact ⟨_, rfl, _, _, _, [], _, [], hW', trodAll_mk1 (shut_bool Tryd.underlying4 _), trodAll_mk2 (shut_int Tryd.underlying3 w1) (Below.trod laidOut (by kernel_rfl) (of_decide_eq_true (by kernel_rfl)) h1k hg hlt), rfl, hg.frame _, fun h => by cases h⟩

theorem over : Rows.FnDiscardsSaid :=
  OpenClaim.holds_of_wide 3 Tryd.f3 rfl rfl rfl rfl rfl rfl rfl ⟨rfl, rfl, rfl, rfl, rfl⟩ rfl rfl rfl rfl rfl (by kernel_rfl) Tryd.func3 (by kernel_rfl)
    (of_decide_eq_true (by kernel_rfl)) (by unfold Func.isWrapper; first | (rw [if_pos (by decide +kernel)]; kernel_rfl) | (rw [if_neg (by decide +kernel)]; exact ⟨rfl, rfl⟩))
    (fun os started H enc _ => lifted os started H enc)

/-- ████ THE STATEMENT ████ -/
theorem proved : Rows.FnDiscardsCardSaid :=
  Claim7.holds_tied_plain_at .later [] [.sentinel, .sentinel, .sentinel] true (true, "1fc51fadd6f0b7f1d32fc7e48643ee837fa508ad985dbb66a309b9ce549dffae") true
    over (fun _ h => by cases h) (by kernel_rfl) (fun _ h => by cases h) fnDiscards_row_tie rfl ⟨rfl, rfl⟩ (by kernel_rfl) rfl
    (fun f fn hf hfn => by
      obtain rfl : f = 3 := Option.some.inj ((show Tryd.prog.funcNamed "pub-clitter/laws.FnDiscards" = some 3 by kernel_rfl).symm.trans hf) |>.symm
      obtain rfl : fn = Tryd.f3 := (Option.some.inj (Tryd.func3.symm.trans hfn)).symm
      exact ⟨by kernel_rfl, fun j t ht => by
        rw [Tryd.params3] at ht
        have h3 : t = 3 ∨ t = 22 := by
          rcases j with _ | _ | j
          · left; simpa using ht.symm
          · right; simpa using ht.symm
          · simp at ht
        rcases h3 with rfl | rfl
        · exact (show Tryd.prog.wantsStandIn 3 = false by kernel_rfl)
        · exact (show Tryd.prog.wantsStandIn 22 = false by kernel_rfl)⟩)
    (by kernel_rfl)
#print axioms proved
end Go.Proofs.YtjioghedokbgcaaDoor.fnDiscards
