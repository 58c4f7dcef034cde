/-
  The statement 'FnLogEntryCardSaid' is proved: for every entry the law returns true and the entry reads as before; the listed variable is tied to the program's text by the given tie.
-/
import Derived.Test.YtakpiopiboipnaaDoorRows
import Derived.Test.YtakpiopiboipnaaDoorTie
import Derived.Test.YtakpiopiboipnaaDoorCards
import Derived.Test.YtakpiopiboipnaaDoorLogL
import Derived.WalkKit
import Derived.ProofKit
import Derived.OpenShut
import Derived.ShutString
import Derived.LaidMore
import Derived.Stop.Joined
import Derived.SevenTiedAt
import Derived.Below
namespace Go.Proofs.YtakpiopiboipnaaDoor.fnLogEntry
open Go Go.ChangeShapes Go.WideShapes Go.ChangeAt Go.RowKit
open Go.Proofs.YtakpiopiboipnaaDoor
set_option linter.unusedVariables false

theorem own : ownKnob Tryd.prog.godebug = none := by kernel_rfl
theorem cells_ent : Tryd.prog.cellsOf 25 = 7 := by kernel_rfl
theorem cells_str : Tryd.prog.cellsOf 9 = 1 := by kernel_rfl
theorem cells_u8 : Tryd.prog.cellsOf 5 = 1 := by kernel_rfl
theorem cells_u64 : Tryd.prog.cellsOf 22 = 1 := by kernel_rfl
theorem cells_u32 : Tryd.prog.cellsOf 23 = 1 := by kernel_rfl

section
variable {H : Type} {enc : TypeId × Value → H} {W : World} {base : Nat} {spare : Nat → Bool} {held : Bool}

set_option maxRecDepth 100000 in
/-- An entry by value, opened. -/
theorem open_entry {r : Reach} {b0 : Nat} {v : Value} {d : DataW H} {p : List MemPlace} (hv : Value.okWide Tryd.prog W r b0 25 v) (h : DataW.Trod enc Tryd.prog W base spare held 25 v d p) :
    ∃ (k y : ByteArray) (m u x o n : Int), v = .agg #[.string k, .string y, .int .u8 m, .int .u8 u, .int .u64 x, .int .u32 o, .int .u32 n] ∧
      d = .agg [.lit (.string k.data.toList), .lit (.string y.data.toList), .lit (.int .u8 m), .lit (.int .u8 u), .lit (.int .u64 x), .lit (.int .u32 o), .lit (.int .u32 n)] ∧ p = [] ∧
      k.size ≤ maxLen ∧ y.size ≤ maxLen ∧ (Lit.int .u8 m).wf = true ∧ (Lit.int .u8 u).wf = true ∧ (Lit.int .u64 x).wf = true ∧ (Lit.int .u32 o).wf = true ∧ (Lit.int .u32 n).wf = true := by
  obtain ⟨cs, rfl, hsz⟩ := okWide_struct Tryd.underlying25 hv
  rw [cells_ent] at hsz
  obtain ⟨l⟩ := cs
  obtain ⟨fuel, hf⟩ := h
  obtain ⟨xs, n, _, hx, _, hlen, hfl⟩ := DataW.trod_struct Tryd.underlying25 hf
  match l, hsz, xs, hlen with
  | [c0, c1, c2, c3, c4, c5, c6], _, [y0, y1, y2, y3, y4, y5, y6], _ =>
    obtain ⟨k, e0, rfl, b0'⟩ := DataW.trod_string Tryd.underlying9 (show DataW.trod enc Tryd.prog W base spare held n 9 _ = some y0 from hfl 0 _ rfl)
    obtain ⟨y, e1, rfl, b1'⟩ := DataW.trod_string Tryd.underlying9 (show DataW.trod enc Tryd.prog W base spare held n 9 _ = some y1 from hfl 1 _ rfl)
    obtain ⟨m, e2, rfl, w2⟩ := DataW.trod_int Tryd.underlying5 (show DataW.trod enc Tryd.prog W base spare held n 5 _ = some y2 from hfl 2 _ rfl)
    obtain ⟨u, e3, rfl, w3⟩ := DataW.trod_int Tryd.underlying5 (show DataW.trod enc Tryd.prog W base spare held n 5 _ = some y3 from hfl 3 _ rfl)
    obtain ⟨x, e4, rfl, w4⟩ := DataW.trod_int Tryd.underlying22 (show DataW.trod enc Tryd.prog W base spare held n 22 _ = some y4 from hfl 4 _ rfl)
    obtain ⟨o, e5, rfl, w5⟩ := DataW.trod_int Tryd.underlying23 (show DataW.trod enc Tryd.prog W base spare held n 23 _ = some y5 from hfl 5 _ rfl)
    obtain ⟨q, e6, rfl, w6⟩ := DataW.trod_int Tryd.underlying23 (show DataW.trod enc Tryd.prog W base spare held n 23 _ = some y6 from hfl 6 _ rfl)
    simp [Value.cells, cells_str, cells_u8, cells_u64, cells_u32] at e0 e1 e2 e3 e4 e5 e6
    subst e0 e1 e2 e3 e4 e5 e6
    simp only [Prod.mk.injEq] at hx
    exact ⟨k, y, m, u, x, o, q, rfl, by simpa using hx.1, by simpa using hx.2, b0', b1', w2, w3, w4, w5, w6⟩

theorem shut_entry {k y : ByteArray} {m u x o n : Int} (h0 : k.size ≤ maxLen) (h1 : y.size ≤ maxLen) (w2 : (Lit.int .u8 m).wf = true) (w3 : (Lit.int .u8 u).wf = true) (w4 : (Lit.int .u64 x).wf = true) (w5 : (Lit.int .u32 o).wf = true) (w6 : (Lit.int .u32 n).wf = true) :
    DataW.Trod enc Tryd.prog W base spare held 25 (.agg #[.string k, .string y, .int .u8 m, .int .u8 u, .int .u64 x, .int .u32 o, .int .u32 n])
      (.agg [.lit (.string k.data.toList), .lit (.string y.data.toList), .lit (.int .u8 m), .lit (.int .u8 u), .lit (.int .u64 x), .lit (.int .u32 o), .lit (.int .u32 n)]) [] := by
  refine ⟨2, ?_⟩
  have hs : ∀ s : ByteArray, s.size ≤ maxLen → DataW.trod enc Tryd.prog W base spare held 1 9 [.string s] = some (.lit (.string s.data.toList), []) := fun s hs => by simp [DataW.trod, Tryd.underlying9, hs]
  have := trod_struct_mk (enc := enc) (P := Tryd.prog) (w := W) (base := base) (spare := spare) (held := held) (n := 1) (t := 25) (cs := [.string k, .string y, .int .u8 m, .int .u8 u, .int .u64 x, .int .u32 o, .int .u32 n])
    (xs := [(.lit (.string k.data.toList), []), (.lit (.string y.data.toList), []), (.lit (.int .u8 m), []), (.lit (.int .u8 u), []), (.lit (.int .u64 x), []), (.lit (.int .u32 o), []), (.lit (.int .u32 n), [])]) Tryd.underlying25 cells_ent.symm
    (by simp [cells_str, cells_u8, cells_u64, cells_u32, hs k h0, hs y h1, trod_int_mk 0 Tryd.underlying5 w2, trod_int_mk 0 Tryd.underlying5 w3, trod_int_mk 0 Tryd.underlying22 w4, trod_int_mk 0 Tryd.underlying23 w5, trod_int_mk 0 Tryd.underlying23 w6])
  simpa [Value.cells] using this
end

theorem walk (k y : ByteArray) (m u x o n : Int) (w2 : (Lit.int .u8 m).wf = true) (w3 : (Lit.int .u8 u).wf = true) (w4 : (Lit.int .u64 x).wf = true) (w5 : (Lit.int .u32 o).wf = true) (w6 : (Lit.int .u32 n).wf = true) (w : World) :
    Calls Tryd.prog 3 #[.agg #[.string k, .string y, .int .u8 m, .int .u8 u, .int .u64 x, .int .u32 o, .int .u32 n]] w fun e w' => e = .returned (.bool true) ∧ Below w.heap.size w w' := by
  have b2 := bounds_u8 w2
  obtain ⟨n2, rfl⟩ := Int.eq_ofNat_of_zero_le b2.1
  have b3 := bounds_u8 w3
  obtain ⟨n3, rfl⟩ := Int.eq_ofNat_of_zero_le b3.1
  have b4 := bounds_u64 w4
  obtain ⟨n4, rfl⟩ := Int.eq_ofNat_of_zero_le b4.1
  have b5 := bounds_u32 w5
  obtain ⟨n5, rfl⟩ := Int.eq_ofNat_of_zero_le b5.1
  have b6 := bounds_u32 w6
  obtain ⟨n6, rfl⟩ := Int.eq_ofNat_of_zero_le b6.1
  exact fnLogEntry_walk k y n2 n3 n4 n5 n6 (by omega) (by omega) (by omega) w

/-- The door's own heap meets the condition. -/
theorem door_met (os : Os) (args : Array Value) : laidMetH Tryd.prog Rows.fnLogEntryRow.laid ((World.doorLaid Tryd.prog 400 os).forCall (fun _ _ => 0) ⟨#[], args, []⟩).memory :=
  laidMetH_of_parts3 (fuel := 8) (laidMet_of_run' 8 (by kernel_rfl) (by kernel_rfl)) (by kernel_rfl) (by kernel_rfl)

set_option maxRecDepth 100000 in
theorem lifted (os : Os) (started : os.Started) (H : Type) (enc : TypeId × Value → H) :
    ReturnsInHanded {} Tryd.checked os 3 .any (fun w args => (Rows.fnLogEntrySpec.pre enc Tryd.prog Tryd.f3 [] false w args ∧ laidMetH Tryd.prog Rows.fnLogEntryRow.laid w) ∧ sizedMet enc Tryd.prog Tryd.f3 (OpenSpec.ofChange Rows.fnLogEntrySpec) false w args)
      (Rows.fnLogEntrySpec.post enc Tryd.prog Tryd.f3 false true false false) := by
  refine returnsInHanded_of_change_and (C := Tryd.checked) (X := fun w _ => laidMetH Tryd.prog Rows.fnLogEntryRow.laid w) (fun _ _ _ hh h => h.of_heap hh) own started (by kernel_rfl) Tryd.func3
    (ChangeSpec.witness_shaped (enc := enc) (C := Tryd.checked) (os := os) (X := fun w _ => laidMetH Tryd.prog Rows.fnLogEntryRow.laid w) false (World.doorLaid Tryd.prog 400 os) #[.agg #[.string ⟨#[]⟩, .string ⟨#[]⟩, .int .u8 0, .int .u8 0, .int .u64 0, .int .u32 0, .int .u32 0]] 8 rfl (World.shaped_of_RefB (by kernel_rfl) (by kernel_rfl)) (by kernel_rfl) (by kernel_rfl) (by kernel_rfl) (door_met os _)) ?_
  intro W base args ds gs before hval0 hW _ _ hL _
  have hval : ∀ (j : Nat) t v, Tryd.f3.params[j]? = some t → args[j]? = some v → Value.okWide Tryd.prog W .any base t v := hval0
  have hW' := hW
  obtain ⟨p, q, hA0, hV, rfl, hfz, hnd⟩ := hW
  have hA : DataW.TrodAll enc Tryd.prog W 0 (fun _ => true) true Tryd.f3.params.toList args.toList ds p := hA0
  rw [Tryd.params3] at hA hval
  obtain ⟨v0, d0, rfl, rfl, h0⟩ := trodAll_one hA
  obtain ⟨rfl, rfl⟩ := trodVars_none hV
  obtain ⟨k, y, m, u, x, o, n, rfl, rfl, rfl, s0, s1, w2, w3, w4, w5, w6⟩ := open_entry (hval 0 25 v0 rfl rfl) h0
  clear hA0 hval0
  simp only [List.append_nil] at hW'
  refine (walk k y m u x o n w2 w3 w4 w5 w6 W).mono fun e W' ⟨he, hg⟩ => ?_
  subst he
  exact ⟨_, rfl, _, _, _, [], _, [], hW', trodAll_mk1 (shut_bool Tryd.underlying4 _), trodAll_mk1 (shut_entry s0 s1 w2 w3 w4 w5 w6), rfl, hg.frame _, fun h => by cases h⟩

theorem over : Rows.FnLogEntrySaid :=
  OpenClaim.holds_of_wide 3 Tryd.f3 rfl rfl rfl rfl rfl rfl rfl ⟨rfl, rfl, rfl, rfl, rfl⟩ rfl rfl rfl rfl rfl (by kernel_rfl) Tryd.func3 (by kernel_rfl)
    (of_decide_eq_true (by kernel_rfl)) (by unfold Func.isWrapper; first | (rw [if_pos (by decide +kernel)]; kernel_rfl) | (rw [if_neg (by decide +kernel)]; exact ⟨rfl, rfl⟩))
    (fun os started H enc _ => lifted os started H enc)

/-- ████ THE STATEMENT ████ -/
theorem proved : Rows.FnLogEntryCardSaid :=
  Claim7.holds_tied_plain_at .later [] [.sentinel] true (true, "b86c3b48366f841b23e284b1ca0350b08acd74e6a8dba7d819dab9c2f48084b5") true
    over (fun _ h => by cases h) (by kernel_rfl) (fun _ h => by cases h) fnLogEntry_row_tie rfl ⟨rfl, rfl⟩ (by kernel_rfl) rfl
    (fun f fn hf hfn => by
      obtain rfl : f = 3 := Option.some.inj ((show Tryd.prog.funcNamed "pub-clitter/laws.FnLogEntry" = some 3 by kernel_rfl).symm.trans hf) |>.symm
      obtain rfl : fn = Tryd.f3 := (Option.some.inj (Tryd.func3.symm.trans hfn)).symm
      exact ⟨by kernel_rfl, fun j t ht => by
        rw [Tryd.params3] at ht
        have h3 : t = 25 := by
          rcases j with _ | j
          · simpa using ht.symm
          · simp at ht
        subst h3
        exact (show Tryd.prog.wantsStandIn 25 = false by kernel_rfl)⟩)
    (by kernel_rfl)
#print axioms proved
end Go.Proofs.YtakpiopiboipnaaDoor.fnLogEntry
