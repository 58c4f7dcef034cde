/-
  sort.Search over discard stats.
-/
import Derived.Test.YtjioghedokbgcaaDoorDis4
namespace Go.Proofs.YtjioghedokbgcaaDoor
open Go Go.RowKit
open Go.Proofs

set_option maxHeartbeats 2000000 in
set_option maxRecDepth 20000 in
theorem disGe_any {sb mb db len cap n : Nat} {rest : List UInt8} {w0 : World} (f : DisFix sb mb db len cap n rest w0) (W : World) (d : Array (Nat × Nat)) (lb fb fid i : Nat) (h : DisR db n rest w0 W d) (hi : i < n)
    (cl : W.cell? ⟨lb, 0, none⟩ = some (.pointer (some ⟨sb, 0, none⟩))) (cf : W.cell? ⟨fb, 0, none⟩ = some (.int .u64 (fid : Int))) :
    Calls Tryd.prog 21 #[.int .i64 (i : Int), .pointer (some ⟨lb, 0, none⟩), .pointer (some ⟨fb, 0, none⟩)] W fun e w' => e = .returned (.bool (decide (fid ≤ d[i]!.1))) ∧ DisR db n rest w0 w' d ∧ Below W.heap.size W w' := by
  have hg := disGet_any sb mb db len cap n (16 * i) _ W.drew ((h.below f.d (Below.drew (Below.refl _ _))).mem f) h.blk.drew (h.llen f) f.ce (by have := f.le; omega) f.max
  rw [h.fid hi] at hg
  have hn := f.n8
  have hfb : fb < W.heap.size := block_lt_of_cell cf
  have hkeep : ∀ w1, Below W.drew.heap.size W.drew w1 → w1.cell? ⟨fb, 0, none⟩ = some (.int .u64 (fid : Int)) := fun w1 hb => (hb.cell (p := ⟨fb, 0, none⟩) hfb).trans cf
  have wi : IntKind.i64.wrap ((i : Int) * 16) = ((16 * i : Nat) : Int) := (IntWalk.i64_in _ (by omega)).trans (by omega)
  obtain ⟨x, hx⟩ : ∃ x, d[i]!.1 = x := ⟨_, rfl⟩
  obtain ⟨p, hp⟩ : ∃ p, 16 * i = p := ⟨_, rfl⟩
  rw [hx, hp] at hg
  rw [hp] at wi
  rw [hx]
  have hlt : decide ((fid : Int) ≤ (x : Int)) = decide (fid ≤ x) := decide_eq_decide.2 (by omega)
  have hDr : Below W.heap.size W W.drew := Below.drew (Below.refl _ _)
  have hkeep' := hkeep
  clear hkeep
  have hg' := Lib.hid hg
  have h' := Lib.hid h
  have hx' := Lib.hid hx
  have hp' := Lib.hid hp
  have hDr' := Lib.hid hDr
  clear hDr hp hx h hg
  go_enter Tryd.func21, Tryd.ntmps21
  go_wp2_with fail
  go_region_with (go_at_call 16; with_reducible refine hg'.out.mono ?_; rintro e w1 ⟨rfl, hb1⟩; have cf1 := hkeep' _ hb1)
  all_goals
    go_wp2_with fail
    go_ret
    exact ⟨by first | rfl | simp, (h'.out.below f.d hDr'.out).below f.d hb1, below_step hDr'.out (Nat.le_refl _) hb1⟩

set_option maxHeartbeats 2000000 in
set_option maxRecDepth 20000 in
theorem search_any {sb mb db len cap n : Nat} {rest : List UInt8} {w0 : World} (f : DisFix sb mb db len cap n rest w0) (W : World) (d : Array (Nat × Nat)) (lb fb fid : Nat) (h : DisR db n rest w0 W d)
    (cl : W.cell? ⟨lb, 0, none⟩ = some (.pointer (some ⟨sb, 0, none⟩))) (cf : W.cell? ⟨fb, 0, none⟩ = some (.int .u64 (fid : Int))) :
    Calls Tryd.prog 20 #[.int .i64 (n : Int), .func (.func 21) #[] #[.pointer (some ⟨lb, 0, none⟩), .pointer (some ⟨fb, 0, none⟩)]] W fun e w' =>
      ∃ k : Nat, e = .returned (.int .i64 (k : Int)) ∧ k ≤ n ∧ (k < n → fid ≤ d[k]!.1) ∧ (∀ i, i + 1 = k → d[i]!.1 < fid) ∧ DisR db n rest w0 w' d ∧ Below W.heap.size W w' := by
  have hn := f.n8
  have hlb : lb < W.heap.size := block_lt_of_cell cl
  have hfb : fb < W.heap.size := block_lt_of_cell cf
  have hge := fun (W' : World) (i : Nat) (hb : Below W.heap.size W W') (h' : DisR db n rest w0 W' d) (hi : i < n) => disGe_any f W' d lb fb fid i h' hi ((hb.cell (p := ⟨lb, 0, none⟩) hlb).trans cl) ((hb.cell (p := ⟨fb, 0, none⟩) hfb).trans cf)
  have h' := Lib.hid h
  have cl' := Lib.hid cl
  have cf' := Lib.hid cf
  have hge' := Lib.hid hge
  clear hge cf cl h
  go_enter Tryd.func20, Tryd.ntmps20
  go_wp2_with fail
  go_loopw [5, 6] (fun vi vj wx => ∃ (i j : Nat), vi = .int .i64 (i : Int) ∧ vj = .int .i64 (j : Int) ∧ i ≤ j ∧ j ≤ n ∧ (j < n → fid ≤ d[j]!.1) ∧ (∀ t, t + 1 = i → d[t]!.1 < fid) ∧ DisR db n rest w0 wx d ∧ Below W.heap.size W wx) (fun vi vj _ => (intOf vj).toNat - (intOf vi).toNat)
  case atStart => exact ⟨0, n, rfl, rfl, Nat.zero_le _, Nat.le_refl _, fun h => absurd h (Nat.lt_irrefl _), fun t ht => by omega, h'.out, Below.refl _ _⟩
  case round =>
    obtain ⟨i, j, rfl, rfl, hij, hjn, hj, hi, hR, hb⟩ := hrel
    by_cases hlt : i < j
    · have hltI : (i : Int) < (j : Int) := by omega
      obtain ⟨m, hm⟩ : ∃ m, (i + j) / 2 = m := ⟨_, rfl⟩
      have hmn : m < n := by omega
      have hmi : i ≤ m := by omega
      have hmj : m < j := by omega
      have hcall := hge'.out wr m hb hR hmn
      obtain ⟨tv, htv⟩ : ∃ tv, decide (fid ≤ d[m]!.1) = tv := ⟨_, rfl⟩
      rw [htv] at hcall
      obtain ⟨s, hs⟩ : ∃ s, i + j = s := ⟨_, rfl⟩
      have e2 : (s : Int) / 2 = (m : Int) := by omega
      have ws : IntKind.i64.wrap ((i : Int) + (j : Int)) = (s : Int) := (IntWalk.i64_in _ (by omega)).trans (by omega)
      have wu : IntKind.u64.wrap (s : Int) = (s : Int) := IntWalk.u64_in _ (by omega)
      have wm : IntKind.i64.wrap (m : Int) = (m : Int) := IntWalk.i64_in _ (by omega)
      have w1 : IntKind.i64.wrap ((m : Int) + 1) = ((m + 1 : Nat) : Int) := (IntWalk.i64_in _ (by omega)).trans (by omega)
      have hcall' := Lib.hid hcall
      have hj' := Lib.hid hj
      have hi' := Lib.hid hi
      have hR' := Lib.hid hR
      have hb' := Lib.hid hb
      have htv' := Lib.hid htv
      have hs' := Lib.hid hs
      clear hs htv hb hR hi hj hcall
      cases tv with
      | true =>
        go_wp2_with fail
        with_reducible refine hcall'.out.mono ?_
        rintro e w2 ⟨rfl, hR2, hb2⟩
        have hR2' := Lib.hid hR2
        have hb2' := Lib.hid hb2
        clear hb2 hR2
        go_wp2_with fail
        go_roundw
        case rel => exact ⟨i, m, rfl, rfl, hmi, by omega, fun _ => of_decide_eq_true htv'.out, hi'.out, hR2'.out, below_step hb'.out hb'.out.size hb2'.out⟩
        case measure => simp [intOf]; omega
      | false =>
        go_wp2_with fail
        with_reducible refine hcall'.out.mono ?_
        rintro e w2 ⟨rfl, hR2, hb2⟩
        have hR2' := Lib.hid hR2
        have hb2' := Lib.hid hb2
        clear hb2 hR2
        go_wp2_with fail
        go_roundw
        case rel => exact ⟨m + 1, j, by go_num, rfl, by omega, hjn, hj'.out, fun t ht => by
          obtain rfl : t = m := by omega
          have := of_decide_eq_false htv'.out
          omega, hR2'.out, below_step hb'.out hb'.out.size hb2'.out⟩
        case measure => simp [intOf]; omega
    · obtain rfl : i = j := by omega
      have hj' := Lib.hid hj
      have hi' := Lib.hid hi
      have hR' := Lib.hid hR
      have hb' := Lib.hid hb
      clear hb hR hi hj
      go_wp2_with fail
      go_ret
      exact ⟨i, rfl, hjn, hj'.out, hi'.out, hR'.out, hb'.out⟩
end Go.Proofs.YtjioghedokbgcaaDoor
