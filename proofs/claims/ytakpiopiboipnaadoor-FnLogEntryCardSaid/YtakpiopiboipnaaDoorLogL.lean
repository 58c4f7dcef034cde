/-
  The walk of FnLogEntry.
-/
import Derived.Test.YtakpiopiboipnaaDoorLogE
import Derived.Deep.RegionHeld3
namespace Go.Proofs.YtakpiopiboipnaaDoor
open Go Go.RowKit
open Go.Proofs

set_option maxHeartbeats 8000000 in
set_option maxRecDepth 20000 in
/-- THE WALK of FnLogEntry: it returns true. -/
theorem fnLogEntry_walk (k v : ByteArray) (m u x o n : Nat) (hm : m < 256) (hu : u < 256) (hx : x < 18446744073709551616) (w : World) :
    Calls Tryd.prog 3 #[.agg (entCells k v m u x o n)] w fun e w' => e = .returned (.bool true) ∧ Below w.heap.size w w' := by
  have hF := fun W => Lib.hid (zzFits5_any k v m u x o n W)
  have hL := fun W => Lib.hid (lEntry_any k v m u x o n W)
  by_cases hfit : k.size ≤ 2147483647 ∧ v.size ≤ 2147483647
  · have hfd : decide (k.size ≤ 2147483647 ∧ v.size ≤ 2147483647) = true := decide_eq_true hfit
    rw [hfd] at hF
    by_cases hle : 0 < k.size ∧ k.size ≤ 200 ∧ v.size ≤ 500
    · have hld : decide (0 < k.size ∧ k.size ≤ 200 ∧ v.size ≤ 500) = true := decide_eq_true hle
      rw [hld] at hL
      have hA := fun W => Lib.hid (implLogEntry_any k v m u x o n (by omega) (by omega) hm hu hx W)
      have hE := fun W => Lib.hid (entryBytes_any k v m u x o n (by omega) (by omega) hm hu hx W)
      obtain ⟨r, hr⟩ : ∃ r, ByteArray.mk (entBytes k.data.toList v.data.toList m u x).toArray = r := ⟨_, rfl⟩
      rw [hr] at hA hE
      clear hr hfd hld hfit hle
      unfold entCells at *
      go_enter Tryd.func3, Tryd.ntmps3
      go_wp2_with fail
      refine (hF _).out.mono ?_
      rintro e w1 ⟨rfl, hb1⟩
      have q0 : w1.cell? ⟨w.heap.size, 0, none⟩ = some (.string k) := (hb1.cell (p := ⟨w.heap.size, 0, none⟩) (by simp)).trans (by go_simp)
      have q1 : w1.cell? ⟨w.heap.size, 1, none⟩ = some (.string v) := (hb1.cell (p := ⟨w.heap.size, 1, none⟩) (by simp)).trans (by go_simp)
      have q2 : w1.cell? ⟨w.heap.size, 2, none⟩ = some (.int .u8 (m : Int)) := (hb1.cell (p := ⟨w.heap.size, 2, none⟩) (by simp)).trans (by go_simp)
      have q3 : w1.cell? ⟨w.heap.size, 3, none⟩ = some (.int .u8 (u : Int)) := (hb1.cell (p := ⟨w.heap.size, 3, none⟩) (by simp)).trans (by go_simp)
      have q4 : w1.cell? ⟨w.heap.size, 4, none⟩ = some (.int .u64 (x : Int)) := (hb1.cell (p := ⟨w.heap.size, 4, none⟩) (by simp)).trans (by go_simp)
      have q5 : w1.cell? ⟨w.heap.size, 5, none⟩ = some (.int .u32 (o : Int)) := (hb1.cell (p := ⟨w.heap.size, 5, none⟩) (by simp)).trans (by go_simp)
      have q6 : w1.cell? ⟨w.heap.size, 6, none⟩ = some (.int .u32 (n : Int)) := (hb1.cell (p := ⟨w.heap.size, 6, none⟩) (by simp)).trans (by go_simp)
      have hbl : Below w.heap.size w w1 := below_call_ hb1 (below_alloc_ (Below.refl _ _) _)
      have hsz : w.heap.size < w1.heap.size := by have := hb1.size; simp at this; omega
      have hbl' := Lib.hid hbl
      clear hb1 hbl
      go_wp2_with fail
      go_region_with (first | (go_at_call 5; refine (hL _).out.mono ?_; rintro e w2 ⟨rfl, hb2⟩; have r0 : w2.cell? ⟨w.heap.size, 0, none⟩ = some (.string k) := (hb2.cell (p := ⟨w.heap.size, 0, none⟩) hsz).trans q0; have r1 : w2.cell? ⟨w.heap.size, 1, none⟩ = some (.string v) := (hb2.cell (p := ⟨w.heap.size, 1, none⟩) hsz).trans q1; have r2 : w2.cell? ⟨w.heap.size, 2, none⟩ = some (.int .u8 (m : Int)) := (hb2.cell (p := ⟨w.heap.size, 2, none⟩) hsz).trans q2; have r3 : w2.cell? ⟨w.heap.size, 3, none⟩ = some (.int .u8 (u : Int)) := (hb2.cell (p := ⟨w.heap.size, 3, none⟩) hsz).trans q3; have r4 : w2.cell? ⟨w.heap.size, 4, none⟩ = some (.int .u64 (x : Int)) := (hb2.cell (p := ⟨w.heap.size, 4, none⟩) hsz).trans q4; have r5 : w2.cell? ⟨w.heap.size, 5, none⟩ = some (.int .u32 (o : Int)) := (hb2.cell (p := ⟨w.heap.size, 5, none⟩) hsz).trans q5; have r6 : w2.cell? ⟨w.heap.size, 6, none⟩ = some (.int .u32 (n : Int)) := (hb2.cell (p := ⟨w.heap.size, 6, none⟩) hsz).trans q6; have hsz2 : w.heap.size < w2.heap.size := Nat.lt_of_lt_of_le hsz hb2.size) | (go_at_call 6; refine (hA _).out.mono ?_; rintro e w3 ⟨rfl, hb3⟩; have t0 : w3.cell? ⟨w.heap.size, 0, none⟩ = some (.string k) := (hb3.cell (p := ⟨w.heap.size, 0, none⟩) hsz2).trans r0; have t1 : w3.cell? ⟨w.heap.size, 1, none⟩ = some (.string v) := (hb3.cell (p := ⟨w.heap.size, 1, none⟩) hsz2).trans r1; have t2 : w3.cell? ⟨w.heap.size, 2, none⟩ = some (.int .u8 (m : Int)) := (hb3.cell (p := ⟨w.heap.size, 2, none⟩) hsz2).trans r2; have t3 : w3.cell? ⟨w.heap.size, 3, none⟩ = some (.int .u8 (u : Int)) := (hb3.cell (p := ⟨w.heap.size, 3, none⟩) hsz2).trans r3; have t4 : w3.cell? ⟨w.heap.size, 4, none⟩ = some (.int .u64 (x : Int)) := (hb3.cell (p := ⟨w.heap.size, 4, none⟩) hsz2).trans r4; have t5 : w3.cell? ⟨w.heap.size, 5, none⟩ = some (.int .u32 (o : Int)) := (hb3.cell (p := ⟨w.heap.size, 5, none⟩) hsz2).trans r5; have t6 : w3.cell? ⟨w.heap.size, 6, none⟩ = some (.int .u32 (n : Int)) := (hb3.cell (p := ⟨w.heap.size, 6, none⟩) hsz2).trans r6; have hsz3 : w.heap.size < w3.heap.size := Nat.lt_of_lt_of_le hsz2 hb3.size) | (go_at_call 7; refine (hE _).out.mono ?_; rintro e w4 ⟨rfl, hb4⟩))
      all_goals
        go_wp2_with fail
        go_ret
        refine ⟨by first | rfl | simp, ?_⟩
        repeat (first | exact hbl'.out | refine below_drew_ ?_ | refine below_call_ (by assumption) ?_)
    · have hld : decide (0 < k.size ∧ k.size ≤ 200 ∧ v.size ≤ 500) = false := decide_eq_false hle
      rw [hld] at hL
      clear hfd hld hfit hle
      unfold entCells at *
      go_enter Tryd.func3, Tryd.ntmps3
      go_wp2_with fail
      refine (hF _).out.mono ?_
      rintro e w1 ⟨rfl, hb1⟩
      have q0 : w1.cell? ⟨w.heap.size, 0, none⟩ = some (.string k) := (hb1.cell (p := ⟨w.heap.size, 0, none⟩) (by simp)).trans (by go_simp)
      have q1 : w1.cell? ⟨w.heap.size, 1, none⟩ = some (.string v) := (hb1.cell (p := ⟨w.heap.size, 1, none⟩) (by simp)).trans (by go_simp)
      have q2 : w1.cell? ⟨w.heap.size, 2, none⟩ = some (.int .u8 (m : Int)) := (hb1.cell (p := ⟨w.heap.size, 2, none⟩) (by simp)).trans (by go_simp)
      have q3 : w1.cell? ⟨w.heap.size, 3, none⟩ = some (.int .u8 (u : Int)) := (hb1.cell (p := ⟨w.heap.size, 3, none⟩) (by simp)).trans (by go_simp)
      have q4 : w1.cell? ⟨w.heap.size, 4, none⟩ = some (.int .u64 (x : Int)) := (hb1.cell (p := ⟨w.heap.size, 4, none⟩) (by simp)).trans (by go_simp)
      have q5 : w1.cell? ⟨w.heap.size, 5, none⟩ = some (.int .u32 (o : Int)) := (hb1.cell (p := ⟨w.heap.size, 5, none⟩) (by simp)).trans (by go_simp)
      have q6 : w1.cell? ⟨w.heap.size, 6, none⟩ = some (.int .u32 (n : Int)) := (hb1.cell (p := ⟨w.heap.size, 6, none⟩) (by simp)).trans (by go_simp)
      have hbl : Below w.heap.size w w1 := below_call_ hb1 (below_alloc_ (Below.refl _ _) _)
      have hbl' := Lib.hid hbl
      clear hb1 hbl
      go_wp2_with fail
      go_region_with (first | (go_at_call 5; refine (hL _).out.mono ?_; rintro e w2 ⟨rfl, hb2⟩))
      all_goals
        go_wp2_with fail
        go_ret
        refine ⟨by first | rfl | simp, ?_⟩
        repeat (first | exact hbl'.out | refine below_drew_ ?_ | refine below_call_ (by assumption) ?_)
  · have hfd : decide (k.size ≤ 2147483647 ∧ v.size ≤ 2147483647) = false := decide_eq_false hfit
    rw [hfd] at hF
    clear hfd hfit hL
    unfold entCells at *
    go_enter Tryd.func3, Tryd.ntmps3
    go_wp2_with fail
    refine (hF _).out.mono ?_
    rintro e w1 ⟨rfl, hb1⟩
    go_wp2_with fail
    go_ret
    exact ⟨rfl, below_call_ hb1 (below_alloc_ (Below.refl _ _) _)⟩
end Go.Proofs.YtakpiopiboipnaaDoor
