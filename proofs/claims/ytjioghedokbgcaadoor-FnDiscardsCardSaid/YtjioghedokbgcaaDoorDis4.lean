/-
  Contracts of discardStats: set, maxSlot, zeroOut; sort.Search over a sorted row.
-/
import Derived.Test.YtjioghedokbgcaaDoorDis2
namespace Go.Proofs.YtjioghedokbgcaaDoor
open Go Go.RowKit
open Go.Proofs

set_option maxHeartbeats 2000000 in
set_option maxRecDepth 20000 in
theorem disSet_any (sb mb db len cap n off v : Nat) (L : List UInt8) (W : World) (h : DisMem sb mb db len cap n W) (hB : Bk W db 5 (Lib.byteCells L).toArray) (hL : L.length = len) (hlc : len ≤ cap) (ho : off + 8 ≤ len) (hcap : cap ≤ 4294967296) (hv : v < 18446744073709551616) :
    Calls Tryd.prog 22 #[.pointer (some ⟨sb, 0, none⟩), .int .i64 (off : Int), .int .u64 (v : Int)] W fun e w' => e = .returned (.tuple #[]) ∧ Bk w' db 5 (Lib.byteCells (splice L off (Lib.beBytes 8 v))).toArray ∧ W.grownBy w' (some db) := by
  have c0 := h.fp
  have c2 := h.fd
  have hcall := putBE8_any db off 8 (cap - off) v 5 (Lib.byteCells L) hv W.drew hB.drew (Nat.le_refl _) (by simp [Lib.byteCells]; omega)
  rw [byteCells_splice] at hcall
  have w8 : IntKind.i64.wrap ((off : Int) + 8) = (off : Int) + 8 := IntWalk.i64_in _ (by omega)
  have h1 : (0 : Int) ≤ (off : Int) := by omega
  have h2 : (off : Int) ≤ (off : Int) + 8 := by omega
  have h3 : (off : Int) + 8 ≤ (cap : Int) := by omega
  have h4 : ¬ cap = off := by omega
  have h5 : ((off : Int) + 8).toNat = off + 8 := by omega
  clear h hB
  have hcall' := Lib.hid hcall
  clear hcall
  go_enter Tryd.func22, Tryd.ntmps22
  go_region_with (go_at_call 32; with_reducible refine hcall'.out.mono ?_; rintro e w1 ⟨rfl, hb1, hg1⟩)
  all_goals
    go_wp2_with fail
    go_end0
    exact ⟨rfl, hb1, ⟨hg1.os, hg1.tape, hg1.output, hg1.size, hg1.block⟩⟩

set_option maxHeartbeats 2000000 in
set_option maxRecDepth 20000 in
theorem disMaxSlot_any (sb mb db len cap n : Nat) (W : World) (h : DisMem sb mb db len cap n W) (hl : len ≤ 4294967296) :
    Calls Tryd.prog 15 #[.pointer (some ⟨sb, 0, none⟩)] W fun e w' => e = .returned (.int .i64 ((len / 16 : Nat) : Int)) ∧ w' = W := by
  have c0 := h.fp
  have c2 := h.fd
  have eq : (len : Int).tdiv 16 = ((len / 16 : Nat) : Int) := by rw [Int.tdiv_eq_ediv_of_nonneg (by omega)]; omega
  obtain ⟨q, hq⟩ : ∃ q, len / 16 = q := ⟨_, rfl⟩
  rw [hq] at eq ⊢
  have hql : q ≤ 4294967296 := by omega
  have v1 : wrap64 (q : Int) = (q : Int) := by unfold wrap64; omega
  have u1 : IntKind.i64.wrap (q : Int) = (q : Int) := IntWalk.i64_in _ (by omega)
  clear h hq
  go_enter Tryd.func15, Tryd.ntmps15
  go_wp2_with fail
  go_ret
  exact ⟨rfl, rfl⟩
end Go.Proofs.YtjioghedokbgcaaDoor
