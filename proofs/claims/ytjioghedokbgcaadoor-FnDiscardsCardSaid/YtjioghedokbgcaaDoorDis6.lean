/-
  The file beneath discard stats: Disk.step, Node.cut, File.Truncate, zeroOut.
-/
import Derived.Test.YtjioghedokbgcaaDoorDis5
namespace Go.Proofs.YtjioghedokbgcaaDoor
open Go Go.RowKit
open Go.Proofs

set_option maxHeartbeats 2000000 in
set_option maxRecDepth 20000 in
theorem diskStep_any (kb s : Nat) (nodes now : Value) (W : World) (hk : Bk W kb 46 #[nodes, .int .i64 (-1), .int .i64 (s : Int), now]) (hs : s < 4611686018427387904) :
    Calls Tryd.prog 36 #[.pointer (some ⟨kb, 0, none⟩)] W fun e w' => e = .returned (.tuple #[]) ∧ w' = W.setCell ⟨kb, 2, none⟩ (.int .i64 ((s + 1 : Nat) : Int)) := by
  have c1 := hk.cell 1
  have c2 := hk.cell 2
  have f2 := hk.free 2
  simp at c1 c2
  have ws : IntKind.i64.wrap ((s : Int) + 1) = ((s + 1 : Nat) : Int) := (IntWalk.i64_in _ (by omega)).trans (by omega)
  obtain ⟨t, ht⟩ : ∃ t, s + 1 = t := ⟨_, rfl⟩
  rw [ht] at ws ⊢
  clear hk ht
  go_enter Tryd.func36, Tryd.ntmps36
  go_wp2_with fail
  go_end0
  exact ⟨rfl, rfl⟩

/-- 'make([]byte, n)'. -/
theorem run_mkS (k1 k2 : IntKind) (N : Nat) (hN : N ≤ 281474976710656) (W : World) :
    (Instr.makeSlice 74 (.int k1 (N : Int)) (.int k2 (N : Int))).run Tryd.prog W = .ok (.slice (some ⟨W.heap.size, 0, none⟩) N N) (W.alloc (.cells (List.replicate N (Value.int .u8 0)).toArray 5)) := by
  obtain ⟨i0, hi, hz0, hz1, hz2⟩ := info_parts u8row
  have h := run_make_rowN (P := Tryd.prog) 74 5 i0 (.int .u8 0) Tryd.underlying74 hi hz0 k1 k2 N N (by omega) (by rw [hz2]; omega) (by omega) W
  rw [hz1, Nat.mul_one] at h
  rw [← made_bytes]
  exact h

set_option maxHeartbeats 2000000 in
set_option maxRecDepth 20000 in
theorem nodeCut_any (nb db cap S : Nat) (name synced md : Value) (L : List UInt8) (W : World) (hn : Bk W nb 81 #[name, .slice (some ⟨db, 0, none⟩) L.length cap, synced, md]) (hB : Bk W db 5 (Lib.byteCells L).toArray) (hS : L.length ≤ S) (hS2 : S ≤ 4294967296) :
    Calls Tryd.prog 27 #[.pointer (some ⟨nb, 0, none⟩), .int .i64 (S : Int)] W fun e w' => e = .returned (.tuple #[]) ∧
      Bk w' W.heap.size 5 (Lib.byteCells (L ++ List.replicate (S - L.length) 0)).toArray ∧ Bk w' nb 81 #[name, .slice (some ⟨W.heap.size, 0, none⟩) S S, synced, md] ∧ W.grownBy w' (some nb) := by
  have hmk := run_mkS .i64 .i64 S (by omega)
  have hnl := hn.lt
  have hdl := hB.lt
  have hs : Src W (some ⟨db, 0, none⟩) L.length L := ⟨rfl, fun _ => ⟨db, 0, rfl, bs_of_bk hB⟩⟩
  have hZl : (List.replicate S (Value.int .u8 0)).length = S := by simp
  have hspl : splice (List.replicate S (Value.int .u8 0)) 0 (Lib.byteCells (L.take S)) = Lib.byteCells (L ++ List.replicate (S - L.length) 0) := by
    rw [List.take_of_length_le hS]
    unfold splice Lib.byteCells
    simp
  obtain ⟨Z, hZ⟩ : ∃ Z, List.replicate S (Value.int .u8 0) = Z := ⟨_, rfl⟩
  rw [hZ] at hmk hZl hspl
  obtain ⟨W1, hW1⟩ : ∃ w, W.alloc (.cells Z.toArray 5) = w := ⟨_, rfl⟩
  have hmk1 := hmk W
  rw [hW1] at hmk1
  have hg0 : W.grownBy W1 none := by rw [← hW1]; exact World.grownBy_alloc W _ _
  have hb1 : Bk W1 W.heap.size 5 Z.toArray := by rw [← hW1]; exact Bk.at_ _ _ _ _ rfl
  obtain ⟨g, hg⟩ : ∃ g, W.heap.size = g := ⟨_, rfl⟩
  rw [hg] at hmk1 hb1
  rw [hg]
  have hn1 := hn.grown hg0 (by simp)
  have hs1 : Src W1 (some ⟨db, 0, none⟩) L.length L := ⟨rfl, fun _ => ⟨db, 0, rfl, (bs_of_bk hB).grown hg0 (by simp)⟩⟩
  have c1 := hn1.cell 1
  simp at c1
  obtain ⟨m, hm⟩ : ∃ m, L.length = m := ⟨_, rfl⟩
  rw [hm] at c1 hs1
  have hmin : min m S = m := by omega
  have hng : nb ≠ g := by omega
  clear hmk hs
  have hn' := Lib.hid hn
  have hB' := Lib.hid hB
  have hg0' := Lib.hid hg0
  have hb1' := Lib.hid hb1
  have hn1' := Lib.hid hn1
  have hs1' := Lib.hid hs1
  have hspl' := Lib.hid hspl
  have hW1' := Lib.hid hW1
  have hg' := Lib.hid hg
  have hm' := Lib.hid hm
  clear hm hg hW1 hspl hs1 hn1 hb1 hg0 hB hn
  go_enter Tryd.func27, Tryd.ntmps27
  go_wp2_with (refine wpList_copyB rfl (.tmp 7) (.tmp 11) 74 74 rfl 5 Tryd.underlying74 (by kernel_rfl) g 0 S S rfl (some ⟨db, 0, none⟩) m cap rfl L hs1'.out Z 5 hb1'.out (by rw [hZl]; omega) ?_; intro w2 hB2 hg2; rw [hspl'.out] at hB2; have hn2' := Lib.hid (hn1'.out.grown hg2 (by simp; exact hng)); have f2 := hn2'.out.free 1; have c2 := hn2'.out.cell 1; simp at c2; have hB2' := Lib.hid hB2; have hg2' := Lib.hid hg2; clear hB2 hg2)
  go_end0
  refine ⟨rfl, hB2'.out.far (p := ⟨nb, 1, none⟩) (Ne.symm hng) _, by simpa using hn2'.out.set 1 (.slice (some ⟨g, 0, none⟩) S S), ?_⟩
  refine grown_setCell ⟨hg2'.out.os.trans hg0'.out.os, hg2'.out.tape.trans hg0'.out.tape, hg2'.out.output.trans hg0'.out.output, Nat.le_trans hg0'.out.size hg2'.out.size, fun k hk _ => ?_⟩ (p := ⟨nb, 1, none⟩) (.inl rfl) _
  have := hg'.out
  exact (hg2'.out.block k (Nat.lt_of_lt_of_le hk hg0'.out.size) (by simp; omega)).trans (hg0'.out.block k hk (by simp))
end Go.Proofs.YtjioghedokbgcaaDoor
