/-
  OpenMmapFile of a new file; InitDiscardStats.
-/
import Derived.Test.YtjioghedokbgcaaDoorDisO
namespace Go.Proofs.YtjioghedokbgcaaDoor
open Go Go.RowKit
open Go.Proofs

set_option maxHeartbeats 2000000 in
set_option maxRecDepth 20000 in
theorem openMmap_new (d S : Nat) (nm : ByteArray) (a : Addr) (w : World) (h : Bk w d 46 #[.slice none 0 0, .int .i64 (-1), .int .i64 0, .int .u64 0])
    (hg : w.cell? ⟨0, 0, none⟩ = some (.iface 101 (.pointer (some a)))) (hS : 0 < S) (hS2 : S ≤ 4294967296) :
    Calls Tryd.prog 12 #[.pointer (some ⟨d, 0, none⟩), .string nm, .int .i64 17, .int .i64 (S : Int)] w fun e w' => ∃ mb fb nb db nodes,
      e = .returned (.tuple #[.pointer (some ⟨mb, 0, none⟩), .iface 101 (.pointer (some a))]) ∧
      FileMem fb d nb db S 1 nodes (.int .u64 0) (.string nm) (.slice none 0 0) (.int .u64 0) (.int .i64 0) (List.replicate S 0) w' ∧ Bk w' mb 77 #[.slice (some ⟨db, 0, none⟩) S S, .pointer (some ⟨fb, 0, none⟩)] ∧
      w.heap.size ≤ mb ∧ w.heap.size ≤ fb ∧ w.heap.size ≤ nb ∧ w.heap.size ≤ db ∧ Ch [d] w w' := by
  have hgd : 0 ≠ d := fun e => by
    have h0 := h.cell 0
    rw [← e] at h0
    have h1 := hg.symm.trans h0
    simp at h1
  have hgl := block_lt_of_cell hg
  have hl := h.lt
  have hcall := diskOpen_new d nm w h
  have hS0 : (0 : Int) < (S : Int) := by omega
  have h' := Lib.hid h
  have hcall' := Lib.hid hcall
  clear hcall h
  go_enter Tryd.func12, Tryd.ntmps12
  go_wp2_with fail
  refine hcall'.out.mono ?_
  rintro e w1 ⟨fb, nb, nodes, rfl, hd1, hf1, hn1, hfs, hns, hC1⟩
  have c1 := hf1.cell 1
  have n1 := hn1.cell 1
  simp at c1 n1
  have hcut := nodeCut_nil nb S _ _ _ w1 hn1 hS2
  have hd1' := Lib.hid hd1
  have hf1' := Lib.hid hf1
  have hn1' := Lib.hid hn1
  have hC1' := Lib.hid hC1
  have hcut' := Lib.hid hcut
  clear hcut hC1 hn1 hf1 hd1
  go_wp2_with fail
  refine hcut'.out.mono ?_
  rintro e w2 ⟨rfl, hB2, hn2, hC2⟩
  have hfn := hf1'.out.apart hn1'.out (by decide)
  have hdn := hd1'.out.apart hn1'.out (by decide)
  have hf2 := hf1'.out.ch hC2 (by simpa using hfn)
  have hd2 := hd1'.out.ch hC2 (by simpa using hdn)
  have c2 := hf2.cell 1
  have n2 := hn2.cell 1
  simp at c2 n2
  have hz := hC1'.out.size
  have hgn : 0 ≠ nb := by omega
  have g2 := (hC2.cell 0 (Nat.lt_of_lt_of_le hgl hz) (by simpa using hgn)).trans ((hC1'.out.cell 0 hgl (by simpa using hgd)).trans hg)
  clear c1 n1
  have hB2' := Lib.hid hB2
  have hn2' := Lib.hid hn2
  have hC2' := Lib.hid hC2
  have hf2' := Lib.hid hf2
  have hd2' := Lib.hid hd2
  clear hd2 hf2 hC2 hn2 hB2
  go_wp2_with fail
  go_ret2
  have hz2 := hC2'.out.size
  refine ⟨_, fb, nb, w1.heap.size, nodes, rfl, ⟨hd2'.out.alloc _, hf2'.out.alloc _, ?_, hB2'.out.alloc _⟩, Bk.at_ _ _ _ _ rfl, by omega, hfs, hns, hz, (hC1'.out.trans' hC2'.out fun k hk => ?_).alloc _⟩
  · rw [List.length_replicate]; exact hn2'.out.alloc _
  · simp at hk
    subst hk
    exact .inr hns
end Go.Proofs.YtjioghedokbgcaaDoor
