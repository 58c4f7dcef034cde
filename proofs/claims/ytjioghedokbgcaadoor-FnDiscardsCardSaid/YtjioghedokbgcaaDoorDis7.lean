/-
  The file beneath discard stats: File.Truncate, File.Sync.
-/
import Derived.Test.YtjioghedokbgcaaDoorDis6
namespace Go.Proofs.YtjioghedokbgcaaDoor
open Go Go.RowKit
open Go.Proofs

/-- A file as it stands: the disk never stops. -/
structure FileMem (fb kb nb db cap s : Nat) (nodes now name synced md at_ : Value) (L : List UInt8) (W : World) : Prop where
  disk : Bk W kb 46 #[nodes, .int .i64 (-1), .int .i64 (s : Int), now]
  file : Bk W fb 84 #[.pointer (some ⟨kb, 0, none⟩), .pointer (some ⟨nb, 0, none⟩), at_]
  node : Bk W nb 81 #[name, .slice (some ⟨db, 0, none⟩) L.length cap, synced, md]
  data : Bk W db 5 (Lib.byteCells L).toArray

set_option maxHeartbeats 2000000 in
set_option maxRecDepth 20000 in
theorem fileTruncate_any (fb kb nb db cap s S : Nat) (nodes now name synced md at_ : Value) (L : List UInt8) (W : World) (h : FileMem fb kb nb db cap s nodes now name synced md at_ L W) (hs : s < 4611686018427387904) (hS : L.length ≤ S) (hS2 : S ≤ 4294967296) :
    Calls Tryd.prog 34 #[.pointer (some ⟨fb, 0, none⟩), .int .i64 (S : Int)] W fun e w' => e = .returned .nilIface ∧
      FileMem fb kb nb W.heap.size S (s + 1) nodes now name synced md at_ (L ++ List.replicate (S - L.length) 0) w' ∧ W.heap.size ≤ w'.heap.size ∧ (∀ k, k < W.heap.size → k ≠ nb → k ≠ kb → w'.heap[k]? = W.heap[k]?) ∧ w'.os = W.os ∧ w'.tape = W.tape ∧ w'.output = W.output := by
  have kn : kb ≠ nb := h.disk.apart h.node (by decide)
  have kd : kb ≠ db := h.disk.apart h.data (by decide)
  have kf : kb ≠ fb := h.disk.apart h.file (by decide)
  have nf : nb ≠ fb := h.node.apart h.file (by decide)
  have hkl := h.disk.lt
  have hfl := h.file.lt
  have hstep := diskStep_any kb s nodes now W h.disk hs
  obtain ⟨W1, hW1⟩ : ∃ w, W.setCell ⟨kb, 2, none⟩ (.int .i64 ((s + 1 : Nat) : Int)) = w := ⟨_, rfl⟩
  have d1 : Bk W1 kb 46 #[nodes, .int .i64 (-1), .int .i64 ((s + 1 : Nat) : Int), now] := by rw [← hW1]; exact h.disk.set 2 _
  have f1 : Bk W1 fb 84 #[.pointer (some ⟨kb, 0, none⟩), .pointer (some ⟨nb, 0, none⟩), at_] := by rw [← hW1]; exact h.file.far (p := ⟨kb, 2, none⟩) (Ne.symm kf) _
  have n1 : Bk W1 nb 81 #[name, .slice (some ⟨db, 0, none⟩) L.length cap, synced, md] := by rw [← hW1]; exact h.node.far (p := ⟨kb, 2, none⟩) (Ne.symm kn) _
  have b1 : Bk W1 db 5 (Lib.byteCells L).toArray := by rw [← hW1]; exact h.data.far (p := ⟨kb, 2, none⟩) (Ne.symm kd) _
  have g1 : W.grownBy W1 (some kb) := by rw [← hW1]; exact grown_setCell (World.grownBy.refl W _) (p := ⟨kb, 2, none⟩) (.inl rfl) _
  have hsz : W1.heap.size = W.heap.size := by rw [← hW1]; simp
  have hcut := nodeCut_any nb db cap S name synced md L W1 n1 b1 hS hS2
  rw [hsz] at hcut
  have c0 := h.file.cell 0
  have c1 := f1.cell 1
  simp at c0 c1
  rw [hW1] at hstep
  have h' := Lib.hid h
  have hstep' := Lib.hid hstep
  have d1' := Lib.hid d1
  have f1' := Lib.hid f1
  have n1' := Lib.hid n1
  have b1' := Lib.hid b1
  have g1' := Lib.hid g1
  have hsz' := Lib.hid hsz
  have hcut' := Lib.hid hcut
  have hW1' := Lib.hid hW1
  clear hW1 hcut hsz g1 b1 n1 f1 d1 hstep h
  go_enter Tryd.func34, Tryd.ntmps34
  go_wp2_with fail
  with_reducible refine hstep'.out.mono ?_
  rintro e w1 ⟨rfl, rfl⟩
  go_wp2_with fail
  with_reducible refine hcut'.out.mono ?_
  rintro e w2 ⟨rfl, hB2, hN2, hg2⟩
  have hB2' := Lib.hid hB2
  have hN2' := Lib.hid hN2
  have hg2' := Lib.hid hg2
  clear hg2 hN2 hB2
  go_wp2_with fail
  go_ret
  refine ⟨rfl, ⟨d1'.out.grown hg2'.out (by simpa using kn), f1'.out.grown hg2'.out (by simpa using Ne.symm nf), by simpa [Nat.add_sub_cancel' hS] using hN2'.out, hB2'.out⟩, Nat.le_trans g1'.out.size hg2'.out.size, fun k hk hkn hkk => ?_, hg2'.out.os.trans g1'.out.os, hg2'.out.tape.trans g1'.out.tape, hg2'.out.output.trans g1'.out.output⟩
  exact (hg2'.out.block k (by rw [hsz'.out]; exact hk) (by simpa using hkn)).trans (g1'.out.block k hk (by simpa using hkk))
end Go.Proofs.YtjioghedokbgcaaDoor
