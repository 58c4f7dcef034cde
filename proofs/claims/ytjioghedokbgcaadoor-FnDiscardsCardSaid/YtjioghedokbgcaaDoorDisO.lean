/-
  A new file on an empty disk: Disk.at, Disk.Find, Disk.Put, Disk.Open, Node.cut, OpenMmapFile.
-/
import Derived.Test.YtjioghedokbgcaaDoorDisU
import Derived.Test.YtjioghedokbgcaaDoorRow
import Derived.Test.YtjioghedokbgcaaDoorWt
namespace Go.Proofs.YtjioghedokbgcaaDoor
open Go Go.RowKit
open Go.Proofs

set_option maxHeartbeats 1000000 in
theorem diskAt_nil (d : Nat) (s : ByteArray) (L S N : Value) (w : World) (h : Bk w d 46 #[.slice none 0 0, L, S, N]) :
    Calls Tryd.prog 49 #[.pointer (some ⟨d, 0, none⟩), .string s] w fun e w' => e = .returned (.tuple #[.int .i64 0, .bool false]) ∧ Ch [] w w' := by
  have c0 := h.cell 0
  simp at c0
  go_enter Tryd.func49, Tryd.ntmps49
  go_wp2_with fail
  go_loopw [4] (fun s4 wx => s4 = .int .i64 0 ∧ w = wx) (fun _ _ => 0)
  case atStart => exact ⟨rfl, rfl⟩
  case round =>
    obtain ⟨rfl, rfl⟩ := hrel
    go_wp2_with fail
    go_quiet (fail)
    go_wp2_with fail
    go_ret2
    exact ⟨rfl, (Ch.refl _ _).drewN _⟩

set_option maxHeartbeats 1000000 in
theorem diskFind_nil (d : Nat) (s : ByteArray) (L S N : Value) (w : World) (h : Bk w d 46 #[.slice none 0 0, L, S, N]) :
    Calls Tryd.prog 35 #[.pointer (some ⟨d, 0, none⟩), .string s] w fun e w' => e = .returned (.pointer none) ∧ Ch [] w w' := by
  have hcall := diskAt_nil d s L S N w h
  have h' := Lib.hid h
  have hcall' := Lib.hid hcall
  clear hcall h
  go_enter Tryd.func35, Tryd.ntmps35
  go_wp2_with fail
  refine hcall'.out.mono ?_
  rintro e w1 ⟨rfl, hc1⟩
  have hc1' := Lib.hid hc1
  clear hc1
  go_wp2_with fail
  go_ret
  exact ⟨rfl, hc1'.out⟩

set_option maxHeartbeats 2000000 in
set_option maxRecDepth 20000 in
theorem diskPut_any (d nb : Nat) (nm : ByteArray) (L S N D Y M : Value) (w : World) (h : Bk w d 46 #[.slice none 0 0, L, S, N]) (hn : Bk w nb 81 #[.string nm, D, Y, M]) :
    Calls Tryd.prog 37 #[.pointer (some ⟨d, 0, none⟩), .pointer (some ⟨nb, 0, none⟩)] w fun e w' => e = .returned (.tuple #[]) ∧ ∃ g c, Bk w' d 46 #[.slice (some ⟨g, 0, none⟩) 1 c, L, S, N] ∧ w'.cell? ⟨g, 0, none⟩ = some (.pointer (some ⟨nb, 0, none⟩)) ∧ w.heap.size ≤ g ∧ Ch [d] w w' := by
  have n0 := hn.cell 0
  simp at n0
  have h' := Lib.hid h
  have hn' := Lib.hid hn
  clear hn h
  go_enter Tryd.func37, Tryd.ntmps37
  go_wp2_with fail
  refine (diskAt_nil d _ L S N w h'.out).mono ?_
  rintro e w1 ⟨rfl, hc1⟩
  have h1 := h'.out.ch hc1 (by simp)
  have c0 := h1.cell 0
  have f0 := h1.free 0
  simp at c0
  have hown := World.ownsRow.alloc (World.ownsRow_nil w1 w1.heap.size 82 1) (.cells #[.pointer none] 82)
  have hc1' := Lib.hid hc1
  have h1' := Lib.hid h1
  have hown' := Lib.hid hown
  clear hown h1 hc1
  go_wp2_with (at_builtin; refine wpList_append1 rfl (.tmp 27) (.tmp 28) 44 rfl w1.heap.size 82 1 Tryd.underlying44 (by kernel_rfl) (by omega) _ 0 [] rfl hown'.out w1.heap.size 1 [.pointer none] rfl rfl (Bk.at_ _ _ _ _ (by simp)) (by intro u hu; simp at hu; subst hu; rfl) (by omega) (by simp) ?_; intro A' c' w2 hown2 hc2 hat2; replace hc2 : Ch [] _ w2 := hc2; have h2 := (h1'.out.alloc _).ch hc2 (by simp); have d0 := h2.cell 0; have e0 := h2.free 0; simp at d0; obtain ⟨g, hgA, hgB, hgc⟩ := own_cell (o := 0) hown2 rfl; have h2' := Lib.hid h2; have hown2' := Lib.hid hown2; have hc2' := Lib.hid hc2; clear h2 hown2 hc2 hat2)
  subst hgA
  have hcw : Ch [d] w (w2.setCell ⟨d, 0, none⟩ (.slice (some ⟨g, 0, none⟩) 1 c')) := (((hc1'.out.mono (by simp)).alloc _).trans' hc2'.out (by simp)).setCell (p := ⟨d, 0, none⟩) (.inl (by simp)) _
  have hgd : g ≠ d := fun he => by
    have h1 := h'.out.lt
    have h2 := hc1'.out.size
    omega
  have hD := h2'.out.set 0 (.slice (some ⟨g, 0, none⟩) 1 c')
  simp at hD
  have hgc2 : (w2.setCell ⟨d, 0, none⟩ (.slice (some ⟨g, 0, none⟩) 1 c')).cell? ⟨g, 0, none⟩ = some (.pointer none) := (((Ch.refl [d] w2).setCell (p := ⟨d, 0, none⟩) (.inl (by simp)) _).cell 0 (block_lt_of_cell hgc) (by simpa using hgd)).trans hgc
  have hcap := own_cap hown2'.out
  obtain ⟨W, hW⟩ : ∃ W, w2.setCell ⟨d, 0, none⟩ (.slice (some ⟨g, 0, none⟩) 1 c') = W := ⟨_, rfl⟩
  rw [hW] at hcw hD hgc2
  rw [hW]
  clear hgc d0 c0 f0 e0
  have d0 := hD.cell 0
  have e0 := hD.free 0
  simp at d0
  have hcw' := Lib.hid hcw
  have hD' := Lib.hid hD
  have hW' := Lib.hid hW
  clear hW hD hcw
  have hc1I : (1 : Int) ≤ (c' : Int) := by omega
  have hw1 : IntKind.i64.wrap 1 = 1 := rfl
  go_cut [45] (fun s45 wx => Ch [] W wx)
  case first =>
    refine wp_tail 13 (by kernel_rfl) (by kernel_rfl) ?_
    simp only [List.take_succ_cons, List.take_zero, List.drop_succ_cons, List.drop_zero]
    repeat still_step
    refine wpStill_nil ?_
    refine wpList_copy_nothing rfl (.tmp 38) (.tmp 44) 44 44 rfl 82 Tryd.underlying44 (by kernel_rfl) _ _ _ _ _ _ rfl rfl (by first | rfl | simp) ?_
    go_wp2_with fail
    all_goals
      go_meet
      exact (Ch.refl [] W).drew
  case rest =>
  have hcx := hcut
  clear d0 e0
  have hD2 := hD'.out.ch hcx (by simp)
  have d0 := hD2.cell 0
  have e0 := hD2.free 0
  simp at d0
  have hgl := block_lt_of_cell hgc2
  have hgc3 := (hcx.cell 0 hgl (by simp)).trans hgc2
  have hfg : W.frozen? ⟨g, 0, none⟩ = false := by
    have h1 := hown2'.out.frozenAt 0
    rw [← hW'.out, (((Ch.refl [d] w2).setCell (p := ⟨d, 0, none⟩) (.inl (by simp)) _).frozen 0 (hown2'.out.lt g rfl).2 (by simpa using hgd))]
    exact h1
  have hfg2 := (hcx.frozen 0 hgl (by simp)).trans hfg
  clear hgc2
  have hD2' := Lib.hid hD2
  have hcut' := Lib.hid hcut
  clear hcut hD2
  clear hcx
  go_wp2_with fail
  go_end0
  have h1 := h'.out.lt
  have h2 := hc1'.out.size
  exact ⟨rfl, g, ⟨c', hD2'.out.far (p := ⟨g, 0, none⟩) (fun he => hgd he.symm) _⟩, World.cell?_setCell_same _ _ _ hgc3, by omega, (hcw'.out.trans_nil hcut'.out).setCell (p := ⟨g, 0, none⟩) (.inr (by show w.heap.size ≤ g; omega)) _⟩

set_option maxHeartbeats 2000000 in
set_option maxRecDepth 20000 in
theorem diskOpen_new (d : Nat) (nm : ByteArray) (w : World) (h : Bk w d 46 #[.slice none 0 0, .int .i64 (-1), .int .i64 0, .int .u64 0]) :
    Calls Tryd.prog 26 #[.pointer (some ⟨d, 0, none⟩), .string nm, .int .i64 17] w fun e w' => ∃ fb nb nodes, e = .returned (.tuple #[.pointer (some ⟨fb, 0, none⟩), .nilIface]) ∧
      Bk w' d 46 #[nodes, .int .i64 (-1), .int .i64 ((1 : Nat) : Int), .int .u64 0] ∧ Bk w' fb 84 #[.pointer (some ⟨d, 0, none⟩), .pointer (some ⟨nb, 0, none⟩), .int .i64 0] ∧ Bk w' nb 81 #[.string nm, .slice none 0 0, .slice none 0 0, .int .u64 0] ∧ w.heap.size ≤ fb ∧ w.heap.size ≤ nb ∧ Ch [d] w w' := by
  have hcall := diskFind_nil d nm _ _ _ w h
  have h' := Lib.hid h
  have hcall' := Lib.hid hcall
  clear hcall h
  go_enter Tryd.func26, Tryd.ntmps26
  go_wp2_with fail
  refine hcall'.out.mono ?_
  rintro e w1 ⟨rfl, hc1⟩
  have h1 := h'.out.ch hc1 (by simp)
  have hst := diskStep_any d 0 _ _ w1 h1 (by omega)
  have hc1' := Lib.hid hc1
  have h1' := Lib.hid h1
  have hst' := Lib.hid hst
  clear hst h1 hc1
  go_wp2_with fail
  refine hst'.out.mono ?_
  rintro e w2 ⟨rfl, hw2⟩
  have hd2 : Bk w2 d 46 #[.slice none 0 0, .int .i64 (-1), .int .i64 ((1 : Nat) : Int), .int .u64 0] := by rw [hw2]; simpa using h1'.out.set 2 (.int .i64 ((0 + 1 : Nat) : Int))
  have hC2 : Ch [d] w w2 := by rw [hw2]; exact (hc1'.out.mono (by simp)).setCell (p := ⟨d, 2, none⟩) (.inl (by simp)) _
  have c3 := hd2.cell 3
  simp at c3
  clear hw2
  have hd2' := Lib.hid hd2
  have hC2' := Lib.hid hC2
  clear hC2 hd2
  go_wp2_with fail
  refine (diskPut_any d w2.heap.size nm _ _ (.int .u64 0) (.slice none 0 0) (.slice none 0 0) (.int .u64 0) _ (hd2'.out.alloc _) (Bk.at_ _ _ _ _ rfl)).mono ?_
  rintro e w3 ⟨rfl, g, c', hd3, hg3, hgs, hC3⟩
  have hl := h'.out.lt
  have hz := hC2'.out.size
  have hn3 : Bk w3 w2.heap.size 81 #[.string nm, .slice none 0 0, .slice none 0 0, .int .u64 0] := (Bk.at_ _ _ _ _ rfl).ch hC3 (by simp; omega)
  have hd3' := Lib.hid hd3
  have hC3' := Lib.hid hC3
  have hn3' := Lib.hid hn3
  clear hn3 hC3 hd3
  go_wp2_with fail
  go_ret2
  refine ⟨_, w2.heap.size, _, rfl, hd3'.out.alloc _, Bk.at_ _ _ _ _ rfl, hn3'.out.alloc _, ?_, hz, ?_⟩
  · have := hC3'.out.size
    simp at this
    omega
  · exact (((hC2'.out.alloc _).trans hC3'.out).alloc _)

set_option maxHeartbeats 2000000 in
set_option maxRecDepth 20000 in
theorem nodeCut_nil (nb S : Nat) (name synced md : Value) (W : World) (hn : Bk W nb 81 #[name, .slice none 0 0, synced, md]) (hS2 : S ≤ 4294967296) :
    Calls Tryd.prog 27 #[.pointer (some ⟨nb, 0, none⟩), .int .i64 (S : Int)] W fun e w' => e = .returned (.tuple #[]) ∧
      Bk w' W.heap.size 5 (Lib.byteCells (List.replicate S 0)).toArray ∧ Bk w' nb 81 #[name, .slice (some ⟨W.heap.size, 0, none⟩) S S, synced, md] ∧ Ch [nb] W w' := by
  have hmk := run_mkS .i64 .i64 S (by omega)
  have hnl := hn.lt
  have hspl : splice (List.replicate S (Value.int .u8 0)) 0 (Lib.byteCells (([] : List UInt8).take S)) = Lib.byteCells (List.replicate S 0) := by
    unfold splice Lib.byteCells
    simp
  have hZl : (List.replicate S (Value.int .u8 0)).length = S := by simp
  obtain ⟨Z, hZ⟩ : ∃ Z, List.replicate S (Value.int .u8 0) = Z := ⟨_, rfl⟩
  rw [hZ] at hmk hspl hZl
  obtain ⟨W1, hW1⟩ : ∃ w, W.alloc (.cells Z.toArray 5) = w := ⟨_, rfl⟩
  have hmk1 := hmk W
  rw [hW1] at hmk1
  have hC1 : Ch [] W W1 := by rw [← hW1]; exact (Ch.refl [] W).alloc _
  have hb1 : Bk W1 W.heap.size 5 Z.toArray := by rw [← hW1]; exact Bk.at_ _ _ _ _ rfl
  obtain ⟨g, hg⟩ : ∃ g, W.heap.size = g := ⟨_, rfl⟩
  rw [hg] at hmk1 hb1
  rw [hg]
  have hn1 := hn.ch hC1 (by simp)
  have c1 := hn1.cell 1
  simp at c1
  have hng : nb ≠ g := by omega
  clear hmk
  have hn' := Lib.hid hn
  have hC1' := Lib.hid hC1
  have hb1' := Lib.hid hb1
  have hn1' := Lib.hid hn1
  have hspl' := Lib.hid hspl
  have hW1' := Lib.hid hW1
  have hg' := Lib.hid hg
  have hZl' := Lib.hid hZl
  clear hZl hg hW1 hspl hn1 hb1 hC1 hn
  go_enter Tryd.func27, Tryd.ntmps27
  go_wp2_with (refine wpList_copyB rfl (.tmp 7) (.tmp 11) 74 74 rfl 5 Tryd.underlying74 (by kernel_rfl) g 0 S S rfl none 0 0 rfl [] (Src.none_ _) Z 5 hb1'.out (by rw [hZl'.out]; omega) ?_; intro w2 hB2 hg2; rw [hspl'.out] at hB2; have hC2 := Ch.of_grown hg2; have hn2' := Lib.hid (hn1'.out.ch hC2 (by simpa using hng)); have f2 := hn2'.out.free 1; have c2 := hn2'.out.cell 1; simp at c2; have hB2' := Lib.hid hB2; have hC2' := Lib.hid hC2; clear hB2 hg2 hC2)
  go_end0
  refine ⟨rfl, hB2'.out.far (p := ⟨nb, 1, none⟩) (Ne.symm hng) _, by simpa using hn2'.out.set 1 (.slice (some ⟨g, 0, none⟩) S S), ?_⟩
  exact ((hC1'.out.mono (by simp)).trans' hC2'.out fun k hk => by
    simp at hk
    subst hk
    exact .inr (Nat.le_of_eq hg'.out)).setCell (p := ⟨nb, 1, none⟩) (.inl (by simp)) _
end Go.Proofs.YtjioghedokbgcaaDoor
