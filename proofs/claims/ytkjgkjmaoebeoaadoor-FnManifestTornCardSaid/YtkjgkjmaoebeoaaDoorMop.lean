/-
  Contracts of what opens a manifest over bytes: Disk.at, Disk.Put, Disk.Open.
-/
import Derived.Test.YtkjgkjmaoebeoaaDoorMac
import Derived.Test.YtkjgkjmaoebeoaaDoorMcr
namespace Go.Proofs.YtkjgkjmaoebeoaaDoor
open Go Go.RowKit
open Go.Proofs

set_option maxHeartbeats 1000000 in
theorem diskAt_nil (d : Nat) (s : ByteArray) (L S N : Value) (w : World) (h : Bk w d 69 #[.slice none 0 0, L, S, N]) :
    Calls Tryd.prog 25 #[.pointer (some ⟨d, 0, none⟩), .string s] w fun e w' => e = .returned (.tuple #[.int .i64 0, .bool false]) ∧ Ch [] w w' := by
  have c0 := h.cell 0
  simp at c0
  go_enter Tryd.func25, Tryd.ntmps25
  go_wp2_with fail
  go_loopw [4] (fun s4 wx => s4 = .int .i64 0 ∧ w = wx) (fun _ _ => 0)
  case atStart => exact ⟨rfl, rfl⟩
  case round =>
    obtain ⟨rfl, rfl⟩ := hrel
    go_wp2_with fail
    go_quiet (fail)
    go_wp2_with fail
    go_ret2
    exact ⟨rfl, (Ch.refl _ _).drewN _⟩

set_option maxHeartbeats 1000000 in
theorem diskAt_one (d g c nb : Nat) (L S N D Y M : Value) (w : World) (h : Bk w d 69 #[.slice (some ⟨g, 0, none⟩) 1 c, L, S, N]) (hg : w.cell? ⟨g, 0, none⟩ = some (.pointer (some ⟨nb, 0, none⟩))) (hn : Bk w nb 73 #[.string { data := #[77, 65, 78, 73, 70, 69, 83, 84] }, D, Y, M]) :
    Calls Tryd.prog 25 #[.pointer (some ⟨d, 0, none⟩), .string { data := #[77, 65, 78, 73, 70, 69, 83, 84] }] w fun e w' => e = .returned (.tuple #[.int .i64 0, .bool true]) ∧ Ch [] w w' := by
  have c0 := h.cell 0
  simp at c0
  have n0 := hn.cell 0
  simp at n0
  go_enter Tryd.func25, Tryd.ntmps25
  go_wp2_with fail
  go_loopw [4] (fun s4 wx => s4 = .int .i64 0 ∧ w = wx) (fun _ _ => 0)
  case atStart => exact ⟨rfl, rfl⟩
  case round =>
    obtain ⟨rfl, rfl⟩ := hrel
    go_wp2_with fail
    go_quiet (fail)
    go_wp2_with fail
    go_ret2
    exact ⟨rfl, (Ch.refl _ _).drewN _⟩

set_option maxHeartbeats 2000000 in
set_option maxRecDepth 20000 in
theorem diskPut_any (d nb : Nat) (L S N D Y M : Value) (w : World) (h : Bk w d 69 #[.slice none 0 0, L, S, N]) (hn : Bk w nb 73 #[.string { data := #[77, 65, 78, 73, 70, 69, 83, 84] }, D, Y, M]) :
    Calls Tryd.prog 21 #[.pointer (some ⟨d, 0, none⟩), .pointer (some ⟨nb, 0, none⟩)] w fun e w' => e = .returned (.tuple #[]) ∧ ∃ g c, Bk w' d 69 #[.slice (some ⟨g, 0, none⟩) 1 c, L, S, N] ∧ w'.cell? ⟨g, 0, none⟩ = some (.pointer (some ⟨nb, 0, none⟩)) ∧ w.heap.size ≤ g ∧ Ch [d] w w' := by
  have n0 := hn.cell 0
  simp at n0
  have h' := Lib.hid h
  have hn' := Lib.hid hn
  clear hn h
  go_enter Tryd.func21, Tryd.ntmps21
  go_wp2_with fail
  refine (diskAt_nil d _ L S N w h'.out).mono ?_
  rintro e w1 ⟨rfl, hc1⟩
  have h1 := h'.out.ch hc1 (by simp)
  have c0 := h1.cell 0
  have f0 := h1.free 0
  simp at c0
  have hown := World.ownsRow.alloc (World.ownsRow_nil w1 w1.heap.size 71 1) (.cells #[.pointer none] 71)
  have hc1' := Lib.hid hc1
  have h1' := Lib.hid h1
  have hown' := Lib.hid hown
  clear hown h1 hc1
  go_wp2_with (at_builtin; refine wpList_append1 rfl (.tmp 27) (.tmp 28) 67 rfl w1.heap.size 71 1 Tryd.underlying67 (by kernel_rfl) (by omega) _ 0 [] rfl hown'.out w1.heap.size 1 [.pointer none] rfl rfl (Bk.at_ _ _ _ _ (by simp)) (by intro u hu; simp at hu; subst hu; rfl) (by omega) (by simp) ?_; intro A' c' w2 hown2 hc2 hat2; clear hat2; replace hc2 : Ch [] _ w2 := hc2; have h2 := (h1'.out.alloc _).ch hc2 (by simp); have d0 := h2.cell 0; have e0 := h2.free 0; simp at d0; obtain ⟨g, hgA, hgB, hgc⟩ := own_cell (o := 0) hown2 rfl; have h2' := Lib.hid h2; have hown2' := Lib.hid hown2; have hc2' := Lib.hid hc2; clear h2 hown2 hc2)
  subst hgA
  have hcw : Ch [d] w (w2.setCell ⟨d, 0, none⟩ (.slice (some ⟨g, 0, none⟩) 1 c')) := (((hc1'.out.mono (by simp)).alloc _).trans' hc2'.out (by simp)).setCell (p := ⟨d, 0, none⟩) (.inl (by simp)) _
  have hgd : g ≠ d := fun he => by
    have h1 := h'.out.lt
    have h2 := hc1'.out.size
    omega
  have hD := h2'.out.set 0 (.slice (some ⟨g, 0, none⟩) 1 c')
  simp at hD
  have hgc2 : (w2.setCell ⟨d, 0, none⟩ (.slice (some ⟨g, 0, none⟩) 1 c')).cell? ⟨g, 0, none⟩ = some (.pointer none) := (((Ch.refl [d] w2).setCell (p := ⟨d, 0, none⟩) (.inl (by simp)) _).cell 0 (block_lt_of_cell hgc) (by simpa using hgd)).trans hgc
  have hcap := own_cap hown2'.out
  obtain ⟨W, hW⟩ : ∃ W, w2.setCell ⟨d, 0, none⟩ (.slice (some ⟨g, 0, none⟩) 1 c') = W := ⟨_, rfl⟩
  rw [hW] at hcw hD hgc2
  rw [hW]
  clear hgc d0 c0 f0 e0
  have d0 := hD.cell 0
  have e0 := hD.free 0
  simp at d0
  have hcw' := Lib.hid hcw
  have hD' := Lib.hid hD
  have hW' := Lib.hid hW
  clear hW hD hcw
  have hc1I : (1 : Int) ≤ (c' : Int) := by omega
  have hw1 : IntKind.i64.wrap 1 = 1 := rfl
  go_cut [45] (fun s45 wx => Ch [] W wx)
  case first =>
    refine wp_tail 13 (by kernel_rfl) (by kernel_rfl) ?_
    simp only [List.take_succ_cons, List.take_zero, List.drop_succ_cons, List.drop_zero]
    repeat still_step
    refine wpStill_nil ?_
    refine wpList_copy_nothing rfl (.tmp 38) (.tmp 44) 67 67 rfl 71 Tryd.underlying67 (by kernel_rfl) _ _ _ _ _ _ rfl rfl (by first | rfl | simp) ?_
    go_wp2_with fail
    all_goals
      go_meet
      exact (Ch.refl [] W).drew
  case rest =>
  have hcx := hcut
  clear d0 e0
  have hD2 := hD'.out.ch hcx (by simp)
  have d0 := hD2.cell 0
  have e0 := hD2.free 0
  simp at d0
  have hgl := block_lt_of_cell hgc2
  have hgc3 := (hcx.cell 0 hgl (by simp)).trans hgc2
  have hfg : W.frozen? ⟨g, 0, none⟩ = false := by
    have h1 := hown2'.out.frozenAt 0
    rw [← hW'.out, (((Ch.refl [d] w2).setCell (p := ⟨d, 0, none⟩) (.inl (by simp)) _).frozen 0 (hown2'.out.lt g rfl).2 (by simpa using hgd))]
    exact h1
  have hfg2 := (hcx.frozen 0 hgl (by simp)).trans hfg
  clear hgc2
  have hD2' := Lib.hid hD2
  have hcut' := Lib.hid hcut
  clear hcut hD2
  clear hcx
  go_wp2_with fail
  go_end0
  have h1 := h'.out.lt
  have h2 := hc1'.out.size
  exact ⟨rfl, g, ⟨c', hD2'.out.far (p := ⟨g, 0, none⟩) (fun he => hgd he.symm) _⟩, World.cell?_setCell_same _ _ _ hgc3, by omega, (hcw'.out.trans_nil hcut'.out).setCell (p := ⟨g, 0, none⟩) (.inr (by show w.heap.size ≤ g; omega)) _⟩

/-- What a manifest over bytes wants of the disk. -/
structure DiskL (d nb db n c : Nat) (w : World) : Prop where
  dk : ∃ g c' L S N, Bk w d 69 #[.slice (some ⟨g, 0, none⟩) 1 c', L, S, N] ∧ w.cell? ⟨g, 0, none⟩ = some (.pointer (some ⟨nb, 0, none⟩))
  nd : ∃ Y M, Bk w nb 73 #[.string { data := #[77, 65, 78, 73, 70, 69, 83, 84] }, .slice (some ⟨db, 0, none⟩) n c, Y, M]

set_option maxHeartbeats 2000000 in
theorem diskFind_any (d nb db n c : Nat) (w : World) (h : DiskL d nb db n c w) :
    Calls Tryd.prog 26 #[.pointer (some ⟨d, 0, none⟩), .string { data := #[77, 65, 78, 73, 70, 69, 83, 84] }] w fun e w' => e = .returned (.pointer (some ⟨nb, 0, none⟩)) ∧ Ch [] w w' := by
  obtain ⟨⟨g, c', L, S, N, hd, hg⟩, Y, M, hn⟩ := h
  have hcall := diskAt_one d g c' nb L S N _ Y M w hd hg hn
  have hdl := hd.lt
  have hgl := block_lt_of_cell hg
  have hd' := Lib.hid hd
  have hn' := Lib.hid hn
  have hcall' := Lib.hid hcall
  have hg' := Lib.hid hg
  clear hg hcall hn hd
  go_enter Tryd.func26, Tryd.ntmps26
  go_wp2_with fail
  refine hcall'.out.mono ?_
  rintro e w1 ⟨rfl, hc1⟩
  have c0 := (hd'.out.ch hc1 (by simp)).cell 0
  simp at c0
  have c1 := (hc1.cell 0 hgl (by simp)).trans hg'.out
  have hc1' := Lib.hid hc1
  clear hc1
  go_wp2_with fail
  go_ret
  exact ⟨rfl, hc1'.out⟩

set_option maxHeartbeats 2000000 in
theorem diskOpen_any (d nb db n c : Nat) (w : World) (h : DiskL d nb db n c w) :
    Calls Tryd.prog 22 #[.pointer (some ⟨d, 0, none⟩), .string { data := #[77, 65, 78, 73, 70, 69, 83, 84] }, .int .i64 16] w fun e w' => ∃ fb, e = .returned (.tuple #[.pointer (some ⟨fb, 0, none⟩), .nilIface]) ∧ Bk w' fb 86 #[.pointer (some ⟨d, 0, none⟩), .pointer (some ⟨nb, 0, none⟩), .int .i64 0] ∧ Ch [] w w' := by
  have hcall := diskFind_any d nb db n c w h
  have h' := Lib.hid h
  have hcall' := Lib.hid hcall
  clear hcall h
  go_enter Tryd.func22, Tryd.ntmps22
  go_wp2_with fail
  refine hcall'.out.mono ?_
  rintro e w1 ⟨rfl, hc1⟩
  have hc1' := Lib.hid hc1
  clear hc1
  go_wp2_with fail
  go_ret2
  exact ⟨_, rfl, Bk.at_ _ _ _ _ rfl, hc1'.out.alloc _⟩

end Go.Proofs.YtkjgkjmaoebeoaaDoor
