/-
  bufio.Reader.Read where the row is empty.
-/
import Derived.Test.YtkjgkjmaoebeoaaDoorFd1
namespace Go.Proofs.YtkjgkjmaoebeoaaDoor
open Go Go.RowKit
open Go.Proofs


set_option maxHeartbeats 4000000 in
set_option maxRecDepth 20000 in
/-- The row is empty, and is filled first. -/
theorem fdRead_fill (rb bb zb nb db g off len c r0 : Nat) (lb lr : Int) (t : TypeId) (L P : List Value) (l : List UInt8) (w : World) (hA : Apart5 rb bb zb nb db)
    (h1 : Bk w rb 148 (rdCells bb zb r0 r0 .nilIface lb lr)) (h2 : Bk w bb 5 L.toArray) (hL : L.length = 4096) (hs : Fr zb nb db l w) (hl : l ≠ [])
    (hg : Bk w g t P.toArray) (hfit : off + len ≤ P.length) (hlen : 0 < len) (hlen2 : len < 4096) (n1 : g ≠ rb) (n2 : g ≠ bb) (n3 : g ≠ zb) (n4 : g ≠ db) (n5 : g ≠ nb) :
    Calls Tryd.prog 99 #[.pointer (some ⟨rb, 0, none⟩), .slice (some ⟨g, off, none⟩) len c] w fun e w' =>
      ∃ n, 0 < n ∧ n ≤ len ∧ n ≤ l.length ∧ e = .returned (.tuple #[.int .i64 (n : Int), .nilIface]) ∧ Fd rb bb zb nb db (l.drop n) w' ∧ Bk w' g t (splice P off (Lib.byteCells (l.take n))).toArray ∧ Ch [rb, bb, zb, g] w w' := by
  have c0 := h1.cell 0
  have c1 := h1.cell 1
  have c2 := h1.cell 2
  have c3 := h1.cell 3
  have c4 := h1.cell 4
  have f2 := h1.free 2
  have f3 := h1.free 3
  have f4 := h1.free 4
  have f5 := h1.free 5
  have f6 := h1.free 6
  simp [rdCells] at c0 c1 c2 c3 c4
  have hll : 0 < l.length := List.length_pos_iff.2 hl
  have hne0 : ¬ ((len : Int) = 0) := by omega
  have hlt : ¬ ((4096 : Int) ≤ (len : Int)) := by omega
  have hlt2 : ¬ (4096 ≤ len) := by omega
  have hna : ∀ (W : World), (nilAhead 300 74 (.pointer (some ⟨zb, 0, none⟩)) "Read").run Tryd.prog W = .ok (some false) W := fun _ => by kernel_rfl
  have h1' := Lib.hid h1
  have h2' := Lib.hid h2
  have hs' := Lib.hid hs
  have hg' := Lib.hid hg
  have hl' := Lib.hid hl
  clear hl hg hs h2 h1
  go_enter Tryd.func99, Tryd.ntmps99
  go_wp2_with fail
  go_quiet (fail)
  go_upto_region 19 with fail
  have h1w := ((h1'.out.drewN nq).set 2 (.int .i64 0)).set 3 (.int .i64 0)
  have h2w := ((h2'.out.drewN nq).far (p := ⟨rb, 2, none⟩) (fun h => hA.a1 h.symm) (.int .i64 0)).far (p := ⟨rb, 3, none⟩) (fun h => hA.a1 h.symm) (.int .i64 0)
  have hgw := ((hg'.out.drewN nq).far (p := ⟨rb, 2, none⟩) n1 (.int .i64 0)).far (p := ⟨rb, 3, none⟩) n1 (.int .i64 0)
  have hcw : Ch [rb] w (((w.drewN nq).setCell ⟨rb, 2, none⟩ (.int .i64 0)).setCell ⟨rb, 3, none⟩ (.int .i64 0)) := (((Ch.refl [rb] w).drewN nq).setCell (p := ⟨rb, 2, none⟩) (.inl (by simp)) _).setCell (p := ⟨rb, 3, none⟩) (.inl (by simp)) _
  have hsw := hs'.out.ch hcw (by simp; exact fun h => hA.a2 h.symm) (by simp; exact fun h => hA.a3 h.symm) (by simp; exact fun h => hA.a6 h.symm)
  generalize ((w.drewN nq).setCell ⟨rb, 2, none⟩ (.int .i64 0)).setCell ⟨rb, 3, none⟩ (.int .i64 0) = W at *
  have c0 := h1w.cell 0
  have c1 := h1w.cell 1
  have c2 := h1w.cell 2
  have c3 := h1w.cell 3
  have c4 := h1w.cell 4
  have f4 := h1w.free 4
  simp [rdCells] at c0 c1 c2 c3 c4
  obtain ⟨q, hq⟩ : ∃ q, min l.length 4096 = q := ⟨_, rfl⟩
  have hq0 : 0 < q := by omega
  have hq4 : q ≤ 4096 := by omega
  have hqI : ¬ ((q : Int) < 0) := by omega
  have hqI0 : ¬ ((q : Int) = 0) := by omega
  have wq : IntKind.i64.wrap (0 + (q : Int)) = (q : Int) := (IntWalk.i64_in _ (by omega)).trans (by omega)
  have hcall := frRead_some zb nb db bb 0 4096 4096 5 L l W.drew (hsw.ch ((Ch.refl [] W).drew) (by simp) (by simp) (by simp)) hl'.out h2w.drew (by omega) hA.a4 hA.a5 hA.a7 (by omega) (by omega)
  rw [hq] at hcall
  have hcall' := Lib.hid hcall
  clear hcall
  have h1w' := Lib.hid h1w
  have h2w' := Lib.hid h2w
  have hgw' := Lib.hid hgw
  have hcw' := Lib.hid hcw
  have hsw' := Lib.hid hsw
  have hq' := Lib.hid hq
  clear hq hsw hcw hgw h2w h1w
  go_cut [4] (fun s4 wx => s4 = .int .i64 (q : Int) ∧ Bk wx rb 148 (rdCells bb zb 0 0 .nilIface lb lr) ∧ Bk wx bb 5 (splice L 0 (Lib.byteCells (l.take 4096))).toArray ∧ Fr zb nb db (l.drop q) wx ∧ Ch [rb, bb, zb] W wx)
  case first =>
    go_region_with (go_at_call 97; refine hcall'.out.mono ?_; rintro e w3 ⟨rfl, hs3, hb3, hc3⟩; have h13 := h1w'.out.drew.ch hc3 (by simp; exact ⟨hA.a2, hA.a1⟩); have d4 := h13.cell 4; have g4 := h13.free 4; simp [rdCells] at d4)
    all_goals
      go_wp2_with fail
      go_meet
      have e4 := h13.set 4 .nilIface
      simp [rdCells] at e4
      exact ⟨rfl, by simpa [rdCells] using e4, hb3.far (p := ⟨rb, 4, none⟩) (fun h => hA.a1 h.symm) _, hs3.ch (S := [rb]) ((Ch.refl [rb] _).setCell (p := ⟨rb, 4, none⟩) (.inl (by simp)) _) (by simp; exact fun h => hA.a2 h.symm) (by simp; exact fun h => hA.a3 h.symm) (by simp; exact fun h => hA.a6 h.symm),
        (((Ch.refl [rb, bb, zb] W).drew).trans' hc3 (fun y hy => .inl (by simp at hy ⊢; omega))).setCell (p := ⟨rb, 4, none⟩) (.inl (by simp)) _⟩
  case rest =>
    obtain ⟨rfl, h1x, h2x, hsx, hcx⟩ := hcut
    have d2 := h1x.cell 3
    have g3 := h1x.free 3
    simp [rdCells] at d2
    clear c0 c1 c2 c3 c4 f2 f3 f4 f5 f6
    have hq' := hq'.out
    have hpl : (l.take q).length = q - 0 := by simp; omega
    have hbx : Bs wc bb 0 (l.take q) := by
      have := (bs_front_ h2x).take q
      rwa [List.take_take, show min q 4096 = q by omega] at this
    have hL2 : (splice L 0 (Lib.byteCells (l.take 4096))).length = 4096 := by rw [splice_length _ _ _ (by simp [Lib.byteCells]; omega), hL]
    have hpt : l = l.take q ++ l.drop q := (List.take_append_drop q l).symm
    obtain ⟨L2, hL2e⟩ : ∃ L2, splice L 0 (Lib.byteCells (l.take 4096)) = L2 := ⟨_, rfl⟩
    rw [hL2e] at h2x hL2
    obtain ⟨pre, hpre⟩ : ∃ p, l.take q = p := ⟨_, rfl⟩
    obtain ⟨tail, htail⟩ : ∃ p, l.drop q = p := ⟨_, rfl⟩
    rw [hpre] at hpl hbx hpt
    rw [htail] at hsx hpt
    clear hpre htail hL2e
    obtain ⟨r, hr⟩ : ∃ r, r = 0 := ⟨0, rfl⟩
    have hrq : r < q := by omega
    rw [← hr] at hpl hbx
    obtain ⟨k, hk⟩ : ∃ k, min (q - r) len = k := ⟨_, rfl⟩
    have hk0 : 0 < k := by omega
    have hkl : k ≤ len := by omega
    have hkq : r + k ≤ q := by omega
    have hr4 : ¬ 4096 = r := by omega
    have s1 : r ≤ q := by omega
    have s2 : (r : Int) ≤ (q : Int) := by omega
    have s3 : (q : Int) ≤ 4096 := by omega
    obtain ⟨v, hv⟩ : ∃ v, r + k = v := ⟨_, rfl⟩
    obtain ⟨m, hm⟩ : ∃ m, m + 1 = v := ⟨v - 1, by omega⟩
    have wv : IntKind.i64.wrap ((r : Int) + (k : Int)) = (v : Int) := (IntWalk.i64_in _ (by omega)).trans (by omega)
    have wm : IntKind.i64.wrap ((v : Int) - 1) = (m : Int) := (IntWalk.i64_in _ (by omega)).trans (by omega)
    have hgx := hgw'.out.ch hcx (by simp; exact ⟨n1, n2, n3⟩)
    have hcx2 := (hcw'.out.mono (S' := [rb, bb, zb, g]) (fun y hy => .inl (by simp at hy ⊢; omega))).trans' hcx (fun y hy => .inl (by simp at hy ⊢; omega))
    have h1y : Bk (wc.setCell ⟨rb, 3, none⟩ (.int .i64 (q : Int))) rb 148 (rdCells bb zb r q .nilIface lb lr) := by
      rw [hr]
      simpa [rdCells] using h1x.set 3 (.int .i64 (q : Int))
    have h2y := h2x.far (p := ⟨rb, 3, none⟩) (fun h => hA.a1 h.symm) (.int .i64 (q : Int))
    have hby := hbx.far (p := ⟨rb, 3, none⟩) (fun h => hA.a1 h.symm) (.int .i64 (q : Int))
    have hgy := hgx.far (p := ⟨rb, 3, none⟩) n1 (.int .i64 (q : Int))
    have hsy := hsx.ch (S := [rb]) ((Ch.refl [rb] wc).setCell (p := ⟨rb, 3, none⟩) (.inl (by simp)) (.int .i64 (q : Int))) (by simp; exact fun h => hA.a2 h.symm) (by simp; exact fun h => hA.a3 h.symm) (by simp; exact fun h => hA.a6 h.symm)
    have hcy := hcx2.setCell (p := ⟨rb, 3, none⟩) (.inl (by simp)) (.int .i64 (q : Int))
    have hL := hL2
    have hq : q ≤ 4096 := hq4
    have h1y' := Lib.hid h1y
    have h2y' := Lib.hid h2y
    have hby' := Lib.hid hby
    have hgy' := Lib.hid hgy
    have hsy' := Lib.hid hsy
    have hcy' := Lib.hid hcy
    have hk' := Lib.hid hk
    have hv' := Lib.hid hv
    have hm' := Lib.hid hm
    have hpl' := Lib.hid hpl
    have hpt' := Lib.hid hpt
    have hr' := Lib.hid hr
    clear hr hpt hpl hm hv hk hcy hsy hgy hby h2y h1y
    clear h1x h2x hbx hgx hsx hcx hcx2 hcall' h1' h2' hs' hg'
    go_upto_region 25 with fail
    have h1w := Lib.hid h1y'.out
    have h2w := Lib.hid h2y'.out
    have hbw := Lib.hid hby'.out
    have hgw := Lib.hid hgy'.out
    have hsw := Lib.hid hsy'.out
    have hcw := Lib.hid hcy'.out
    have c0 := h1y'.out.cell 0
    have c2 := h1y'.out.cell 2
    have c3 := h1y'.out.cell 3
    simp only [rdCells] at c0 c2 c3
    generalize wc.setCell ⟨rb, 3, none⟩ (.int .i64 (q : Int)) = W at *
    have h11 := h1w.out.drew
    have hx : m - r < pre.length := by have := hpl'.out; have := hm'.out; have := hv'.out; omega
    refine wp_tail 14 (by kernel_rfl) (by kernel_rfl) ?_
    simp only [List.take_succ_cons, List.take_zero, List.drop_succ_cons, List.drop_zero]
    repeat still_step
    refine wpStill_nil ?_
    refine wpList_copyK rfl (.tmp 109) (.tmp 122) 42 42 rfl 5 Tryd.underlying42 (by kernel_rfl) g off len c rfl (some ⟨bb, r, none⟩) (q - r) _ rfl pre (Src.drew (w := W) ⟨hpl'.out, fun _ => ⟨bb, r, rfl, hbw.out⟩⟩) P t hgw.out.drew k hk'.out (by omega) ?_
    intro w1 hg1 hc1
    have h11 := h1w.out.drew.ch hc1 (by simp; omega)
    have h21 := h2w.out.drew.ch hc1 (by simp; omega)
    have hb1 := hbw.out.drew.ch hc1 (by simp; omega)
    have c0 := h11.cell 0
    have c2 := h11.cell 2
    have f2 := h11.free 2
    have f5 := h11.free 5
    have f6 := h11.free 6
    have c5 := h11.cell 5
    have c6 := h11.cell 6
    simp [rdCells] at c0 c2 c5 c6
    obtain ⟨x, hx8, cx⟩ : ∃ x : Nat, x < 256 ∧ w1.cell? ⟨bb, m, none⟩ = some (.int .u8 (x : Int)) := by
      have h9 := hb1.get hx
      rw [show r + (m - r) = m by have := hm'.out; have := hv'.out; omega] at h9
      exact ⟨_, UInt8.toNat_lt _, h9⟩
    have wx : IntKind.i64.wrap (x : Int) = (x : Int) := IntWalk.i64_in _ (by omega)
    have hm0 : (0 : Int) ≤ (m : Int) := by omega
    have hm4 : (m : Int) < 4096 := by have := hm'.out; have := hv'.out; omega
    have hm5 : m < 4096 := by omega
    have nrb := hA.a1
    have nbr : ¬ bb = rb := fun h => nrb h.symm
    have h11' := Lib.hid h11
    have h21' := Lib.hid h21
    have hb1' := Lib.hid hb1
    have hg1' := Lib.hid hg1
    have hc1' := Lib.hid hc1
    clear hc1 hg1 hb1 h21 h11
    clear hx
    go_wp2_with fail
    refine wp_tail 15 (by kernel_rfl) (by kernel_rfl) ?_
    simp only [List.take_succ_cons, List.take_zero, List.drop_succ_cons, List.drop_zero]
    repeat still_step
    refine wpStill_nil ?_
    go_wp2_with fail
    go_ret2
    have hv := hv'.out
    have hpl := hpl'.out
    have hk := hk'.out
    have q1 : Bk (((w1.setCell ⟨rb, 2, none⟩ (.int .i64 (v : Int))).setCell ⟨rb, 5, none⟩ (.int .i64 (x : Int))).setCell ⟨rb, 6, none⟩ (.int .i64 (-1))) rb 148 (rdCells bb zb v q .nilIface x (-1)) := by
      simpa [rdCells] using ((h11'.out.set 2 (.int .i64 (v : Int))).set 5 (.int .i64 (x : Int))).set 6 (.int .i64 (-1))
    have hCh : Ch [rb, g] W (((w1.setCell ⟨rb, 2, none⟩ (.int .i64 (v : Int))).setCell ⟨rb, 5, none⟩ (.int .i64 (x : Int))).setCell ⟨rb, 6, none⟩ (.int .i64 (-1))) :=
      (((((Ch.refl [rb, g] W).drew).trans' hc1'.out (fun y hy => .inl (by simp at hy; simp [hy]))).setCell (p := ⟨rb, 2, none⟩) (.inl (by simp)) _).setCell (p := ⟨rb, 5, none⟩) (.inl (by simp)) _).setCell (p := ⟨rb, 6, none⟩) (.inl (by simp)) _
    have hs2 := hsw.out.ch hCh (by simp; exact ⟨fun h => hA.a2 h.symm, fun h => n3 h.symm⟩) (by simp; exact ⟨fun h => hA.a3 h.symm, fun h => n4 h.symm⟩) (by simp; exact ⟨fun h => hA.a6 h.symm, fun h => n5 h.symm⟩)
    rw [hpt'.out]; refine ⟨k, hk0, hkl, by simp; omega, rfl, ⟨v, q, x, -1, _, pre.drop k, tail, q1.drew, ((((h21'.out.far (p := ⟨rb, 2, none⟩) nbr _).far (p := ⟨rb, 5, none⟩) nbr _).far (p := ⟨rb, 6, none⟩) nbr _)).drew, hL, by omega, hq, by simp; omega, ((((by have := hb1'.out.drop k; rwa [hv] at this : Bs w1 bb v (pre.drop k)).far (p := ⟨rb, 2, none⟩) nbr _).far (p := ⟨rb, 5, none⟩) nbr _).far (p := ⟨rb, 6, none⟩) nbr _).drew, hs2.ch ((Ch.refl [] _).drew) (by simp) (by simp) (by simp), by rw [List.drop_append_of_le_length (by omega)]⟩, by rw [← take_min pre tail len k (by rw [hpl]; exact hk)]; exact (((hg1'.out.far (p := ⟨rb, 2, none⟩) n1 _).far (p := ⟨rb, 5, none⟩) n1 _).far (p := ⟨rb, 6, none⟩) n1 _).drew, (hcw.out.trans' hCh (fun y hy => .inl (by simp at hy ⊢; omega))).drew⟩
end Go.Proofs.YtkjgkjmaoebeoaaDoor
