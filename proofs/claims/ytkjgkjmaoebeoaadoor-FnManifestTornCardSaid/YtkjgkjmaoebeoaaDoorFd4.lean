/-
  bufio.Reader.Read, whatever is left and whatever is asked.
-/
import Derived.Test.YtkjgkjmaoebeoaaDoorFd2
import Derived.Test.YtkjgkjmaoebeoaaDoorFd3
namespace Go.Proofs.YtkjgkjmaoebeoaaDoor
open Go Go.RowKit
open Go.Proofs

set_option maxHeartbeats 4000000 in
set_option maxRecDepth 20000 in
theorem fdRead_end1 (rb bb zb nb db g off len c r0 : Nat) (lb lr : Int) (t : TypeId) (L P : List Value) (w : World) (hA : Apart5 rb bb zb nb db) (hgl : Gl w)
    (h1 : Bk w rb 148 (rdCells bb zb r0 r0 .nilIface lb lr)) (h2 : Bk w bb 5 L.toArray) (hL : L.length = 4096) (hs : Fr zb nb db [] w)
    (hg : Bk w g t P.toArray) (hlen : 0 < len) (hlen2 : len < 4096) (n1 : g ≠ rb) (n2 : g ≠ bb) (n3 : g ≠ zb) (_n4 : g ≠ db) (_n5 : g ≠ nb) :
    Calls Tryd.prog 99 #[.pointer (some ⟨rb, 0, none⟩), .slice (some ⟨g, off, none⟩) len c] w fun e w' =>
      (∃ a, e = .returned (.tuple #[.int .i64 0, .iface 119 (.pointer (some a))]) ∧ w.cell? ⟨3, 0, none⟩ = some (.iface 119 (.pointer (some a)))) ∧ Fd rb bb zb nb db [] w' ∧ Bk w' g t P.toArray ∧ Ch [rb, bb, zb, g] w w' := by
  have c0 := h1.cell 0
  have c1 := h1.cell 1
  have c2 := h1.cell 2
  have c3 := h1.cell 3
  have c4 := h1.cell 4
  have f2 := h1.free 2
  have f3 := h1.free 3
  simp [rdCells] at c0 c1 c2 c3 c4
  have hne0 : ¬ ((len : Int) = 0) := by omega
  have hlt : ¬ ((4096 : Int) ≤ (len : Int)) := by omega
  have h1' := Lib.hid h1
  have h2' := Lib.hid h2
  have hs' := Lib.hid hs
  have hg' := Lib.hid hg
  have hgl' := Lib.hid hgl
  clear hgl hg hs h2 h1
  go_enter Tryd.func99, Tryd.ntmps99
  go_wp2_with fail
  go_quiet (fail)
  go_upto_region 19 with fail
  have h1w := ((h1'.out.drewN nq).set 2 (.int .i64 0)).set 3 (.int .i64 0)
  have h2w := ((h2'.out.drewN nq).far (p := ⟨rb, 2, none⟩) (fun h => hA.a1 h.symm) (.int .i64 0)).far (p := ⟨rb, 3, none⟩) (fun h => hA.a1 h.symm) (.int .i64 0)
  have hgw := ((hg'.out.drewN nq).far (p := ⟨rb, 2, none⟩) n1 (.int .i64 0)).far (p := ⟨rb, 3, none⟩) n1 (.int .i64 0)
  have hcw : Ch [rb] w (((w.drewN nq).setCell ⟨rb, 2, none⟩ (.int .i64 0)).setCell ⟨rb, 3, none⟩ (.int .i64 0)) := (((Ch.refl [rb] w).drewN nq).setCell (p := ⟨rb, 2, none⟩) (.inl (by simp)) _).setCell (p := ⟨rb, 3, none⟩) (.inl (by simp)) _
  have hsw := hs'.out.ch hcw (by simp; exact fun h => hA.a2 h.symm) (by simp; exact fun h => hA.a3 h.symm) (by simp; exact fun h => hA.a6 h.symm)
  have hglw := hgl'.out.ch hcw (by simp; exact hA.g1)
  have hEw : ∀ a, (((w.drewN nq).setCell ⟨rb, 2, none⟩ (.int .i64 0)).setCell ⟨rb, 3, none⟩ (.int .i64 0)).cell? ⟨3, 0, none⟩ = some a → w.cell? ⟨3, 0, none⟩ = some a := fun a h => by
    have hg1 := hA.g1
    unfold glN at hg1
    rwa [hcw.cell 0 hgl'.out.eof.lt (by simp; omega)] at h
  generalize ((w.drewN nq).setCell ⟨rb, 2, none⟩ (.int .i64 0)).setCell ⟨rb, 3, none⟩ (.int .i64 0) = W at *
  have c0 := h1w.cell 0
  have c1 := h1w.cell 1
  have c2 := h1w.cell 2
  have c3 := h1w.cell 3
  have c4 := h1w.cell 4
  have f4 := h1w.free 4
  simp [rdCells] at c0 c1 c2 c3 c4
  have hcall := frRead_end zb nb db bb 0 4096 4096 W.drew (hsw.ch ((Ch.refl [] W).drew) (by simp) (by simp) (by simp)) (hglw.ch ((Ch.refl [] W).drew) (by simp)) L 5 h2w.drew (by omega) hA.a4 hA.a5 hA.a7 hA.g2
  have hcall' := Lib.hid hcall
  have hEw' := Lib.hid hEw
  clear hcall hEw
  have h1w' := Lib.hid h1w
  have h2w' := Lib.hid h2w
  have hgw' := Lib.hid hgw
  have hcw' := Lib.hid hcw
  have hsw' := Lib.hid hsw
  have hglw' := Lib.hid hglw
  clear hglw hsw hcw hgw h2w h1w
  go_cut [4] (fun s4 wx => s4 = .int .i64 0 ∧ ∃ a, w.cell? ⟨3, 0, none⟩ = some (.iface 119 (.pointer (some a))) ∧ Bk wx rb 148 (rdCells bb zb 0 0 (.iface 119 (.pointer (some a))) lb lr) ∧ Bk wx bb 5 L.toArray ∧ Fr zb nb db [] wx ∧ Ch [rb, bb, zb] W wx)
  case first =>
    go_region_with (go_at_call 97; refine hcall'.out.mono ?_; rintro e w3 ⟨⟨a, rfl, ha⟩, hs3, hb3, hc3⟩; have h13 := h1w'.out.drew.ch hc3 (by simp; exact ⟨hA.a2, hA.a1⟩); have d4 := h13.cell 4; have g4 := h13.free 4; simp [rdCells] at d4; have ha' := Lib.hid ha; clear ha)
    all_goals
      go_wp2_with fail
      go_meet
      have e4 := h13.set 4 (.iface 119 (.pointer (some a)))
      simp [rdCells] at e4
      exact ⟨rfl, a, hEw'.out _ ha'.out, by simpa [rdCells] using e4, hb3.far (p := ⟨rb, 4, none⟩) (fun h => hA.a1 h.symm) _, hs3.ch (S := [rb]) ((Ch.refl [rb] _).setCell (p := ⟨rb, 4, none⟩) (.inl (by simp)) _) (by simp; exact fun h => hA.a2 h.symm) (by simp; exact fun h => hA.a3 h.symm) (by simp; exact fun h => hA.a6 h.symm),
        (((Ch.refl [rb, bb, zb] W).drew).trans' hc3 (fun y hy => .inl (by simp at hy ⊢; omega))).setCell (p := ⟨rb, 4, none⟩) (.inl (by simp)) _⟩
  case rest =>
    obtain ⟨rfl, a, ha, h1x, h2x, hsx, hcx⟩ := hcut
    have d4 := h1x.cell 4
    have g4 := h1x.free 4
    simp [rdCells] at d4
    clear c0 c1 c2 c3 c4 f2 f3 f4
    have h1x' := Lib.hid h1x
    have h2x' := Lib.hid h2x
    have hsx' := Lib.hid hsx
    have hcx' := Lib.hid hcx
    have ha' := Lib.hid ha
    clear ha hcx hsx h2x h1x
    go_wp2_with fail
    refine (readErr_any rb (.iface 119 (.pointer (some a))) _ (by go_simp) (by go_simp)).mono ?_
    rintro e w4 ⟨rfl, rfl⟩
    go_wp2_with fail
    go_ret2
    have q1 : Bk (wc.setCell ⟨rb, 4, none⟩ .nilIface) rb 148 (rdCells bb zb 0 0 .nilIface lb lr) := by
      simpa [rdCells] using h1x'.out.set 4 .nilIface
    have hCh : Ch [rb] wc (wc.setCell ⟨rb, 4, none⟩ .nilIface) := (Ch.refl [rb] wc).setCell (p := ⟨rb, 4, none⟩) (.inl (by simp)) _
    have hgx := hgw'.out.ch hcx'.out (by simp; exact ⟨n1, n2, n3⟩)
    exact ⟨⟨a, rfl, ha'.out⟩, ⟨0, 0, lb, lr, L, [], [], q1, h2x'.out.ch hCh (by simp; exact fun h => hA.a1 h.symm), hL, Nat.le_refl _, by omega, by simp, Bs.nil, hsx'.out.ch hCh (by simp; exact fun h => hA.a2 h.symm) (by simp; exact fun h => hA.a3 h.symm) (by simp; exact fun h => hA.a6 h.symm), rfl⟩, hgx.ch hCh (by simpa using n1), (((hcw'.out.mono (S' := [rb, bb, zb, g]) (fun y hy => .inl (by simp at hy ⊢; omega))).trans' hcx'.out (fun y hy => .inl (by simp at hy ⊢; omega))).trans' hCh (fun y hy => .inl (by simp at hy ⊢; omega)))⟩

/-- Some bytes are left. -/
theorem fdRead_some (rb bb zb nb db g off len c : Nat) (t : TypeId) (P : List Value) (l : List UInt8) (w : World) (hA : Apart5 rb bb zb nb db) (hr : Fd rb bb zb nb db l w) (hl : l ≠ [])
    (hg : Bk w g t P.toArray) (hfit : off + len ≤ P.length) (hlen : 0 < len) (hlen2 : len ≤ 1099511627776) (n1 : g ≠ rb) (n2 : g ≠ bb) (n3 : g ≠ zb) (n4 : g ≠ db) (n5 : g ≠ nb) :
    Calls Tryd.prog 99 #[.pointer (some ⟨rb, 0, none⟩), .slice (some ⟨g, off, none⟩) len c] w fun e w' =>
      ∃ n, 0 < n ∧ n ≤ len ∧ n ≤ l.length ∧ e = .returned (.tuple #[.int .i64 (n : Int), .nilIface]) ∧ Fd rb bb zb nb db (l.drop n) w' ∧ Bk w' g t (splice P off (Lib.byteCells (l.take n))).toArray ∧ Ch [rb, bb, zb, g] w w' := by
  obtain ⟨r, q, lb, lr, L, pre, tail, h1, h2, h3, h4, h5, h6, h7, h8, rfl⟩ := hr
  by_cases hrq : r < q
  · exact fdRead_buf rb bb zb nb db g off len c r q lb lr t L P pre tail w hA h1 h2 h3 hrq h5 h6 h7 h8 hg hfit hlen hlen2 n1 n2 n3 n4 n5
  · obtain rfl : r = q := by omega
    obtain rfl : pre = [] := List.eq_nil_of_length_eq_zero (by omega)
    rw [List.nil_append] at *
    by_cases hb : len < 4096
    · exact fdRead_fill rb bb zb nb db g off len c r lb lr t L P tail w hA h1 h2 h3 h8 hl hg hfit hlen hb n1 n2 n3 n4 n5
    · exact fdRead_big rb bb zb nb db g off len c r lb lr t L P tail w hA h1 h2 h3 h5 h8 hl hg hfit (by omega) hlen2 n1 n2 n3 n4 n5

/-- Nothing is left: io.EOF. -/
theorem fdRead_end (rb bb zb nb db g off len c : Nat) (t : TypeId) (P : List Value) (w : World) (hA : Apart5 rb bb zb nb db) (hgl : Gl w) (hr : Fd rb bb zb nb db [] w)
    (hg : Bk w g t P.toArray) (hfit : off + len ≤ P.length) (hlen : 0 < len) (hlen2 : len ≤ 1099511627776) (n1 : g ≠ rb) (n2 : g ≠ bb) (n3 : g ≠ zb) (n4 : g ≠ db) (n5 : g ≠ nb) (hgG : glN ≤ g) :
    Calls Tryd.prog 99 #[.pointer (some ⟨rb, 0, none⟩), .slice (some ⟨g, off, none⟩) len c] w fun e w' =>
      (∃ a, e = .returned (.tuple #[.int .i64 0, .iface 119 (.pointer (some a))]) ∧ w.cell? ⟨3, 0, none⟩ = some (.iface 119 (.pointer (some a)))) ∧ Fd rb bb zb nb db [] w' ∧ Bk w' g t P.toArray ∧ Ch [rb, bb, zb, g] w w' := by
  obtain ⟨r, q, lb, lr, L, pre, tail, h1, h2, h3, h4, h5, h6, h7, h8, h9⟩ := hr
  obtain ⟨rfl, rfl⟩ := List.append_eq_nil_iff.1 h9.symm
  obtain rfl : r = q := by simp at h6; omega
  by_cases hb : len < 4096
  · exact fdRead_end1 rb bb zb nb db g off len c r lb lr t L P w hA hgl h1 h2 h3 h8 hg hlen hb n1 n2 n3 n4 n5
  · exact fdRead_end0 rb bb zb nb db g off len c r lb lr t L P w hA hgl h1 h2 h3 h5 h8 hg hfit (by omega) hlen2 n1 n2 n3 n4 n5 hgG
end Go.Proofs.YtkjgkjmaoebeoaaDoor
