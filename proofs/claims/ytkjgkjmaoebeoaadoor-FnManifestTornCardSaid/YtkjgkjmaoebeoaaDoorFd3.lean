/-
  bufio.Reader.Read where the row is empty and much is asked; and at the end.
-/
import Derived.Test.YtkjgkjmaoebeoaaDoorFd1
namespace Go.Proofs.YtkjgkjmaoebeoaaDoor
open Go Go.RowKit
open Go.Proofs

set_option maxHeartbeats 4000000 in
set_option maxRecDepth 20000 in
/-- The row is empty, and as much as it holds is asked: straight out of the source. -/
theorem fdRead_big (rb bb zb nb db g off len c r0 : Nat) (lb lr : Int) (t : TypeId) (L P : List Value) (l : List UInt8) (w : World) (hA : Apart5 rb bb zb nb db)
    (h1 : Bk w rb 148 (rdCells bb zb r0 r0 .nilIface lb lr)) (h2 : Bk w bb 5 L.toArray) (hL : L.length = 4096) (hr4 : r0 ≤ 4096) (hs : Fr zb nb db l w) (hl : l ≠ [])
    (hg : Bk w g t P.toArray) (hfit : off + len ≤ P.length) (hlen : 4096 ≤ len) (hlen2 : len ≤ 1099511627776) (n1 : g ≠ rb) (n2 : g ≠ bb) (n3 : g ≠ zb) (n4 : g ≠ db) (n5 : g ≠ nb) :
    Calls Tryd.prog 99 #[.pointer (some ⟨rb, 0, none⟩), .slice (some ⟨g, off, none⟩) len c] w fun e w' =>
      ∃ n, 0 < n ∧ n ≤ len ∧ n ≤ l.length ∧ e = .returned (.tuple #[.int .i64 (n : Int), .nilIface]) ∧ Fd rb bb zb nb db (l.drop n) w' ∧ Bk w' g t (splice P off (Lib.byteCells (l.take n))).toArray ∧ Ch [rb, bb, zb, g] w w' := by
  have c0 := h1.cell 0
  have c1 := h1.cell 1
  have c2 := h1.cell 2
  have c3 := h1.cell 3
  have c4 := h1.cell 4
  have f4 := h1.free 4
  simp [rdCells] at c0 c1 c2 c3 c4
  have hll : 0 < l.length := List.length_pos_iff.2 hl
  have hne0 : ¬ ((len : Int) = 0) := by omega
  have hlt : ((4096 : Int) ≤ (len : Int)) := by omega
  obtain ⟨q, hq⟩ : ∃ q, min l.length len = q := ⟨_, rfl⟩
  have hq0 : 0 < q := by omega
  have hql : q ≤ len := by omega
  have hqI : ¬ ((q : Int) < 0) := by omega
  have hqI0 : (0 : Int) < (q : Int) := by omega
  obtain ⟨m, hm⟩ : ∃ m, m + 1 = q := ⟨q - 1, by omega⟩
  have wm : IntKind.i64.wrap ((q : Int) - 1) = (m : Int) := (IntWalk.i64_in _ (by omega)).trans (by omega)
  have hcall := fun nq : Nat => frRead_some zb nb db g off len c t P l (w.drewN nq) (hs.ch ((Ch.refl [] w).drewN nq) (by simp) (by simp) (by simp)) hl (hg.drewN nq) hfit n3 n4 n5 (by omega) hlen2
  rw [hq] at hcall
  have hcall' := fun nq => Lib.hid (hcall nq)
  clear hcall
  have hna : ∀ (W : World), (nilAhead 300 74 (.pointer (some ⟨zb, 0, none⟩)) "Read").run Tryd.prog W = .ok (some false) W := fun _ => by kernel_rfl
  have h1' := Lib.hid h1
  have h2' := Lib.hid h2
  have hs' := Lib.hid hs
  have hg' := Lib.hid hg
  have hl' := Lib.hid hl
  have hq' := Lib.hid hq
  have hm' := Lib.hid hm
  clear hm hq hl hg hs h2 h1
  go_enter Tryd.func99, Tryd.ntmps99
  go_wp2_with fail
  go_quiet (fail)
  go_wp2_with fail
  refine (hcall' nq).out.mono ?_
  rintro e w3 ⟨rfl, hs3, hb3, hc3⟩
  have h13 := (h1'.out.drewN nq).ch hc3 (by simp; exact ⟨hA.a2, fun h => n1 h.symm⟩)
  have h23 := (h2'.out.drewN nq).ch hc3 (by simp; exact ⟨hA.a4, fun h => n2 h.symm⟩)
  have d4 := h13.cell 4
  have g4 := h13.free 4
  have g5 := h13.free 5
  have g6 := h13.free 6
  have d5 := h13.cell 5
  have d6 := h13.cell 6
  simp [rdCells] at d4 d5 d6
  have hq := hq'.out
  have hm := hm'.out
  have hlt2 : m < (l.take len).length := by simp; omega
  obtain ⟨x, hx8, cx⟩ : ∃ x : Nat, x < 256 ∧ w3.cell? ⟨g, off + m, none⟩ = some (.int .u8 (x : Int)) := by
    refine ⟨_, UInt8.toNat_lt ((l.take len)[m]), ?_⟩
    rw [hb3.cell]
    have : (splice P off (Lib.byteCells (l.take len)))[off + m]? = some (.int .u8 (((l.take len)[m]).toNat : Int)) := by
      rw [splice_at _ _ _ _ (by simpa [Lib.byteCells] using hlt2) (by omega)]
      rw [List.getElem?_eq_getElem (by simpa [Lib.byteCells] using hlt2)]
      simp [Lib.byteCells]
    simpa using this
  have wx : IntKind.i64.wrap (x : Int) = (x : Int) := IntWalk.i64_in _ (by omega)
  have hm0 : (0 : Int) ≤ (m : Int) := by omega
  have hm4 : (m : Int) < (len : Int) := by omega
  have ngr : ¬ rb = g := fun h => n1 h.symm
  have ngr2 : ¬ g = rb := n1
  clear hq hm hlt2
  have h13' := Lib.hid h13
  have h23' := Lib.hid h23
  have hb3' := Lib.hid hb3
  have hc3' := Lib.hid hc3
  have hs3' := Lib.hid hs3
  clear hs3 hc3 hb3 h23 h13
  go_wp2_with fail
  refine (readErr_any rb .nilIface _ (by go_simp) (by go_simp)).mono ?_
  rintro e w4 ⟨rfl, rfl⟩
  go_wp2_with fail
  go_ret2
  have hq := hq'.out
  have q1 : Bk ((((w3.setCell ⟨rb, 4, none⟩ .nilIface).setCell ⟨rb, 5, none⟩ (.int .i64 (x : Int))).setCell ⟨rb, 6, none⟩ (.int .i64 (-1))).setCell ⟨rb, 4, none⟩ .nilIface) rb 148 (rdCells bb zb r0 r0 .nilIface x (-1)) := by
    simpa [rdCells] using (((h13'.out.set 4 .nilIface).set 5 (.int .i64 (x : Int))).set 6 (.int .i64 (-1))).set 4 .nilIface
  have hCh : Ch [rb] w3 ((((w3.setCell ⟨rb, 4, none⟩ .nilIface).setCell ⟨rb, 5, none⟩ (.int .i64 (x : Int))).setCell ⟨rb, 6, none⟩ (.int .i64 (-1))).setCell ⟨rb, 4, none⟩ .nilIface) :=
    (((((Ch.refl [rb] w3).setCell (p := ⟨rb, 4, none⟩) (.inl (by simp)) _).setCell (p := ⟨rb, 5, none⟩) (.inl (by simp)) _).setCell (p := ⟨rb, 6, none⟩) (.inl (by simp)) _).setCell (p := ⟨rb, 4, none⟩) (.inl (by simp)) _)
  have nbr : bb ∉ [rb] := by simp; exact fun h => hA.a1 h.symm
  refine ⟨q, hq0, hql, by omega, rfl, ⟨r0, r0, x, -1, L, [], l.drop q, q1, h23'.out.ch hCh nbr, hL, Nat.le_refl _, hr4, by simp, Bs.nil, hs3'.out.ch hCh (by simp; exact fun h => hA.a2 h.symm) (by simp; exact fun h => hA.a3 h.symm) (by simp; exact fun h => hA.a6 h.symm), rfl⟩, ?_, ((((Ch.refl [rb, bb, zb, g] w).drewN nq).trans' hc3'.out (fun y hy => .inl (by simp at hy ⊢; omega))).trans' hCh (fun y hy => .inl (by simp at hy ⊢; omega)))⟩
  have e : l.take len = l.take q := by rw [List.take_eq_take_iff]; omega
  rw [← e]
  exact hb3'.out.ch hCh (by simpa using n1)

set_option maxHeartbeats 4000000 in
set_option maxRecDepth 20000 in
/-- Nothing is left. -/
theorem fdRead_end0 (rb bb zb nb db g off len c r0 : Nat) (lb lr : Int) (t : TypeId) (L P : List Value) (w : World) (hA : Apart5 rb bb zb nb db) (hgl : Gl w)
    (h1 : Bk w rb 148 (rdCells bb zb r0 r0 .nilIface lb lr)) (h2 : Bk w bb 5 L.toArray) (hL : L.length = 4096) (hr4 : r0 ≤ 4096) (hs : Fr zb nb db [] w)
    (hg : Bk w g t P.toArray) (hfit : off + len ≤ P.length) (hlen : 4096 ≤ len) (hlen2 : len ≤ 1099511627776) (n1 : g ≠ rb) (n2 : g ≠ bb) (n3 : g ≠ zb) (n4 : g ≠ db) (n5 : g ≠ nb) (hgG : glN ≤ g) :
    Calls Tryd.prog 99 #[.pointer (some ⟨rb, 0, none⟩), .slice (some ⟨g, off, none⟩) len c] w fun e w' =>
      (∃ a, e = .returned (.tuple #[.int .i64 0, .iface 119 (.pointer (some a))]) ∧ w.cell? ⟨3, 0, none⟩ = some (.iface 119 (.pointer (some a)))) ∧ Fd rb bb zb nb db [] w' ∧ Bk w' g t P.toArray ∧ Ch [rb, bb, zb, g] w w' := by
  have c0 := h1.cell 0
  have c1 := h1.cell 1
  have c2 := h1.cell 2
  have c3 := h1.cell 3
  have c4 := h1.cell 4
  have f4 := h1.free 4
  simp [rdCells] at c0 c1 c2 c3 c4
  have hne0 : ¬ ((len : Int) = 0) := by omega
  have hlt : ((4096 : Int) ≤ (len : Int)) := by omega
  have hcall' := fun nq : Nat => Lib.hid (frRead_end zb nb db g off len c (w.drewN nq) (hs.ch ((Ch.refl [] w).drewN nq) (by simp) (by simp) (by simp)) (hgl.ch ((Ch.refl [] w).drewN nq) (by simp)) P t (hg.drewN nq) (by omega) n3 n4 n5 hgG)
  have h1' := Lib.hid h1
  have h2' := Lib.hid h2
  have hs' := Lib.hid hs
  have hg' := Lib.hid hg
  have hgl' := Lib.hid hgl
  clear hgl hg hs h2 h1
  go_enter Tryd.func99, Tryd.ntmps99
  go_wp2_with fail
  go_quiet (fail)
  go_wp2_with fail
  refine (hcall' nq).out.mono ?_
  rintro e w3 ⟨⟨a, rfl, ha⟩, hs3, hb3, hc3⟩
  have h13 := (h1'.out.drewN nq).ch hc3 (by simp; exact ⟨hA.a2, fun h => n1 h.symm⟩)
  have h23 := (h2'.out.drewN nq).ch hc3 (by simp; exact ⟨hA.a4, fun h => n2 h.symm⟩)
  have d4 := h13.cell 4
  have g4 := h13.free 4
  simp [rdCells] at d4
  have h13' := Lib.hid h13
  have h23' := Lib.hid h23
  have hb3' := Lib.hid hb3
  have hc3' := Lib.hid hc3
  have hs3' := Lib.hid hs3
  have ha' := Lib.hid ha
  clear ha hs3 hc3 hb3 h23 h13
  go_wp2_with fail
  refine (readErr_any rb (.iface 119 (.pointer (some a))) _ (by go_simp) (by go_simp)).mono ?_
  rintro e w4 ⟨rfl, rfl⟩
  go_wp2_with fail
  go_ret2
  have q1 : Bk ((w3.setCell ⟨rb, 4, none⟩ (.iface 119 (.pointer (some a)))).setCell ⟨rb, 4, none⟩ .nilIface) rb 148 (rdCells bb zb r0 r0 .nilIface lb lr) := by
    simpa [rdCells] using (h13'.out.set 4 (.iface 119 (.pointer (some a)))).set 4 .nilIface
  have hCh : Ch [rb] w3 ((w3.setCell ⟨rb, 4, none⟩ (.iface 119 (.pointer (some a)))).setCell ⟨rb, 4, none⟩ .nilIface) :=
    ((Ch.refl [rb] w3).setCell (p := ⟨rb, 4, none⟩) (.inl (by simp)) _).setCell (p := ⟨rb, 4, none⟩) (.inl (by simp)) _
  exact ⟨⟨a, rfl, ha'.out⟩, ⟨r0, r0, lb, lr, L, [], [], q1, h23'.out.ch hCh (by simp; exact fun h => hA.a1 h.symm), hL, Nat.le_refl _, hr4, by simp, Bs.nil, hs3'.out.ch hCh (by simp; exact fun h => hA.a2 h.symm) (by simp; exact fun h => hA.a3 h.symm) (by simp; exact fun h => hA.a6 h.symm), rfl⟩, hb3'.out.ch hCh (by simpa using n1), ((((Ch.refl [rb, bb, zb, g] w).drewN nq).trans' hc3'.out (fun y hy => .inl (by simp at hy ⊢; omega))).trans' hCh (fun y hy => .inl (by simp at hy ⊢; omega)))⟩
end Go.Proofs.YtkjgkjmaoebeoaaDoor
