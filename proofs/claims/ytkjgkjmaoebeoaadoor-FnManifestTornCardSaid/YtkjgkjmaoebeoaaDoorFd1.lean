/-
  Contract of bufio.Reader.Read over a source: what is left is handed out, at least one byte; at the end io.EOF.
-/
import Derived.Test.YtkjgkjmaoebeoaaDoorFdZz
import Derived.Deep.RegionWith
import Derived.WalkSpells
import Derived.Deep.DeepCutAuto
namespace Go.Proofs.YtkjgkjmaoebeoaaDoor
open Go Go.RowKit
open Go.Proofs

/-- A bufio.Reader as cells. -/
def rdCells (bb zb r q : Nat) (ev : Value) (lb lr : Int) : Array Value := #[.slice (some ⟨bb, 0, none⟩) 4096 4096, .iface 74 (.pointer (some ⟨zb, 0, none⟩)), .int .i64 (r : Int), .int .i64 (q : Int), ev, .int .i64 lb, .int .i64 lr]

/-- A bufio.Reader at block rb, its row at bb, over the source at zb, db: these bytes are left. -/
def Fd (rb bb zb nb db : Nat) (l : List UInt8) (w : World) : Prop :=
  ∃ (r q : Nat) (lb lr : Int) (L : List Value) (pre tail : List UInt8), Bk w rb 148 (rdCells bb zb r q .nilIface lb lr) ∧ Bk w bb 5 L.toArray ∧ L.length = 4096 ∧ r ≤ q ∧ q ≤ 4096 ∧ pre.length = q - r ∧ Bs w bb r pre ∧
    Fr zb nb db tail w ∧ l = pre ++ tail

/-- Four blocks apart, none of them a listed variable's. -/
structure Apart5 (rb bb zb nb db : Nat) : Prop where
  a1 : rb ≠ bb
  a2 : rb ≠ zb
  a3 : rb ≠ db
  a4 : bb ≠ zb
  a5 : bb ≠ db
  a6 : rb ≠ nb
  a7 : bb ≠ nb
  g1 : glN ≤ rb
  g2 : glN ≤ bb
  g3 : glN ≤ zb

theorem Fd.ch {S : List Nat} {rb bb zb nb db : Nat} {l : List UInt8} {w w' : World} (h : Fd rb bb zb nb db l w) (hc : Ch S w w') (h1 : rb ∉ S) (h2 : bb ∉ S) (h3 : zb ∉ S) (h4 : db ∉ S) (h5 : nb ∉ S) : Fd rb bb zb nb db l w' := by
  obtain ⟨r, q, lb, lr, L, pre, tail, k1, k2, k3, k4, k5, k6, k7, k8, k9⟩ := h
  exact ⟨r, q, lb, lr, L, pre, tail, k1.ch hc h1, k2.ch hc h2, k3, k4, k5, k6, k7.ch hc h2, k8.ch hc h3 h4 h5, k9⟩


set_option maxHeartbeats 400000 in
theorem readErr_any (rb : Nat) (ev : Value) (w : World) (h : w.cell? ⟨rb, 4, none⟩ = some ev) (hf : w.frozen? ⟨rb, 4, none⟩ = false) :
    Calls Tryd.prog 102 #[.pointer (some ⟨rb, 0, none⟩)] w fun e w' => e = .returned ev ∧ w.setCell ⟨rb, 4, none⟩ .nilIface = w' := by
  go_enter Tryd.func102, Tryd.ntmps102
  go_wp2_with fail
  go_ret
  exact ⟨rfl, rfl⟩


theorem take_min (pre tail : List UInt8) (len k : Nat) (h : min pre.length len = k) : pre.take len = (pre ++ tail).take k := by
  rw [List.take_append_of_le_length (by omega), ← h, List.take_eq_take_iff.2]
  omega

set_option maxHeartbeats 4000000 in
set_option maxRecDepth 20000 in
/-- Out of what stands in the row. -/
theorem fdRead_buf (rb bb zb nb db g off len c r q : Nat) (lb lr : Int) (t : TypeId) (L P : List Value) (pre tail : List UInt8) (w : World) (hA : Apart5 rb bb zb nb db)
    (h1 : Bk w rb 148 (rdCells bb zb r q .nilIface lb lr)) (h2 : Bk w bb 5 L.toArray) (hL : L.length = 4096) (hrq : r < q) (hq : q ≤ 4096) (hpl : pre.length = q - r) (hb : Bs w bb r pre) (hs : Fr zb nb db tail w)
    (hg : Bk w g t P.toArray) (hfit : off + len ≤ P.length) (hlen : 0 < len) (hlen2 : len ≤ 1099511627776) (n1 : g ≠ rb) (n2 : g ≠ bb) (n3 : g ≠ zb) (n4 : g ≠ db) (n5 : g ≠ nb) :
    Calls Tryd.prog 99 #[.pointer (some ⟨rb, 0, none⟩), .slice (some ⟨g, off, none⟩) len c] w fun e w' =>
      ∃ n, 0 < n ∧ n ≤ len ∧ n ≤ (pre ++ tail).length ∧ e = .returned (.tuple #[.int .i64 (n : Int), .nilIface]) ∧ Fd rb bb zb nb db ((pre ++ tail).drop n) w' ∧ Bk w' g t (splice P off (Lib.byteCells ((pre ++ tail).take n))).toArray ∧ Ch [rb, bb, zb, g] w w' := by
  have c0 := h1.cell 0
  have c2 := h1.cell 2
  have c3 := h1.cell 3
  have f2 := h1.free 2
  have f5 := h1.free 5
  have f6 := h1.free 6
  simp [rdCells] at c0 c2 c3
  obtain ⟨k, hk⟩ : ∃ k, min (q - r) len = k := ⟨_, rfl⟩
  have hk0 : 0 < k := by omega
  have hkl : k ≤ len := by omega
  have hkq : r + k ≤ q := by omega
  have hne : ¬ ((r : Int) = (q : Int)) := by omega
  have hne0 : ¬ ((len : Int) = 0) := by omega
  have hr4 : ¬ 4096 = r := by omega
  have s1 : r ≤ q := by omega
  have s2 : (r : Int) ≤ (q : Int) := by omega
  have s3 : (q : Int) ≤ 4096 := by omega
  obtain ⟨v, hv⟩ : ∃ v, r + k = v := ⟨_, rfl⟩
  obtain ⟨m, hm⟩ : ∃ m, m + 1 = v := ⟨v - 1, by omega⟩
  have wv : IntKind.i64.wrap ((r : Int) + (k : Int)) = (v : Int) := (IntWalk.i64_in _ (by omega)).trans (by omega)
  have wm : IntKind.i64.wrap ((v : Int) - 1) = (m : Int) := (IntWalk.i64_in _ (by omega)).trans (by omega)
  have h1' := Lib.hid h1
  have h2' := Lib.hid h2
  have hs' := Lib.hid hs
  have hb' := Lib.hid hb
  have hg' := Lib.hid hg
  have hk' := Lib.hid hk
  have hv' := Lib.hid hv
  have hm' := Lib.hid hm
  have hpl' := Lib.hid hpl
  clear hpl hm hv hk hg hb hs h2 h1
  go_enter Tryd.func99, Tryd.ntmps99
  go_wp2_with fail
  go_quiet (fail)
  go_wp2_with fail
  have h1w := Lib.hid (h1'.out.drewN nq)
  have h2w := Lib.hid (h2'.out.drewN nq)
  have hbw := Lib.hid (hb'.out.drewN nq)
  have hgw := Lib.hid (hg'.out.drewN nq)
  have hsw := Lib.hid (hs'.out.ch ((Ch.refl [] w).drewN nq) (by simp) (by simp) (by simp))
  have hcw := Lib.hid ((Ch.refl [rb, bb, zb, g] w).drewN nq)
  have c0 := h1w.out.cell 0
  have c2 := h1w.out.cell 2
  have c3 := h1w.out.cell 3
  simp only [rdCells] at c0 c2 c3
  generalize w.drewN nq = W at *
  have h11 := h1w.out.drew
  have hx : m - r < pre.length := by have := hpl'.out; have := hm'.out; have := hv'.out; omega
  refine wp_tail 14 (by kernel_rfl) (by kernel_rfl) ?_
  simp only [List.take_succ_cons, List.take_zero, List.drop_succ_cons, List.drop_zero]
  repeat still_step
  refine wpStill_nil ?_
  refine wpList_copyK rfl (.tmp 109) (.tmp 122) 42 42 rfl 5 Tryd.underlying42 (by kernel_rfl) g off len c rfl (some ⟨bb, r, none⟩) (q - r) _ rfl pre (Src.drew (w := W) ⟨hpl'.out, fun _ => ⟨bb, r, rfl, hbw.out⟩⟩) P t hgw.out.drew k hk'.out (by omega) ?_
  intro w1 hg1 hc1
  have h11 := h1w.out.drew.ch hc1 (by simp; omega)
  have h21 := h2w.out.drew.ch hc1 (by simp; omega)
  have hb1 := hbw.out.drew.ch hc1 (by simp; omega)
  have c0 := h11.cell 0
  have c2 := h11.cell 2
  have f2 := h11.free 2
  have f5 := h11.free 5
  have f6 := h11.free 6
  have c5 := h11.cell 5
  have c6 := h11.cell 6
  simp [rdCells] at c0 c2 c5 c6
  obtain ⟨x, hx8, cx⟩ : ∃ x : Nat, x < 256 ∧ w1.cell? ⟨bb, m, none⟩ = some (.int .u8 (x : Int)) := by
    have h9 := hb1.get hx
    rw [show r + (m - r) = m by have := hm'.out; have := hv'.out; omega] at h9
    exact ⟨_, UInt8.toNat_lt _, h9⟩
  have wx : IntKind.i64.wrap (x : Int) = (x : Int) := IntWalk.i64_in _ (by omega)
  have hm0 : (0 : Int) ≤ (m : Int) := by omega
  have hm4 : (m : Int) < 4096 := by have := hm'.out; have := hv'.out; omega
  have hm5 : m < 4096 := by omega
  have nrb := hA.a1
  have nbr : ¬ bb = rb := fun h => nrb h.symm
  have h11' := Lib.hid h11
  have h21' := Lib.hid h21
  have hb1' := Lib.hid hb1
  have hg1' := Lib.hid hg1
  have hc1' := Lib.hid hc1
  clear hc1 hg1 hb1 h21 h11
  clear hx
  go_wp2_with fail
  refine wp_tail 15 (by kernel_rfl) (by kernel_rfl) ?_
  simp only [List.take_succ_cons, List.take_zero, List.drop_succ_cons, List.drop_zero]
  repeat still_step
  refine wpStill_nil ?_
  go_wp2_with fail
  go_ret2
  have hv := hv'.out
  have hpl := hpl'.out
  have hk := hk'.out
  have q1 : Bk (((w1.setCell ⟨rb, 2, none⟩ (.int .i64 (v : Int))).setCell ⟨rb, 5, none⟩ (.int .i64 (x : Int))).setCell ⟨rb, 6, none⟩ (.int .i64 (-1))) rb 148 (rdCells bb zb v q .nilIface x (-1)) := by
    simpa [rdCells] using ((h11'.out.set 2 (.int .i64 (v : Int))).set 5 (.int .i64 (x : Int))).set 6 (.int .i64 (-1))
  have hCh : Ch [rb, g] W (((w1.setCell ⟨rb, 2, none⟩ (.int .i64 (v : Int))).setCell ⟨rb, 5, none⟩ (.int .i64 (x : Int))).setCell ⟨rb, 6, none⟩ (.int .i64 (-1))) :=
    (((((Ch.refl [rb, g] W).drew).trans' hc1'.out (fun y hy => .inl (by simp at hy; simp [hy]))).setCell (p := ⟨rb, 2, none⟩) (.inl (by simp)) _).setCell (p := ⟨rb, 5, none⟩) (.inl (by simp)) _).setCell (p := ⟨rb, 6, none⟩) (.inl (by simp)) _
  have hs2 := hsw.out.ch hCh (by simp; exact ⟨fun h => hA.a2 h.symm, fun h => n3 h.symm⟩) (by simp; exact ⟨fun h => hA.a3 h.symm, fun h => n4 h.symm⟩) (by simp; exact ⟨fun h => hA.a6 h.symm, fun h => n5 h.symm⟩)
  refine ⟨k, hk0, hkl, by simp; omega, rfl, ⟨v, q, x, -1, _, pre.drop k, tail, q1.drew, ((((h21'.out.far (p := ⟨rb, 2, none⟩) nbr _).far (p := ⟨rb, 5, none⟩) nbr _).far (p := ⟨rb, 6, none⟩) nbr _)).drew, hL, by omega, hq, by simp; omega, ((((by have := hb1'.out.drop k; rwa [hv] at this : Bs w1 bb v (pre.drop k)).far (p := ⟨rb, 2, none⟩) nbr _).far (p := ⟨rb, 5, none⟩) nbr _).far (p := ⟨rb, 6, none⟩) nbr _).drew, hs2.ch ((Ch.refl [] _).drew) (by simp) (by simp) (by simp), by rw [List.drop_append_of_le_length (by omega)]⟩, by rw [← take_min pre tail len k (by rw [hpl]; exact hk)]; exact (((hg1'.out.far (p := ⟨rb, 2, none⟩) n1 _).far (p := ⟨rb, 5, none⟩) n1 _).far (p := ⟨rb, 6, none⟩) n1 _).drew, (hcw.out.trans' hCh (fun y hy => .inl (by simp at hy ⊢; omega))).drew⟩
end Go.Proofs.YtkjgkjmaoebeoaaDoor
