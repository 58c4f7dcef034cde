/-
  Small contracts that reading a manifest calls: File.Stat, Info.Size, createManifest, bufio.NewReader over a file, the numbers of two and four bytes.
-/
import Derived.Test.YtkjgkjmaoebeoaaDoorMop
import Derived.Test.YtkjgkjmaoebeoaaDoorShelf
namespace Go.Proofs.YtkjgkjmaoebeoaaDoor
open Go Go.RowKit
open Go.Proofs

theorem u8row : (Tryd.prog.info? 5).map (fun i => (i.zero, i.size, i.bytes)) = some (some (.int .u8 0), 1, 1) := by kernel_rfl

theorem made_bytes (n : Nat) : madeCells #[Value.int .u8 0] n = (List.replicate n (Value.int .u8 0)).toArray := by
  apply Array.ext'
  rw [toList_madeCells_one]
/-- 'make([]byte, n)' at a size of whatever spelling. -/
theorem run_mkB (k1 k2 : IntKind) (N : Nat) (z : Int) (hz : z = (N : Int)) (hN : N ≤ 281474976710656) (W : World) :
    (Instr.makeSlice 42 (.int k1 z) (.int k2 z)).run Tryd.prog W = .ok (.slice (some ⟨W.heap.size, 0, none⟩) N N) (W.alloc (.cells (List.replicate N (Value.int .u8 0)).toArray 5)) := by
  subst hz
  obtain ⟨i0, hi, hz0, hz1, hz2⟩ := info_parts u8row
  have h := run_make_rowN (P := Tryd.prog) 42 5 i0 (.int .u8 0) Tryd.underlying42 hi hz0 k1 k2 N N (by omega) (by rw [hz2]; omega) (by omega) W
  rw [hz1, Nat.mul_one] at h
  rw [← made_bytes]
  exact h

def zeros4096 : List Value := List.replicate 4096 (Value.int .u8 0)
theorem zeros4096_length : zeros4096.length = 4096 := List.length_replicate

set_option maxHeartbeats 4000000 in
set_option maxRecDepth 20000 in
theorem bufioNew_any (zb : Nat) (w : World) :
    Calls Tryd.prog 28 #[.iface 74 (.pointer (some ⟨zb, 0, none⟩))] w fun e w' => e = .returned (.pointer (some ⟨w.heap.size, 0, none⟩)) ∧
      Bk w' w.heap.size 148 (rdCells (w.heap.size + 1) zb 0 0 .nilIface (-1) (-1)) ∧ Bk w' (w.heap.size + 1) 5 zeros4096.toArray ∧ Ch [] w w' := by
  have hta : ∀ (W : World), (Instr.typeAssert (.iface 74 (.pointer (some ⟨zb, 0, none⟩))) 115 87 true).run Tryd.prog W = .ok (.tuple #[.pointer none, .bool false]) W := fun _ => by kernel_rfl
  have hmk : ∀ W : World, (Instr.makeSlice 42 (.int .i64 (max 4096 16)) (.int .i64 (max 4096 16))).run Tryd.prog W = .ok (.slice (some ⟨W.heap.size, 0, none⟩) 4096 4096) (W.alloc (.cells zeros4096.toArray 5)) := run_mkB .i64 .i64 4096 (max 4096 16) (by decide) (by omega)
  go_enter Tryd.func28, Tryd.ntmps28
  go_wp2_with fail
  go_in
  go_wp2_with fail
  go_in
  go_wp2_with fail
  go_ret
  refine ⟨rfl, (Bk.at_ w _ _ _ rfl).alloc _, Bk.at_ _ _ _ _ (by simp), ((Ch.refl [] w).alloc _).alloc _⟩

set_option maxHeartbeats 1000000 in
theorem errNew_any (s : ByteArray) (w : World) :
    Calls Tryd.prog 31 #[.string s] w fun e w' => e = .returned (.iface 119 (.pointer (some ⟨w.heap.size, 0, none⟩))) ∧ Ch [] w w' := by
  go_enter Tryd.func31, Tryd.ntmps31
  go_wp2_with fail
  go_ret
  exact ⟨rfl, (Ch.refl [] w).alloc _⟩

set_option maxHeartbeats 1000000 in
theorem stat_any (fb nb : Nat) (D P : Value) (w : World) (h : Bk w fb 86 #[D, .pointer (some ⟨nb, 0, none⟩), P]) :
    Calls Tryd.prog 32 #[.pointer (some ⟨fb, 0, none⟩)] w fun e w' => e = .returned (.tuple #[.agg #[.pointer (some ⟨nb, 0, none⟩)], .nilIface]) ∧ Ch [] w w' := by
  have c1 := h.cell 1
  simp at c1
  have hl := h.lt
  go_enter Tryd.func32, Tryd.ntmps32
  go_wp2_with fail
  refine bodyPost_ret (v := .tuple #[.agg #[.pointer (some ⟨nb, 0, none⟩)], .nilIface]) (by simp [results, Tryd.results32, go_sem]) rfl ?_
  exact ⟨rfl, (Ch.refl [] w).alloc _⟩

set_option maxHeartbeats 1000000 in
theorem size_any (nb n c : Nat) (A : Option Addr) (N Y M : Value) (w : World) (h : Bk w nb 73 #[N, .slice A n c, Y, M]) :
    Calls Tryd.prog 35 #[.agg #[.pointer (some ⟨nb, 0, none⟩)]] w fun e w' => e = .returned (.int .i64 (n : Int)) ∧ Ch [] w w' := by
  have c1 := h.cell 1
  simp at c1
  have hl := h.lt
  go_enter Tryd.func35, Tryd.ntmps35
  go_wp2_with fail
  go_ret
  exact ⟨rfl, (Ch.refl [] w).alloc _⟩

theorem lvrow : (Tryd.prog.info? 156).map (fun i => (i.zero, i.size, i.bytes)) = some (some (.agg #[.map none]), 1, 8) := by kernel_rfl
theorem run_mkLv (W : World) : (Instr.makeSlice 54 (.int .i64 0) (.int .i64 0)).run Tryd.prog W = .ok (.slice (some ⟨W.heap.size, 0, none⟩) 0 0) (W.alloc (.cells #[] 156)) := by
  obtain ⟨i0, hi, hz0, hz1, hz2⟩ := info_parts lvrow
  have h := run_make_rowN (P := Tryd.prog) 54 156 i0 _ Tryd.underlying54 hi hz0 .i64 .i64 0 0 (by omega) (by rw [hz2]; omega) (by omega) W
  rw [hz1, show madeCells (Value.agg #[Value.map none]).cells (0 * 1) = #[] from by simp [madeCells]] at h
  exact h

set_option maxHeartbeats 1000000 in
set_option maxRecDepth 20000 in
theorem created_any (w : World) :
    Calls Tryd.prog 33 #[] w fun e w' => ∃ lb tb, e = .returned (.agg #[.slice (some ⟨lb, 0, none⟩) 0 0, .map (some tb), .int .i64 0, .int .i64 0]) ∧
      Bk w' lb 156 #[] ∧ TabAt w' tb (fun _ => none) 0 ∧ w.heap.size ≤ lb ∧ w.heap.size ≤ tb ∧ Ch [] w w' := by
  have hmk := run_mkLv
  have hmm := @run_makeMap Tryd.prog
  go_enter Tryd.func33, Tryd.ntmps33
  go_wp2_with fail
  refine bodyPost_ret (v := .agg #[.slice (some ⟨w.heap.size + 1, 0, none⟩) 0 0, .map (some (w.heap.size + 2)), .int .i64 0, .int .i64 0]) (by simp [results, Tryd.results33, go_sem]) rfl ?_
  exact ⟨_, _, rfl, (Bk.at_ _ _ _ _ (by simp)).alloc _, by simpa using TabAt.made ((w.alloc (.cells #[.slice (some ⟨w.heap.size + 1, 0, none⟩) 0 0, .map (some (w.heap.size + 1 + 1)), .int .i64 0, .int .i64 0] 57)).alloc (.cells #[] 156)), by omega, by omega, (((Ch.refl [] w).alloc _).alloc _).alloc _⟩

set_option maxHeartbeats 1000000 in
theorem bytesToU32_any (g o c : Nat) (q : List UInt8) (w : World) (h : Bs w g o q) (hq : q.length = 4) :
    Calls Tryd.prog 34 #[.slice (some ⟨g, o, none⟩) 4 c] w fun e w' => e = .returned (.int .u32 (Lib.beNat q : Nat)) ∧ Below w.heap.size w w' := by
  match q, hq with
  | [b0, b1, b2, b3], _ =>
    have h0 := h 0 (by simp)
    have h1 := h 1 (by simp)
    have h2 := h 2 (by simp)
    have h3 := h 3 (by simp)
    have hcall := Lib.hid (Tryd.binary_BE_Uint32 g o 4 c b0 b1 b2 b3 w (Nat.le_refl _) h0 h1 h2 h3)
    clear h h0 h1 h2 h3
    go_enter Tryd.func34, Tryd.ntmps34
    go_wp2_with fail
    refine hcall.out.mono ?_
    rintro e w1 ⟨rfl, hb⟩
    have hb' := Lib.hid hb
    clear hb
    go_wp2_with fail
    go_ret
    exact ⟨rfl, hb'.out⟩

set_option maxHeartbeats 1000000 in
theorem bytesToU16_any (g o c : Nat) (q : List UInt8) (w : World) (h : Bs w g o q) (hq : q.length = 2) :
    Calls Tryd.prog 30 #[.slice (some ⟨g, o, none⟩) 2 c] w fun e w' => e = .returned (.int .u16 (Lib.beNat q : Nat)) ∧ Below w.heap.size w w' := by
  match q, hq with
  | [b0, b1], _ =>
    have h0 := h 0 (by simp)
    have h1 := h 1 (by simp)
    have hcall := Lib.hid (Tryd.binary_BE_Uint16 g o 2 c b0 b1 w (Nat.le_refl _) h0 h1)
    clear h h0 h1
    go_enter Tryd.func30, Tryd.ntmps30
    go_wp2_with fail
    refine hcall.out.mono ?_
    rintro e w1 ⟨rfl, hb⟩
    have hb' := Lib.hid hb
    clear hb
    go_wp2_with fail
    go_ret
    exact ⟨rfl, hb'.out⟩
end Go.Proofs.YtkjgkjmaoebeoaaDoor
