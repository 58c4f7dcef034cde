/-
  Contracts of what is made ahead of a log's loop: MmapFile.NewReader, bufio.NewReader; Entry.isZero.
-/
import Derived.Test.YtpndlcjilgcfkaaGreatDoorEntry
namespace Go.Proofs.YtpndlcjilgcfkaaGreatDoor
open Go Go.RowKit
open Go.Proofs

set_option maxHeartbeats 1000000 in
theorem newReader_any (mb db n c : Nat) (fd : Value) (p : Nat) (w : World) (h : Bk w mb 123 #[.slice (some ⟨db, 0, none⟩) n c, fd]) :
    Calls Tryz.prog 54 #[.pointer (some ⟨mb, 0, none⟩), .int .i64 (p : Int)] w fun e w' => e = .returned (.iface 170 (.pointer (some ⟨w.heap.size, 0, none⟩))) ∧ w.alloc (.cells #[.slice (some ⟨db, 0, none⟩) n c, .int .i64 (p : Int)] 172) = w' := by
  have c0 := h.cell 0
  simp at c0
  go_enter Tryz.func54, Tryz.ntmps54
  go_wp2_with fail
  go_ret
  exact ⟨rfl, rfl⟩

set_option maxHeartbeats 1000000 in
theorem isZero_any (eb : Nat) (A1 : Option Addr) (k c1 : Nat) (V : Value) (x off um m hl : Nat) (w : World) (h : Bk w eb 64 (entC (.slice A1 k c1) V x off um m hl)) :
    Calls Tryz.prog 56 #[.pointer (some ⟨eb, 0, none⟩)] w fun e w' => e = .returned (.bool (decide (k = 0))) ∧ w = w' := by
  have c0 := h.cell 0
  simp [entC] at c0
  by_cases hk : k = 0
  · subst hk
    go_enter Tryz.func56, Tryz.ntmps56
    go_wp2_with fail
    go_ret
    exact ⟨rfl, rfl⟩
  · have hd : decide (k = 0) = false := by simpa using hk
    have hkI : ¬ ((k : Int) = 0) := by omega
    rw [hd]
    clear hd
    go_enter Tryz.func56, Tryz.ntmps56
    go_wp2_with fail
    go_ret
    exact ⟨by simp; omega, rfl⟩

def zeros4096 : List Value := List.replicate 4096 (Value.int .u8 0)
theorem zeros4096_length : zeros4096.length = 4096 := List.length_replicate

set_option maxHeartbeats 4000000 in
set_option maxRecDepth 20000 in
theorem bufioNew_any (zb : Nat) (w : World) :
    Calls Tryz.prog 53 #[.iface 170 (.pointer (some ⟨zb, 0, none⟩))] w fun e w' => e = .returned (.pointer (some ⟨w.heap.size, 0, none⟩)) ∧
      Bk w' w.heap.size 196 (rdCells (w.heap.size + 1) zb 0 0 .nilIface (-1) (-1)) ∧ Bk w' (w.heap.size + 1) 5 zeros4096.toArray ∧ Ch [] w w' := by
  have hta : ∀ (W : World), (Instr.typeAssert (.iface 170 (.pointer (some ⟨zb, 0, none⟩))) 131 128 true).run Tryz.prog W = .ok (.tuple #[.pointer none, .bool false]) W := fun _ => by kernel_rfl
  have hmk : ∀ W : World, (Instr.makeSlice 22 (.int .i64 (max 4096 16)) (.int .i64 (max 4096 16))).run Tryz.prog W = .ok (.slice (some ⟨W.heap.size, 0, none⟩) 4096 4096) (W.alloc (.cells zeros4096.toArray 5)) := run_mkB .i64 .i64 4096 (max 4096 16) (by decide) (by omega)
  go_enter Tryz.func53, Tryz.ntmps53
  go_wp2_with fail
  go_in
  go_wp2_with fail
  go_in
  go_wp2_with fail
  go_ret
  refine ⟨rfl, (Bk.at_ w _ _ _ rfl).alloc _, Bk.at_ _ _ _ _ (by simp), ((Ch.refl [] w).alloc _).alloc _⟩
end Go.Proofs.YtpndlcjilgcfkaaGreatDoor
