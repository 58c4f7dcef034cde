/-
  Contracts of hashReader.ReadByte, Sum32, newHashReader, binary.ReadUvarint over it.
-/
import Derived.Test.YtpndlcjilgcfkaaGreatDoorHr
import Derived.Test.YtpndlcjilgcfkaaGreatDoorEnt
import Derived.Lib.VarintDec
namespace Go.Proofs.YtpndlcjilgcfkaaGreatDoor
open Go Go.RowKit
open Go.Proofs

theorem Rd.lts {rb bb zb db : Nat} {l : List UInt8} {w : World} (h : Rd rb bb zb db l w) : rb < w.heap.size ∧ bb < w.heap.size ∧ zb < w.heap.size ∧ db < w.heap.size := by
  obtain ⟨r, q, lb, lr, L, pre, tail, h1, h2, h3, h4, h5, h6, h7, ⟨data, p, cap, h8, h9, _, _, _, _, _, h10⟩, h11⟩ := h
  exact ⟨h1.lt, h2.lt, h8.lt, h10⟩
theorem Hr.lts {hb cb rb bb zb db x n : Nat} {l : List UInt8} {w : World} (h : Hr hb cb rb bb zb db x n l w) : hb < w.heap.size ∧ cb < w.heap.size ∧ rb < w.heap.size ∧ bb < w.heap.size ∧ zb < w.heap.size ∧ db < w.heap.size :=
  ⟨h.h.lt, h.c.lt, h.r.lts⟩

set_option maxHeartbeats 4000000 in
set_option maxRecDepth 20000 in
theorem readByte_some (hb cb rb bb zb db x n : Nat) (b : UInt8) (l : List UInt8) (w : World) (hA : Apart6 hb cb rb bb zb db) (hr : Hr hb cb rb bb zb db x n (b :: l) w) (hn2 : n + 1 ≤ 1099511627776) :
    Calls Tryz.prog 89 #[.pointer (some ⟨hb, 0, none⟩)] w fun e w' =>
      e = .returned (.tuple #[.int .u8 (b.toNat : Int), .nilIface]) ∧ Hr hb cb rb bb zb db (crcMore x [b]) (n + 1) l w' ∧ Ch [hb, cb, rb, bb, zb] w w' := by
  have hmk : ∀ W : World, (Instr.makeSlice 22 (.int .i64 1) (.int .i64 1)).run Tryz.prog W = .ok (.slice (some ⟨W.heap.size, 0, none⟩) 1 1) (W.alloc (.cells #[.int .u8 0] 5)) := fun _ => by kernel_rfl
  obtain ⟨l1, l2, l3, l4, l5, l6⟩ := hr.lts
  have hc0 : Ch [] w (w.alloc (.cells #[.int .u8 0] 5)) := (Ch.refl [] w).alloc _
  have hcall := hrRead_some hb cb rb bb zb db x n w.heap.size 0 1 1 5 [.int .u8 0] (b :: l) _ hA (hr.ch hc0 (by simp) (by simp) (by simp) (by simp) (by simp) (by simp)) (by simp) (Bk.at_ _ _ _ _ rfl) (by simp) (by omega) (by omega) (Nat.le_refl _) hn2
    (by omega) (by omega) (by omega) (by omega) (by omega) (by omega)
  have hcall' := Lib.hid hcall
  clear hcall
  have hr' := Lib.hid hr
  clear hr
  go_enter Tryz.func89, Tryz.ntmps89
  go_wp2_with fail
  refine hcall'.out.mono ?_
  rintro e w1 ⟨m, hm0, hm1, _, rfl, hr1, hg1, hc1⟩
  obtain rfl : m = 1 := by omega
  have d0 := hg1.cell 0
  simp [splice, Lib.byteCells] at d0
  have hr1' := Lib.hid hr1
  have hc1' := Lib.hid hc1
  clear hr1 hc1 hg1
  go_wp2_with fail
  go_ret2
  exact ⟨rfl, by simpa using hr1'.out, (Ch.mono hc0 (fun y hy => by cases hy)).trans' hc1'.out (fun y hy => by simp at hy ⊢; omega)⟩

set_option maxHeartbeats 4000000 in
set_option maxRecDepth 20000 in
theorem readByte_end (hb cb rb bb zb db x n : Nat) (w : World) (hA : Apart6 hb cb rb bb zb db) (hgl : Gl w) (hr : Hr hb cb rb bb zb db x n [] w) (hG : glN ≤ w.heap.size) :
    Calls Tryz.prog 89 #[.pointer (some ⟨hb, 0, none⟩)] w fun e w' =>
      (∃ a, e = .returned (.tuple #[.int .u8 0, .iface 191 (.pointer (some a))]) ∧ w.cell? ⟨1, 0, none⟩ = some (.iface 191 (.pointer (some a)))) ∧ Hr hb cb rb bb zb db x n [] w' ∧ Ch [hb, cb, rb, bb, zb] w w' := by
  have hmk : ∀ W : World, (Instr.makeSlice 22 (.int .i64 1) (.int .i64 1)).run Tryz.prog W = .ok (.slice (some ⟨W.heap.size, 0, none⟩) 1 1) (W.alloc (.cells #[.int .u8 0] 5)) := fun _ => by kernel_rfl
  obtain ⟨l1, l2, l3, l4, l5, l6⟩ := hr.lts
  have hc0 : Ch [] w (w.alloc (.cells #[.int .u8 0] 5)) := (Ch.refl [] w).alloc _
  have hcall := hrRead_end hb cb rb bb zb db x n w.heap.size 0 1 1 5 [.int .u8 0] _ hA (hgl.ch hc0 (by simp)) (hr.ch hc0 (by simp) (by simp) (by simp) (by simp) (by simp) (by simp)) (Bk.at_ _ _ _ _ rfl) (by simp) (by omega) (by omega)
    (by omega) (by omega) (by omega) (by omega) (by omega) (by omega) hG
  have he := hgl.eof.lt
  have hcall' := Lib.hid hcall
  clear hcall
  have hr' := Lib.hid hr
  have hgl' := Lib.hid hgl
  clear hgl hr
  go_enter Tryz.func89, Tryz.ntmps89
  go_wp2_with fail
  refine hcall'.out.mono ?_
  rintro e w1 ⟨⟨a, rfl, ha⟩, hr1, hg1, hc1⟩
  have d0 := hg1.cell 0
  simp at d0
  rw [hc0.cell 0 he (by simp)] at ha
  have hr1' := Lib.hid hr1
  have hc1' := Lib.hid hc1
  have ha' := Lib.hid ha
  clear hr1 hc1 hg1 ha
  go_wp2_with fail
  go_ret2
  exact ⟨⟨a, rfl, ha'.out⟩, hr1'.out, (Ch.mono hc0 (fun y hy => by cases hy)).trans' hc1'.out (fun y hy => by simp at hy ⊢; omega)⟩

set_option maxHeartbeats 1000000 in
theorem hrSum_any (hb cb rb bb zb db x n : Nat) (l : List UInt8) (w : World) (hr : Hr hb cb rb bb zb db x n l w) :
    Calls Tryz.prog 78 #[.pointer (some ⟨hb, 0, none⟩)] w fun e w' => e = .returned (.int .u32 (x : Int)) ∧ w = w' := by
  have c1 := hr.h.cell 1
  simp at c1
  have hr' := Lib.hid hr
  clear hr
  go_enter Tryz.func78, Tryz.ntmps78
  go_wp2_with fail
  refine (sum32_any cb x w hr'.out.c).mono ?_
  rintro e w1 ⟨rfl, hw⟩
  obtain rfl : w = w1 := hw.symm
  go_wp2_with fail
  go_ret
  exact ⟨rfl, rfl⟩

set_option maxHeartbeats 1000000 in
theorem newHash_any (v : Value) (t : TypeId) (w : World) :
    Calls Tryz.prog 74 #[.iface t v] w fun e w' => e = .returned (.pointer (some ⟨w.heap.size + 1, 0, none⟩)) ∧ (w.alloc (.cells #[.int .u32 0] 148)).alloc (.cells #[.iface t v, .pointer (some ⟨w.heap.size, 0, none⟩), .int .i64 0] 199) = w' := by
  go_enter Tryz.func74, Tryz.ntmps74
  go_wp2_with fail
  go_ret
  exact ⟨rfl, rfl⟩
end Go.Proofs.YtpndlcjilgcfkaaGreatDoor
