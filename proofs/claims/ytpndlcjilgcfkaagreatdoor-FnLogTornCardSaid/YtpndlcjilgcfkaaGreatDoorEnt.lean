/-
  Contracts of the small functions around an entry: zzFits5, lEntry, NewEntry, WithMeta, spec.big, y.Check2, CRC.Sum32.
-/
import Derived.Test.YtpndlcjilgcfkaaGreatDoorRows
import Derived.Test.YtpndlcjilgcfkaaGreatDoorMem
import Derived.WalkKit
namespace Go.Proofs.YtpndlcjilgcfkaaGreatDoor
open Go Go.RowKit
open Go.Proofs

/-- impl.Entry as cells. -/
def entCells (k v : ByteArray) (m u x o n : Nat) : Array Value := #[.string k, .string v, .int .u8 (m : Int), .int .u8 (u : Int), .int .u64 (x : Int), .int .u32 (o : Int), .int .u32 (n : Int)]

set_option maxHeartbeats 1000000 in
theorem zzFits5_any (k v : ByteArray) (m u x o n : Nat) (w : World) :
    Calls Tryz.prog 25 #[.agg (entCells k v m u x o n)] w fun e w' => e = .returned (.bool (decide (k.size ≤ 2147483647 ∧ v.size ≤ 2147483647))) ∧ Below w.heap.size w w' := by
  unfold entCells
  by_cases h1 : 2147483647 < k.size
  · have hd : decide (k.size ≤ 2147483647 ∧ v.size ≤ 2147483647) = false := by simp; omega
    rw [hd]
    clear hd
    go_enter Tryz.func25, Tryz.ntmps25
    go_wp2_with fail
    go_ret
    exact ⟨rfl, (Below.refl _ _).alloc (Nat.le_refl _) _⟩
  · by_cases h2 : 2147483647 < v.size
    · have hd : decide (k.size ≤ 2147483647 ∧ v.size ≤ 2147483647) = false := by simp; omega
      rw [hd]
      clear hd
      go_enter Tryz.func25, Tryz.ntmps25
      go_wp2_with fail
      go_ret
      exact ⟨rfl, (Below.refl _ _).alloc (Nat.le_refl _) _⟩
    · have hd : decide (k.size ≤ 2147483647 ∧ v.size ≤ 2147483647) = true := by simp; omega
      rw [hd]
      clear hd
      go_enter Tryz.func25, Tryz.ntmps25
      go_wp2_with fail
      go_ret
      exact ⟨rfl, (Below.refl _ _).alloc (Nat.le_refl _) _⟩

set_option maxHeartbeats 1000000 in
theorem lEntry_any (k v : ByteArray) (m u x o n : Nat) (w : World) :
    Calls Tryz.prog 26 #[.agg (entCells k v m u x o n)] w fun e w' => e = .returned (.bool (decide (0 < k.size ∧ k.size ≤ 200 ∧ v.size ≤ 500))) ∧ Below w.heap.size w w' := by
  unfold entCells
  by_cases h0 : 0 < k.size
  · by_cases h1 : k.size ≤ 200
    · by_cases h2 : v.size ≤ 500
      · have hd : decide (0 < k.size ∧ k.size ≤ 200 ∧ v.size ≤ 500) = true := by simp; omega
        rw [hd]
        clear hd
        go_enter Tryz.func26, Tryz.ntmps26
        go_wp2_with fail
        go_ret
        exact ⟨congrArg (fun b => Ending.returned (Value.bool b)) (decide_eq_true (by omega)), (Below.refl _ _).alloc (Nat.le_refl _) _⟩
      · have hd : decide (0 < k.size ∧ k.size ≤ 200 ∧ v.size ≤ 500) = false := by simp; omega
        rw [hd]
        clear hd
        go_enter Tryz.func26, Tryz.ntmps26
        go_wp2_with fail
        go_ret
        exact ⟨congrArg (fun b => Ending.returned (Value.bool b)) (decide_eq_false (by omega)), (Below.refl _ _).alloc (Nat.le_refl _) _⟩
    · have hd : decide (0 < k.size ∧ k.size ≤ 200 ∧ v.size ≤ 500) = false := by simp; omega
      rw [hd]
      clear hd
      go_enter Tryz.func26, Tryz.ntmps26
      go_wp2_with fail
      go_ret
      exact ⟨rfl, (Below.refl _ _).alloc (Nat.le_refl _) _⟩
  · have hd : decide (0 < k.size ∧ k.size ≤ 200 ∧ v.size ≤ 500) = false := by simp; omega
    rw [hd]
    clear hd
    go_enter Tryz.func26, Tryz.ntmps26
    go_wp2_with fail
    go_ret
    exact ⟨rfl, (Below.refl _ _).alloc (Nat.le_refl _) _⟩

/-- badger.Entry as cells. -/
def bentCells (K V : Value) (x ver off : Nat) (um m : Nat) : Array Value := #[K, V, .int .u64 (x : Int), .int .u64 (ver : Int), .int .u32 (off : Int), .int .u8 (um : Int), .int .u8 (m : Int), .int .i64 0, .int .i64 0]

set_option maxHeartbeats 1000000 in
theorem newEntry_any (a1 a2 : Option Addr) (n1 c1 n2 c2 : Nat) (w : World) :
    Calls Tryz.prog 27 #[.slice a1 n1 c1, .slice a2 n2 c2] w fun e w' => e = .returned (.pointer (some ⟨w.heap.size, 0, none⟩)) ∧ w' = w.alloc (.cells (bentCells (.slice a1 n1 c1) (.slice a2 n2 c2) 0 0 0 0 0) 64) := by
  go_enter Tryz.func27, Tryz.ntmps27
  go_wp2_with fail
  go_ret
  exact ⟨rfl, rfl⟩

set_option maxHeartbeats 1000000 in
theorem withMeta_any (b : Nat) (K V : Value) (x ver off um m u : Nat) (w : World) (h : Bk w b 64 (bentCells K V x ver off um m)) :
    Calls Tryz.prog 28 #[.pointer (some ⟨b, 0, none⟩), .int .u8 (u : Int)] w fun e w' => e = .returned (.pointer (some ⟨b, 0, none⟩)) ∧ Bk w' b 64 (bentCells K V x ver off u m) ∧ w.grownBy w' (some b) := by
  have c5 := h.cell 5
  have f5 := h.free 5
  simp [bentCells] at c5
  go_enter Tryz.func28, Tryz.ntmps28
  go_wp2_with fail
  go_ret
  exact ⟨rfl, h.set 5 _, grown_setCell (p := ⟨b, 5, none⟩) (grown_of_below (Below.refl _ _) _) (.inl rfl) _⟩

set_option maxHeartbeats 1000000 in
theorem check2_any (x : Value) (w : World) :
    Calls Tryz.prog 63 #[x, .nilIface] w fun e w' => e = .returned (.tuple #[]) ∧ w' = w := by
  have hC : ∀ W, Calls Tryz.prog 83 #[.nilIface] W fun e w' => e = .returned (.tuple #[]) ∧ w' = W := by
    intro W
    go_enter Tryz.func83, Tryz.ntmps83
    go_wp2_with fail
    go_end0
    exact ⟨rfl, rfl⟩
  go_enter Tryz.func63, Tryz.ntmps63
  go_wp2_with fail
  refine (hC _).mono ?_
  rintro e w1 ⟨rfl, rfl⟩
  go_wp2_with fail
  go_end0
  exact ⟨rfl, rfl⟩

set_option maxHeartbeats 1000000 in
theorem sum32_any (b x : Nat) (w : World) (h : Bk w b 148 #[.int .u32 (x : Int)]) :
    Calls Tryz.prog 65 #[.pointer (some ⟨b, 0, none⟩)] w fun e w' => e = .returned (.int .u32 (x : Int)) ∧ w' = w := by
  have c0 := h.cell 0
  simp at c0
  go_enter Tryz.func65, Tryz.ntmps65
  go_wp2_with fail
  go_ret
  exact ⟨rfl, rfl⟩
end Go.Proofs.YtpndlcjilgcfkaaGreatDoor
