/-
  The shelf's contracts at this dump, in plain words: written by the kit's lay-shelf.mjs and lay-plain.mjs, the remarks struck.
-/
import Derived.Shelf.Bin.BEUint64
import Derived.Shelf.Bin.BEPutUint64
import Derived.Test.YtjioghedokbgcaaDoorProg
namespace Go.Proofs
open Go.Shelf
def Tryd.laysBin42_ren : Go.Shelf.Ren := ⟨fun | 42 => 29 | n => n, fun | 37 => 88 | 22 => 74 | 33 => 32 | 0 => 0 | 5 => 5 | 45 => 93 | n => n, fun | n => n⟩
theorem Tryd.laysBin42 : Go.Proofs.LaysBin.n42 Tryd.prog Tryd.laysBin42_ren := {
  mixed := by kernel_rfl
  f42 := Tryd.func29.trans (congrArg some (by kernel_rfl))
  t0 := Tryd.underlying0
  a0 := Tryd.isAgg0
  z0 := Tryd.sizeOf0
  v0 := Tryd.zeroValue0
  i0 := by kernel_rfl
  t5 := Tryd.underlying5
  a5 := Tryd.isAgg5
  z5 := Tryd.sizeOf5
  v5 := Tryd.zeroValue5
  i5 := by kernel_rfl
  t22 := Tryd.underlying74
  a22 := Tryd.isAgg74
  z22 := Tryd.sizeOf74
  v22 := Tryd.zeroValue74
  i22 := by kernel_rfl
  t33 := Tryd.underlying32
  a33 := Tryd.isAgg32
  z33 := Tryd.sizeOf32
  v33 := Tryd.zeroValue32
  i33 := by kernel_rfl
  t37 := Tryd.underlying88
  a37 := Tryd.isAgg88
  z37 := Tryd.sizeOf88
  v37 := Tryd.zeroValue88
  i37 := by kernel_rfl
  t45 := Tryd.underlying93
  a45 := Tryd.isAgg93
  z45 := Tryd.sizeOf93
  v45 := Tryd.zeroValue93
  i45 := by kernel_rfl }
open Go.RowKit in
theorem Tryd.binary_BE_Uint64 (g o n c : Nat) (b0 b1 b2 b3 b4 b5 b6 b7 : UInt8) (w : World) (hn : 8 ≤ n) (c0 : w.cell? ⟨g, o, none⟩ = some (.int .u8 b0.toNat)) (c1 : w.cell? ⟨g, o + 1, none⟩ = some (.int .u8 b1.toNat)) (c2 : w.cell? ⟨g, o + 2, none⟩ = some (.int .u8 b2.toNat)) (c3 : w.cell? ⟨g, o + 3, none⟩ = some (.int .u8 b3.toNat)) (c4 : w.cell? ⟨g, o + 4, none⟩ = some (.int .u8 b4.toNat)) (c5 : w.cell? ⟨g, o + 5, none⟩ = some (.int .u8 b5.toNat)) (c6 : w.cell? ⟨g, o + 6, none⟩ = some (.int .u8 b6.toNat)) (c7 : w.cell? ⟨g, o + 7, none⟩ = some (.int .u8 b7.toNat)) :
    Calls Tryd.prog 29 #[.agg #[], .slice (some ⟨g, o, none⟩) n c] w fun e w' => e = .returned (.int .u64 (Lib.beNat [b0, b1, b2, b3, b4, b5, b6, b7])) ∧ Below w.heap.size w w' := Any.binary_BE_Uint64 Tryd.laysBin42 g o n c b0 b1 b2 b3 b4 b5 b6 b7 w hn c0 c1 c2 c3 c4 c5 c6 c7
def Tryd.laysBin43_ren : Go.Shelf.Ren := ⟨fun | 43 => 32 | n => n, fun | 37 => 88 | 22 => 74 | 33 => 32 | 0 => 0 | 5 => 5 | 45 => 93 | n => n, fun | n => n⟩
theorem Tryd.laysBin43 : Go.Proofs.LaysBin.n43 Tryd.prog Tryd.laysBin43_ren := {
  mixed := by kernel_rfl
  f43 := Tryd.func32.trans (congrArg some (by kernel_rfl))
  t0 := Tryd.underlying0
  a0 := Tryd.isAgg0
  z0 := Tryd.sizeOf0
  v0 := Tryd.zeroValue0
  i0 := by kernel_rfl
  t5 := Tryd.underlying5
  a5 := Tryd.isAgg5
  z5 := Tryd.sizeOf5
  v5 := Tryd.zeroValue5
  i5 := by kernel_rfl
  t22 := Tryd.underlying74
  a22 := Tryd.isAgg74
  z22 := Tryd.sizeOf74
  v22 := Tryd.zeroValue74
  i22 := by kernel_rfl
  t33 := Tryd.underlying32
  a33 := Tryd.isAgg32
  z33 := Tryd.sizeOf32
  v33 := Tryd.zeroValue32
  i33 := by kernel_rfl
  t37 := Tryd.underlying88
  a37 := Tryd.isAgg88
  z37 := Tryd.sizeOf88
  v37 := Tryd.zeroValue88
  i37 := by kernel_rfl
  t45 := Tryd.underlying93
  a45 := Tryd.isAgg93
  z45 := Tryd.sizeOf93
  v45 := Tryd.zeroValue93
  i45 := by kernel_rfl }
open Go.RowKit in
theorem Tryd.binary_BE_PutUint64 (g o n c v : Nat) (hv : v < 18446744073709551616) (x0 x1 x2 x3 x4 x5 x6 x7 : Value) (w : World) (hn : 8 ≤ n) (c0 : w.cell? ⟨g, o, none⟩ = some x0) (c1 : w.cell? ⟨g, o + 1, none⟩ = some x1) (c2 : w.cell? ⟨g, o + 2, none⟩ = some x2) (c3 : w.cell? ⟨g, o + 3, none⟩ = some x3) (c4 : w.cell? ⟨g, o + 4, none⟩ = some x4) (c5 : w.cell? ⟨g, o + 5, none⟩ = some x5) (c6 : w.cell? ⟨g, o + 6, none⟩ = some x6) (c7 : w.cell? ⟨g, o + 7, none⟩ = some x7) (f0 : w.frozen? ⟨g, o, none⟩ = false) (f1 : w.frozen? ⟨g, o + 1, none⟩ = false) (f2 : w.frozen? ⟨g, o + 2, none⟩ = false) (f3 : w.frozen? ⟨g, o + 3, none⟩ = false) (f4 : w.frozen? ⟨g, o + 4, none⟩ = false) (f5 : w.frozen? ⟨g, o + 5, none⟩ = false) (f6 : w.frozen? ⟨g, o + 6, none⟩ = false) (f7 : w.frozen? ⟨g, o + 7, none⟩ = false) :
    Calls Tryd.prog 32 #[.agg #[], .slice (some ⟨g, o, none⟩) n c, .int .u64 v] w fun e w' => e = .returned (.tuple #[]) ∧ w' = (w.alloc (.cells #[] 88)).setCells g o (Lib.byteCells (Lib.beBytes 8 v)) := Any.binary_BE_PutUint64 Tryd.laysBin43 g o n c v hv x0 x1 x2 x3 x4 x5 x6 x7 w hn c0 c1 c2 c3 c4 c5 c6 c7 f0 f1 f2 f3 f4 f5 f6 f7
end Go.Proofs

