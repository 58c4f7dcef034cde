/-
  The shelf's contracts at this dump, in plain words: written by the kit's lay-shelf.mjs and lay-plain.mjs, the remarks struck.
-/
import Derived.Ground.MnProg
import Derived.Shelf.Bin.LEUint32
import Derived.Shelf.Bin.LEAppendUint32
import Derived.Shelf.Bin.BEUint64
import Derived.Shelf.Bin.BEPutUint64
import Derived.Shelf.Bin.LEAppendUint32Arg
import Derived.Shelf.Bin.BEUint64Panics
import Derived.Shelf.Bin.PutUvarint
import Derived.Shelf.Bin.Uvarint
import Derived.Shelf.Bin.UvarintEmpty
import Derived.Shelf.Bin.ReadersZ
import Derived.Shelf.Bytes.SlSearch0
import Derived.Shelf.Bytes.SlEqualAll
import Derived.Shelf.Bytes.Small
import Derived.Test.YtakpiopiboipnaaProg
namespace Go.Proofs
open Go.Shelf
def Try.laysBin30_ren : Go.Shelf.Ren := ⟨fun | 30 => 47 | n => n, fun | 25 => 79 | 22 => 46 | 29 => 22 | 0 => 0 | 5 => 5 | 45 => 56 | n => n, fun | n => n⟩
theorem Try.laysBin30 : Go.Proofs.LaysBin.n30 Try.prog Try.laysBin30_ren := {
  mixed := by kernel_rfl
  f30 := Try.func47.trans (congrArg some (by kernel_rfl))
  t0 := Try.underlying0
  a0 := Try.isAgg0
  z0 := Try.sizeOf0
  v0 := Try.zeroValue0
  i0 := by kernel_rfl
  t5 := Try.underlying5
  a5 := Try.isAgg5
  z5 := Try.sizeOf5
  v5 := Try.zeroValue5
  i5 := by kernel_rfl
  t22 := Try.underlying46
  a22 := Try.isAgg46
  z22 := Try.sizeOf46
  v22 := Try.zeroValue46
  i22 := by kernel_rfl
  t25 := Try.underlying79
  a25 := Try.isAgg79
  z25 := Try.sizeOf79
  v25 := Try.zeroValue79
  i25 := by kernel_rfl
  t29 := Try.underlying22
  a29 := Try.isAgg22
  z29 := Try.sizeOf22
  v29 := Try.zeroValue22
  i29 := by kernel_rfl
  t45 := Try.underlying56
  a45 := Try.isAgg56
  z45 := Try.sizeOf56
  v45 := Try.zeroValue56
  i45 := by kernel_rfl }
open Go.RowKit in
theorem Try.binary_LE_Uint32 (g o n c : Nat) (b0 b1 b2 b3 : UInt8) (w : World) (hn : 4 ≤ n) (c0 : w.cell? ⟨g, o, none⟩ = some (.int .u8 b0.toNat)) (c1 : w.cell? ⟨g, o + 1, none⟩ = some (.int .u8 b1.toNat)) (c2 : w.cell? ⟨g, o + 2, none⟩ = some (.int .u8 b2.toNat)) (c3 : w.cell? ⟨g, o + 3, none⟩ = some (.int .u8 b3.toNat)) :
    Calls Try.prog 47 #[.agg #[], .slice (some ⟨g, o, none⟩) n c] w fun e w' => e = .returned (.int .u32 (Lib.leNat [b0, b1, b2, b3])) ∧ Below w.heap.size w w' := Any.binary_LE_Uint32 Try.laysBin30 g o n c b0 b1 b2 b3 w hn c0 c1 c2 c3
def Try.laysBin32_ren : Go.Shelf.Ren := ⟨fun | 32 => 46 | n => n, fun | 25 => 79 | 22 => 46 | 29 => 22 | 0 => 0 | 5 => 5 | 45 => 56 | n => n, fun | n => n⟩
theorem Try.laysBin32 : Go.Proofs.LaysBin.n32 Try.prog Try.laysBin32_ren := {
  mixed := by kernel_rfl
  f32 := Try.func46.trans (congrArg some (by kernel_rfl))
  t0 := Try.underlying0
  a0 := Try.isAgg0
  z0 := Try.sizeOf0
  v0 := Try.zeroValue0
  i0 := by kernel_rfl
  t5 := Try.underlying5
  a5 := Try.isAgg5
  z5 := Try.sizeOf5
  v5 := Try.zeroValue5
  i5 := by kernel_rfl
  t22 := Try.underlying46
  a22 := Try.isAgg46
  z22 := Try.sizeOf46
  v22 := Try.zeroValue46
  i22 := by kernel_rfl
  t25 := Try.underlying79
  a25 := Try.isAgg79
  z25 := Try.sizeOf79
  v25 := Try.zeroValue79
  i25 := by kernel_rfl
  t29 := Try.underlying22
  a29 := Try.isAgg22
  z29 := Try.sizeOf22
  v29 := Try.zeroValue22
  i29 := by kernel_rfl
  t45 := Try.underlying56
  a45 := Try.isAgg56
  z45 := Try.sizeOf56
  v45 := Try.zeroValue56
  i45 := by kernel_rfl }
open Go.RowKit in
theorem Try.binary_LE_AppendUint32 (B n v : Nat) (hv : v < 4294967296) (sv : Value) (xs : List Value) (w : World) (hown : w.ownsRow B 5 1 sv n xs) (hBw : B ≤ w.heap.size) (hlim : n + 4 ≤ 140737488355328) :
    Calls Try.prog 46 #[.agg #[], sv, .int .u32 v] w fun e w' => ∃ v', e = .returned v' ∧ w'.ownsRow B 5 1 v' (n + 4) (xs ++ Lib.byteCells (Lib.leBytes 4 v)) ∧ Below B w w' := Any.binary_LE_AppendUint32 Try.laysBin32 B n v hv sv xs w hown hBw hlim
def Try.laysBin42_ren : Go.Shelf.Ren := ⟨fun | 42 => 40 | n => n, fun | 37 => 66 | 22 => 46 | 33 => 27 | 0 => 0 | 5 => 5 | 45 => 56 | n => n, fun | n => n⟩
theorem Try.laysBin42 : Go.Proofs.LaysBin.n42 Try.prog Try.laysBin42_ren := {
  mixed := by kernel_rfl
  f42 := Try.func40.trans (congrArg some (by kernel_rfl))
  t0 := Try.underlying0
  a0 := Try.isAgg0
  z0 := Try.sizeOf0
  v0 := Try.zeroValue0
  i0 := by kernel_rfl
  t5 := Try.underlying5
  a5 := Try.isAgg5
  z5 := Try.sizeOf5
  v5 := Try.zeroValue5
  i5 := by kernel_rfl
  t22 := Try.underlying46
  a22 := Try.isAgg46
  z22 := Try.sizeOf46
  v22 := Try.zeroValue46
  i22 := by kernel_rfl
  t33 := Try.underlying27
  a33 := Try.isAgg27
  z33 := Try.sizeOf27
  v33 := Try.zeroValue27
  i33 := by kernel_rfl
  t37 := Try.underlying66
  a37 := Try.isAgg66
  z37 := Try.sizeOf66
  v37 := Try.zeroValue66
  i37 := by kernel_rfl
  t45 := Try.underlying56
  a45 := Try.isAgg56
  z45 := Try.sizeOf56
  v45 := Try.zeroValue56
  i45 := by kernel_rfl }
open Go.RowKit in
theorem Try.binary_BE_Uint64 (g o n c : Nat) (b0 b1 b2 b3 b4 b5 b6 b7 : UInt8) (w : World) (hn : 8 ≤ n) (c0 : w.cell? ⟨g, o, none⟩ = some (.int .u8 b0.toNat)) (c1 : w.cell? ⟨g, o + 1, none⟩ = some (.int .u8 b1.toNat)) (c2 : w.cell? ⟨g, o + 2, none⟩ = some (.int .u8 b2.toNat)) (c3 : w.cell? ⟨g, o + 3, none⟩ = some (.int .u8 b3.toNat)) (c4 : w.cell? ⟨g, o + 4, none⟩ = some (.int .u8 b4.toNat)) (c5 : w.cell? ⟨g, o + 5, none⟩ = some (.int .u8 b5.toNat)) (c6 : w.cell? ⟨g, o + 6, none⟩ = some (.int .u8 b6.toNat)) (c7 : w.cell? ⟨g, o + 7, none⟩ = some (.int .u8 b7.toNat)) :
    Calls Try.prog 40 #[.agg #[], .slice (some ⟨g, o, none⟩) n c] w fun e w' => e = .returned (.int .u64 (Lib.beNat [b0, b1, b2, b3, b4, b5, b6, b7])) ∧ Below w.heap.size w w' := Any.binary_BE_Uint64 Try.laysBin42 g o n c b0 b1 b2 b3 b4 b5 b6 b7 w hn c0 c1 c2 c3 c4 c5 c6 c7
def Try.laysBin43_ren : Go.Shelf.Ren := ⟨fun | 43 => 39 | n => n, fun | 37 => 66 | 22 => 46 | 33 => 27 | 0 => 0 | 5 => 5 | 45 => 56 | n => n, fun | n => n⟩
theorem Try.laysBin43 : Go.Proofs.LaysBin.n43 Try.prog Try.laysBin43_ren := {
  mixed := by kernel_rfl
  f43 := Try.func39.trans (congrArg some (by kernel_rfl))
  t0 := Try.underlying0
  a0 := Try.isAgg0
  z0 := Try.sizeOf0
  v0 := Try.zeroValue0
  i0 := by kernel_rfl
  t5 := Try.underlying5
  a5 := Try.isAgg5
  z5 := Try.sizeOf5
  v5 := Try.zeroValue5
  i5 := by kernel_rfl
  t22 := Try.underlying46
  a22 := Try.isAgg46
  z22 := Try.sizeOf46
  v22 := Try.zeroValue46
  i22 := by kernel_rfl
  t33 := Try.underlying27
  a33 := Try.isAgg27
  z33 := Try.sizeOf27
  v33 := Try.zeroValue27
  i33 := by kernel_rfl
  t37 := Try.underlying66
  a37 := Try.isAgg66
  z37 := Try.sizeOf66
  v37 := Try.zeroValue66
  i37 := by kernel_rfl
  t45 := Try.underlying56
  a45 := Try.isAgg56
  z45 := Try.sizeOf56
  v45 := Try.zeroValue56
  i45 := by kernel_rfl }
open Go.RowKit in
theorem Try.binary_BE_PutUint64 (g o n c v : Nat) (hv : v < 18446744073709551616) (x0 x1 x2 x3 x4 x5 x6 x7 : Value) (w : World) (hn : 8 ≤ n) (c0 : w.cell? ⟨g, o, none⟩ = some x0) (c1 : w.cell? ⟨g, o + 1, none⟩ = some x1) (c2 : w.cell? ⟨g, o + 2, none⟩ = some x2) (c3 : w.cell? ⟨g, o + 3, none⟩ = some x3) (c4 : w.cell? ⟨g, o + 4, none⟩ = some x4) (c5 : w.cell? ⟨g, o + 5, none⟩ = some x5) (c6 : w.cell? ⟨g, o + 6, none⟩ = some x6) (c7 : w.cell? ⟨g, o + 7, none⟩ = some x7) (f0 : w.frozen? ⟨g, o, none⟩ = false) (f1 : w.frozen? ⟨g, o + 1, none⟩ = false) (f2 : w.frozen? ⟨g, o + 2, none⟩ = false) (f3 : w.frozen? ⟨g, o + 3, none⟩ = false) (f4 : w.frozen? ⟨g, o + 4, none⟩ = false) (f5 : w.frozen? ⟨g, o + 5, none⟩ = false) (f6 : w.frozen? ⟨g, o + 6, none⟩ = false) (f7 : w.frozen? ⟨g, o + 7, none⟩ = false) :
    Calls Try.prog 39 #[.agg #[], .slice (some ⟨g, o, none⟩) n c, .int .u64 v] w fun e w' => e = .returned (.tuple #[]) ∧ w' = (w.alloc (.cells #[] 66)).setCells g o (Lib.byteCells (Lib.beBytes 8 v)) := Any.binary_BE_PutUint64 Try.laysBin43 g o n c v hv x0 x1 x2 x3 x4 x5 x6 x7 w hn c0 c1 c2 c3 c4 c5 c6 c7 f0 f1 f2 f3 f4 f5 f6 f7
open Go.RowKit in
theorem Try.binary_LE_AppendUint32_arg (g o n cap v : Nat) (hv : v < 4294967296) (olds : List Value) (w : World) (hlo : olds.length = n) (holds : ∀ j u, olds[j]? = some u → w.cell? ⟨g, o + j, none⟩ = some u) (hspare : n + 4 ≤ cap → ∀ j, j < 4 → (w.cell? ⟨g, o + n + j, none⟩).isSome = true ∧ w.frozen? ⟨g, o + n + j, none⟩ = false) (hlim : n + 4 ≤ 140737488355328) :
    Calls Try.prog 46 #[.agg #[], .slice (some ⟨g, o, none⟩) n cap, .int .u32 v] w fun e w' =>
      (n + 4 ≤ cap ∧ e = .returned (.slice (some ⟨g, o, none⟩) (n + 4) cap) ∧ w' = ((w.alloc (.cells #[] 79)).alloc (.cells (Lib.byteCells (Lib.leBytes 4 v)).toArray 5)).setCells g (o + n) (Lib.byteCells (Lib.leBytes 4 v))) ∨
      (cap < n + 4 ∧ ∃ v', e = .returned v' ∧ w'.ownsRow (w.heap.size + 2) 5 1 v' (n + 4) (olds ++ Lib.byteCells (Lib.leBytes 4 v)) ∧ Below w.heap.size w w') := Any.binary_LE_AppendUint32_arg Try.laysBin32 g o n cap v hv olds w hlo holds hspare hlim
open Go.RowKit in
theorem Try.binary_BE_Uint64_panics (ao : Option Addr) (n c : Nat) (w : World) (hn : n < 8) (hnil : ao = none → n = 0) :
    Calls Try.prog 40 #[.agg #[], .slice ao n c] w fun e w' => Lib.boundsPanicked Try.prog 7 n e ∧ w' = (w.alloc (.cells #[] 66)).drew := Any.binary_BE_Uint64_panics Try.laysBin42 ao n c w hn hnil
def Try.laysBin46_ren : Go.Shelf.Ren := ⟨fun | 46 => 49 | n => n, fun | 22 => 46 | 33 => 27 | 3 => 3 | 4 => 4 | 5 => 5 | 0 => 0 | 45 => 56 | n => n, fun | n => n⟩
theorem Try.laysBin46 : Go.Proofs.LaysBin.n46 Try.prog Try.laysBin46_ren := {
  mixed := by kernel_rfl
  f46 := Try.func49.trans (congrArg some (by kernel_rfl))
  t0 := Try.underlying0
  a0 := Try.isAgg0
  z0 := Try.sizeOf0
  v0 := Try.zeroValue0
  i0 := by kernel_rfl
  t3 := Try.underlying3
  a3 := Try.isAgg3
  z3 := Try.sizeOf3
  v3 := Try.zeroValue3
  i3 := by kernel_rfl
  t4 := Try.underlying4
  a4 := Try.isAgg4
  z4 := Try.sizeOf4
  v4 := Try.zeroValue4
  i4 := by kernel_rfl
  t5 := Try.underlying5
  a5 := Try.isAgg5
  z5 := Try.sizeOf5
  v5 := Try.zeroValue5
  i5 := by kernel_rfl
  t22 := Try.underlying46
  a22 := Try.isAgg46
  z22 := Try.sizeOf46
  v22 := Try.zeroValue46
  i22 := by kernel_rfl
  t33 := Try.underlying27
  a33 := Try.isAgg27
  z33 := Try.sizeOf27
  v33 := Try.zeroValue27
  i33 := by kernel_rfl
  t45 := Try.underlying56
  a45 := Try.isAgg56
  z45 := Try.sizeOf56
  v45 := Try.zeroValue56
  i45 := by kernel_rfl }
open Go.RowKit in
theorem Try.binary_PutUvarint (g o n c x : Nat) (hx : x < 18446744073709551616) (w : World) (hn : (Lib.uvarint x).length ≤ n) (hcell : ∀ j, j < (Lib.uvarint x).length → (w.cell? ⟨g, o + j, none⟩).isSome = true ∧ w.frozen? ⟨g, o + j, none⟩ = false) :
    Calls Try.prog 49 #[.slice (some ⟨g, o, none⟩) n c, .int .u64 x] w fun e w' => e = .returned (.int .i64 (Lib.uvarint x).length) ∧ w' = w.setCells g o (Lib.byteCells (Lib.uvarint x)) := Any.binary_PutUvarint Try.laysBin46 g o n c x hx w hn hcell
def Try.laysBin45_ren : Go.Shelf.Ren := ⟨fun | 45 => 50 | n => n, fun | 22 => 46 | 33 => 27 | 3 => 3 | 45 => 56 | 0 => 0 | 5 => 5 | 4 => 4 | n => n, fun | n => n⟩
theorem Try.laysBin45 : Go.Proofs.LaysBin.n45 Try.prog Try.laysBin45_ren := {
  mixed := by kernel_rfl
  f45 := Try.func50.trans (congrArg some (by kernel_rfl))
  t0 := Try.underlying0
  a0 := Try.isAgg0
  z0 := Try.sizeOf0
  v0 := Try.zeroValue0
  i0 := by kernel_rfl
  t3 := Try.underlying3
  a3 := Try.isAgg3
  z3 := Try.sizeOf3
  v3 := Try.zeroValue3
  i3 := by kernel_rfl
  t4 := Try.underlying4
  a4 := Try.isAgg4
  z4 := Try.sizeOf4
  v4 := Try.zeroValue4
  i4 := by kernel_rfl
  t5 := Try.underlying5
  a5 := Try.isAgg5
  z5 := Try.sizeOf5
  v5 := Try.zeroValue5
  i5 := by kernel_rfl
  t22 := Try.underlying46
  a22 := Try.isAgg46
  z22 := Try.sizeOf46
  v22 := Try.zeroValue46
  i22 := by kernel_rfl
  t33 := Try.underlying27
  a33 := Try.isAgg27
  z33 := Try.sizeOf27
  v33 := Try.zeroValue27
  i33 := by kernel_rfl
  t45 := Try.underlying56
  a45 := Try.isAgg56
  z45 := Try.sizeOf56
  v45 := Try.zeroValue56
  i45 := by kernel_rfl }
open Go.RowKit in
theorem Try.binary_Uvarint (g o n c : Nat) (l : List UInt8) (w : World) (hl : l.length = n) (hcell : ∀ j (hj : j < l.length), w.cell? ⟨g, o + j, none⟩ = some (.int .u8 (l[j]).toNat)) :
    Calls Try.prog 50 #[.slice (some ⟨g, o, none⟩) n c] w fun e w' => e = .returned (.tuple #[.int .u64 (Lib.uvarintDec l).1, .int .i64 (Lib.uvarintDec l).2]) ∧ w' = w := Any.binary_Uvarint Try.laysBin45 g o n c l w hl hcell
open Go.RowKit in
theorem Try.binary_Uvarint_empty (ao : Option Addr) (c : Nat) (w : World) :
    Calls Try.prog 50 #[.slice ao 0 c] w fun e w' => e = .returned (.tuple #[.int .u64 (Lib.uvarintDec []).1, .int .i64 (Lib.uvarintDec []).2]) ∧ w' = w := Any.binary_Uvarint_empty Try.laysBin45 ao c w
open Go.RowKit in
theorem Try.binary_LE_Uint32_z (a : Addr) (n c : Nat) (zs : List Int) (w : World) (hn : 4 ≤ n) (hl : 4 ≤ zs.length) (hcell : ∀ i, i < zs.length → w.cell? (a.add i) = some (.int .u8 (zs.getD i 0))) (hw : ∀ z ∈ zs, (Lit.int .u8 z).wf = true) :
    Calls Try.prog 47 #[.agg #[], .slice (some a) n c] w fun e w' => e = .returned (.int .u32 (Lib.leZ (zs.take 4))) ∧ Below w.heap.size w w' := Any.binary_LE_Uint32_z Try.laysBin30 a n c zs w hn hl hcell hw
open Go.RowKit in
theorem Try.binary_BE_Uint64_z (a : Addr) (n c : Nat) (zs : List Int) (w : World) (hn : 8 ≤ n) (hl : 8 ≤ zs.length) (hcell : ∀ i, i < zs.length → w.cell? (a.add i) = some (.int .u8 (zs.getD i 0))) (hw : ∀ z ∈ zs, (Lit.int .u8 z).wf = true) :
    Calls Try.prog 40 #[.agg #[], .slice (some a) n c] w fun e w' => e = .returned (.int .u64 (Lib.beZ (zs.take 8))) ∧ Below w.heap.size w w' := Any.binary_BE_Uint64_z Try.laysBin42 a n c zs w hn hl hcell hw
def Try.lays115_ren : Go.Shelf.Ren := ⟨fun | 115 => 43 | n => n, fun | 37 => 46 | 4 => 4 | 9 => 9 | 5 => 5 | n => n, fun | n => n⟩
theorem Try.lays115 : Go.Proofs.Lays.n115 Try.prog Try.lays115_ren := {
  mixed := by kernel_rfl
  f115 := Try.func43.trans (congrArg some (by kernel_rfl))
  t4 := Try.underlying4
  a4 := Try.isAgg4
  z4 := Try.sizeOf4
  v4 := Try.zeroValue4
  t9 := Try.underlying9
  a9 := Try.isAgg9
  z9 := Try.sizeOf9
  v9 := Try.zeroValue9
  t37 := Try.underlying46
  a37 := Try.isAgg46
  z37 := Try.sizeOf46
  v37 := Try.zeroValue46 }
open Go.Proofs Go.RowKit Go.Lib in
theorem Try.bytes_Equal_strs (v1 v2 : Value) (t1 t2 : ByteArray) (w : World) (h1 : (convert 46 9 v1).run Try.prog w = .ok (.string t1) w) (h2 : (convert 46 9 v2).run Try.prog w = .ok (.string t2) w) :
    Calls Try.prog 43 #[v1, v2] w fun e w' => e = .returned (.bool (t1.toList == t2.toList)) ∧ w' = w := Any.bytes_Equal_strs Try.lays115 v1 v2 t1 t2 w h1 h2
def Try.laysnb115_ren : Go.Shelf.Ren := ⟨fun | 115 => 43 | n => n, fun | 37 => 46 | 4 => 4 | 9 => 9 | 5 => 5 | n => n, fun | n => n⟩
theorem Try.laysnb115 : Go.Proofs.Lays.nb115 Try.prog Try.laysnb115_ren := {
  mixed := by kernel_rfl
  f115 := Try.func43.trans (congrArg some (by kernel_rfl))
  t4 := Try.underlying4
  a4 := Try.isAgg4
  z4 := Try.sizeOf4
  v4 := Try.zeroValue4
  t9 := Try.underlying9
  a9 := Try.isAgg9
  z9 := Try.sizeOf9
  v9 := Try.zeroValue9
  t37 := Try.underlying46
  a37 := Try.isAgg46
  z37 := Try.sizeOf46
  v37 := Try.zeroValue46
  t5 := Try.underlying5
  a5 := Try.isAgg5
  z5 := Try.sizeOf5
  v5 := Try.zeroValue5 }
theorem Try.bytes_Equal_all (p1 p2 : Option Addr) (n c m d : Nat) (xs ys : List Int) (w : World) (hx : xs.length = n) (hy : ys.length = m) (h1 : Lib.BytesIn w p1 n xs) (h2 : Lib.BytesIn w p2 m ys) :
    Calls Try.prog 43 #[.slice p1 n c, .slice p2 m d] w fun e w' => e = .returned (.bool (Lib.bytesOf xs == Lib.bytesOf ys)) ∧ w' = w := Any.bytes_Equal_all Try.laysnb115 p1 p2 n c m d xs ys w hx hy h1 h2
theorem Try.bytes_Equal (v1 v2 : Value) (xs ys : List Int) (w : World) (h1 : (convert 46 9 v1).run Try.prog w = .ok (.string (strOfNums xs)) w) (h2 : (convert 46 9 v2).run Try.prog w = .ok (.string (strOfNums ys)) w) :
    Calls Try.prog 43 #[v1, v2] w fun e w' => e = .returned (.bool (Lib.bytesOf xs == Lib.bytesOf ys)) ∧ w' = w := Any.bytes_Equal Try.lays115 v1 v2 xs ys w h1 h2
end Go.Proofs
