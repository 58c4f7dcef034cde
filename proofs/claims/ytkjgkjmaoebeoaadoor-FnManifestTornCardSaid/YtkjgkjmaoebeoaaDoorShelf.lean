/-
  The shelf's contracts at this dump, in plain words: written by the kit's lay-shelf.mjs and lay-plain.mjs, the remarks struck.
-/
import Derived.Shelf.Small.Bits
import Derived.Shelf.Strconv.Itoa0
import Derived.Ground.MnProg
import Derived.Shelf.Bin.BEUint16
import Derived.Shelf.Bin.BEUint32
import Derived.Shelf.Bin.BEUint16Panics
import Derived.Shelf.Bin.BEUint32Panics
import Derived.Shelf.Bin.Uvarint
import Derived.Shelf.Bin.UvarintEmpty
import Derived.Ground.GgsProg
import Derived.Shelf.GgSortFunc.Insertion
import Derived.Shelf.Bin.ReadersZ
import Derived.Shelf.GgSortFunc.Small
import Derived.Shelf.GgSortFunc.InsertionK
import Derived.Shelf.GgSortFunc.SmallK
import Derived.Shelf.GgSortFunc.Tiny
import Derived.Shelf.GgSortFunc.Compose
import Derived.Shelf.GgSortFunc.LotD
import Derived.Shelf.GgSortFunc.Pivot
import Derived.Shelf.GgSortFunc.Partition
import Derived.Shelf.GgSortFunc.Pdq
import Derived.Shelf.GgSortFunc.Whole
import Derived.Shelf.SlSortFunc.Xorshift
import Derived.Shelf.SlSortFuncK.ComposeK
import Derived.Shelf.SlSortFuncK.SiftDownK
import Derived.Shelf.SlSortFuncK.HeapSortK
import Derived.Shelf.SlSortFuncK.PartialInsertionK
import Derived.Shelf.SlSortFuncK.LotDK
import Derived.Shelf.SlSortFuncK.PivotK
import Derived.Shelf.SlSortFuncK.PartitionK
import Derived.Shelf.SlSortFunc.SiftDown
import Derived.Shelf.SlSortFunc.HeapSort
import Derived.Shelf.SlSortFunc.PartialInsertion
import Derived.Shelf.SlSortFuncK.PdqK
import Derived.Shelf.SlSortFuncK.WholeK
import Derived.Test.YtkjgkjmaoebeoaaDoorProg
namespace Go.Proofs
open Go.Shelf
def Tryd.lays128_ren : Go.Shelf.Ren := ⟨fun | 128 => 65 | n => n, fun | 51 => 51 | 3 => 3 | 4 => 4 | 46 => 44 | 5 => 5 | 9 => 9 | n => n, fun | n => n⟩
theorem Tryd.lays128 : Go.Proofs.Lays.n128 Tryd.prog Tryd.lays128_ren := {
  mixed := by kernel_rfl
  f128 := Tryd.func65.trans (congrArg some (by kernel_rfl))
  t3 := Tryd.underlying3
  a3 := Tryd.isAgg3
  z3 := Tryd.sizeOf3
  v3 := Tryd.zeroValue3
  t4 := Tryd.underlying4
  a4 := Tryd.isAgg4
  z4 := Tryd.sizeOf4
  v4 := Tryd.zeroValue4
  t5 := Tryd.underlying5
  a5 := Tryd.isAgg5
  z5 := Tryd.sizeOf5
  v5 := Tryd.zeroValue5
  t9 := Tryd.underlying9
  a9 := Tryd.isAgg9
  z9 := Tryd.sizeOf9
  v9 := Tryd.zeroValue9
  t46 := Tryd.underlying44
  a46 := Tryd.isAgg44
  z46 := Tryd.sizeOf44
  v46 := Tryd.zeroValue44
  t51 := Tryd.underlying51
  a51 := Tryd.isAgg51
  z51 := Tryd.sizeOf51
  v51 := Tryd.zeroValue51 }
theorem Tryd.bits_Len32 (x : Int) (w : World) (h0 : 0 ≤ x) (h1 : x ≤ 4294967295) :
    Calls Tryd.prog 65 #[.int .u32 x] w fun e w' => e = .returned (.int .i64 (Lib.bitLen x.toNat)) ∧ w' = w := Any.bits_Len32 Tryd.lays128 x w h0 h1
def Tryd.lays125_ren : Go.Shelf.Ren := ⟨fun | 125 => 52 | 128 => 65 | 129 => 66 | n => n, fun | 46 => 44 | 3 => 3 | 51 => 51 | 53 => 45 | 4 => 4 | 5 => 5 | 9 => 9 | n => n, fun | n => n⟩
theorem Tryd.lays125 : Go.Proofs.Lays.n125 Tryd.prog Tryd.lays125_ren := {
  mixed := by kernel_rfl
  f125 := Tryd.func52.trans (congrArg some (by kernel_rfl))
  f128 := Tryd.func65.trans (congrArg some (by kernel_rfl))
  f129 := Tryd.func66.trans (congrArg some (by kernel_rfl))
  t3 := Tryd.underlying3
  a3 := Tryd.isAgg3
  z3 := Tryd.sizeOf3
  v3 := Tryd.zeroValue3
  t4 := Tryd.underlying4
  a4 := Tryd.isAgg4
  z4 := Tryd.sizeOf4
  v4 := Tryd.zeroValue4
  t5 := Tryd.underlying5
  a5 := Tryd.isAgg5
  z5 := Tryd.sizeOf5
  v5 := Tryd.zeroValue5
  t9 := Tryd.underlying9
  a9 := Tryd.isAgg9
  z9 := Tryd.sizeOf9
  v9 := Tryd.zeroValue9
  t46 := Tryd.underlying44
  a46 := Tryd.isAgg44
  z46 := Tryd.sizeOf44
  v46 := Tryd.zeroValue44
  t51 := Tryd.underlying51
  a51 := Tryd.isAgg51
  z51 := Tryd.sizeOf51
  v51 := Tryd.zeroValue51
  t53 := Tryd.underlying45
  a53 := Tryd.isAgg45
  z53 := Tryd.sizeOf45
  v53 := Tryd.zeroValue45 }
theorem Tryd.bits_Len (x : Int) (w : World) (h0 : 0 ≤ x) (h1 : x ≤ 18446744073709551615) :
    Calls Tryd.prog 52 #[.int .u64 x] w fun e w' => e = .returned (.int .i64 (Lib.bitLen x.toNat)) ∧ w' = w := Any.bits_Len Tryd.lays125 x w h0 h1
def Tryd.lays129_ren : Go.Shelf.Ren := ⟨fun | 129 => 66 | n => n, fun | 53 => 45 | 3 => 3 | 4 => 4 | 46 => 44 | 5 => 5 | 9 => 9 | n => n, fun | n => n⟩
theorem Tryd.lays129 : Go.Proofs.Lays.n129 Tryd.prog Tryd.lays129_ren := {
  mixed := by kernel_rfl
  f129 := Tryd.func66.trans (congrArg some (by kernel_rfl))
  t3 := Tryd.underlying3
  a3 := Tryd.isAgg3
  z3 := Tryd.sizeOf3
  v3 := Tryd.zeroValue3
  t4 := Tryd.underlying4
  a4 := Tryd.isAgg4
  z4 := Tryd.sizeOf4
  v4 := Tryd.zeroValue4
  t5 := Tryd.underlying5
  a5 := Tryd.isAgg5
  z5 := Tryd.sizeOf5
  v5 := Tryd.zeroValue5
  t9 := Tryd.underlying9
  a9 := Tryd.isAgg9
  z9 := Tryd.sizeOf9
  v9 := Tryd.zeroValue9
  t46 := Tryd.underlying44
  a46 := Tryd.isAgg44
  z46 := Tryd.sizeOf44
  v46 := Tryd.zeroValue44
  t53 := Tryd.underlying45
  a53 := Tryd.isAgg45
  z53 := Tryd.sizeOf45
  v53 := Tryd.zeroValue45 }
theorem Tryd.bits_Len64 (x : Int) (w : World) (h0 : 0 ≤ x) (h1 : x ≤ 18446744073709551615) :
    Calls Tryd.prog 66 #[.int .u64 x] w fun e w' => e = .returned (.int .i64 (Lib.bitLen x.toNat)) ∧ w' = w := Any.bits_Len64 Tryd.lays129 x w h0 h1
def Tryd.laysBin36_ren : Go.Shelf.Ren := ⟨fun | 36 => 43 | n => n, fun | 37 => 118 | 22 => 42 | 23 => 23 | 0 => 0 | 5 => 5 | 45 => 44 | n => n, fun | n => n⟩
theorem Tryd.laysBin36 : Go.Proofs.LaysBin.n36 Tryd.prog Tryd.laysBin36_ren := {
  mixed := by kernel_rfl
  f36 := Tryd.func43.trans (congrArg some (by kernel_rfl))
  t0 := Tryd.underlying0
  a0 := Tryd.isAgg0
  z0 := Tryd.sizeOf0
  v0 := Tryd.zeroValue0
  i0 := by kernel_rfl
  t5 := Tryd.underlying5
  a5 := Tryd.isAgg5
  z5 := Tryd.sizeOf5
  v5 := Tryd.zeroValue5
  i5 := by kernel_rfl
  t22 := Tryd.underlying42
  a22 := Tryd.isAgg42
  z22 := Tryd.sizeOf42
  v22 := Tryd.zeroValue42
  i22 := by kernel_rfl
  t23 := Tryd.underlying23
  a23 := Tryd.isAgg23
  z23 := Tryd.sizeOf23
  v23 := Tryd.zeroValue23
  i23 := by kernel_rfl
  t37 := Tryd.underlying118
  a37 := Tryd.isAgg118
  z37 := Tryd.sizeOf118
  v37 := Tryd.zeroValue118
  i37 := by kernel_rfl
  t45 := Tryd.underlying44
  a45 := Tryd.isAgg44
  z45 := Tryd.sizeOf44
  v45 := Tryd.zeroValue44
  i45 := by kernel_rfl }
open Go.RowKit in
theorem Tryd.binary_BE_Uint16 (g o n c : Nat) (b0 b1 : UInt8) (w : World) (hn : 2 ≤ n) (c0 : w.cell? ⟨g, o, none⟩ = some (.int .u8 b0.toNat)) (c1 : w.cell? ⟨g, o + 1, none⟩ = some (.int .u8 b1.toNat)) :
    Calls Tryd.prog 43 #[.agg #[], .slice (some ⟨g, o, none⟩) n c] w fun e w' => e = .returned (.int .u16 (Lib.beNat [b0, b1])) ∧ Below w.heap.size w w' := Any.binary_BE_Uint16 Tryd.laysBin36 g o n c b0 b1 w hn c0 c1
def Tryd.laysBin39_ren : Go.Shelf.Ren := ⟨fun | 39 => 44 | n => n, fun | 37 => 118 | 22 => 42 | 29 => 51 | 0 => 0 | 5 => 5 | 45 => 44 | n => n, fun | n => n⟩
theorem Tryd.laysBin39 : Go.Proofs.LaysBin.n39 Tryd.prog Tryd.laysBin39_ren := {
  mixed := by kernel_rfl
  f39 := Tryd.func44.trans (congrArg some (by kernel_rfl))
  t0 := Tryd.underlying0
  a0 := Tryd.isAgg0
  z0 := Tryd.sizeOf0
  v0 := Tryd.zeroValue0
  i0 := by kernel_rfl
  t5 := Tryd.underlying5
  a5 := Tryd.isAgg5
  z5 := Tryd.sizeOf5
  v5 := Tryd.zeroValue5
  i5 := by kernel_rfl
  t22 := Tryd.underlying42
  a22 := Tryd.isAgg42
  z22 := Tryd.sizeOf42
  v22 := Tryd.zeroValue42
  i22 := by kernel_rfl
  t29 := Tryd.underlying51
  a29 := Tryd.isAgg51
  z29 := Tryd.sizeOf51
  v29 := Tryd.zeroValue51
  i29 := by kernel_rfl
  t37 := Tryd.underlying118
  a37 := Tryd.isAgg118
  z37 := Tryd.sizeOf118
  v37 := Tryd.zeroValue118
  i37 := by kernel_rfl
  t45 := Tryd.underlying44
  a45 := Tryd.isAgg44
  z45 := Tryd.sizeOf44
  v45 := Tryd.zeroValue44
  i45 := by kernel_rfl }
open Go.RowKit in
theorem Tryd.binary_BE_Uint32 (g o n c : Nat) (b0 b1 b2 b3 : UInt8) (w : World) (hn : 4 ≤ n) (c0 : w.cell? ⟨g, o, none⟩ = some (.int .u8 b0.toNat)) (c1 : w.cell? ⟨g, o + 1, none⟩ = some (.int .u8 b1.toNat)) (c2 : w.cell? ⟨g, o + 2, none⟩ = some (.int .u8 b2.toNat)) (c3 : w.cell? ⟨g, o + 3, none⟩ = some (.int .u8 b3.toNat)) :
    Calls Tryd.prog 44 #[.agg #[], .slice (some ⟨g, o, none⟩) n c] w fun e w' => e = .returned (.int .u32 (Lib.beNat [b0, b1, b2, b3])) ∧ Below w.heap.size w w' := Any.binary_BE_Uint32 Tryd.laysBin39 g o n c b0 b1 b2 b3 w hn c0 c1 c2 c3
open Go.RowKit in
theorem Tryd.binary_BE_Uint16_panics (ao : Option Addr) (n c : Nat) (w : World) (hn : n < 2) (hnil : ao = none → n = 0) :
    Calls Tryd.prog 43 #[.agg #[], .slice ao n c] w fun e w' => Lib.boundsPanicked Tryd.prog 1 n e ∧ w' = (w.alloc (.cells #[] 118)).drew := Any.binary_BE_Uint16_panics Tryd.laysBin36 ao n c w hn hnil
open Go.RowKit in
theorem Tryd.binary_BE_Uint32_panics (ao : Option Addr) (n c : Nat) (w : World) (hn : n < 4) (hnil : ao = none → n = 0) :
    Calls Tryd.prog 44 #[.agg #[], .slice ao n c] w fun e w' => Lib.boundsPanicked Tryd.prog 3 n e ∧ w' = (w.alloc (.cells #[] 118)).drew := Any.binary_BE_Uint32_panics Tryd.laysBin39 ao n c w hn hnil
def Tryd.laysBin45_ren : Go.Shelf.Ren := ⟨fun | 45 => 55 | n => n, fun | 22 => 42 | 33 => 45 | 3 => 3 | 45 => 44 | 0 => 0 | 5 => 5 | 4 => 4 | n => n, fun | n => n⟩
theorem Tryd.laysBin45 : Go.Proofs.LaysBin.n45 Tryd.prog Tryd.laysBin45_ren := {
  mixed := by kernel_rfl
  f45 := Tryd.func55.trans (congrArg some (by kernel_rfl))
  t0 := Tryd.underlying0
  a0 := Tryd.isAgg0
  z0 := Tryd.sizeOf0
  v0 := Tryd.zeroValue0
  i0 := by kernel_rfl
  t3 := Tryd.underlying3
  a3 := Tryd.isAgg3
  z3 := Tryd.sizeOf3
  v3 := Tryd.zeroValue3
  i3 := by kernel_rfl
  t4 := Tryd.underlying4
  a4 := Tryd.isAgg4
  z4 := Tryd.sizeOf4
  v4 := Tryd.zeroValue4
  i4 := by kernel_rfl
  t5 := Tryd.underlying5
  a5 := Tryd.isAgg5
  z5 := Tryd.sizeOf5
  v5 := Tryd.zeroValue5
  i5 := by kernel_rfl
  t22 := Tryd.underlying42
  a22 := Tryd.isAgg42
  z22 := Tryd.sizeOf42
  v22 := Tryd.zeroValue42
  i22 := by kernel_rfl
  t33 := Tryd.underlying45
  a33 := Tryd.isAgg45
  z33 := Tryd.sizeOf45
  v33 := Tryd.zeroValue45
  i33 := by kernel_rfl
  t45 := Tryd.underlying44
  a45 := Tryd.isAgg44
  z45 := Tryd.sizeOf44
  v45 := Tryd.zeroValue44
  i45 := by kernel_rfl }
open Go.RowKit in
theorem Tryd.binary_Uvarint (g o n c : Nat) (l : List UInt8) (w : World) (hl : l.length = n) (hcell : ∀ j (hj : j < l.length), w.cell? ⟨g, o + j, none⟩ = some (.int .u8 (l[j]).toNat)) :
    Calls Tryd.prog 55 #[.slice (some ⟨g, o, none⟩) n c] w fun e w' => e = .returned (.tuple #[.int .u64 (Lib.uvarintDec l).1, .int .i64 (Lib.uvarintDec l).2]) ∧ w' = w := Any.binary_Uvarint Tryd.laysBin45 g o n c l w hl hcell
open Go.RowKit in
theorem Tryd.binary_Uvarint_empty (ao : Option Addr) (c : Nat) (w : World) :
    Calls Tryd.prog 55 #[.slice ao 0 c] w fun e w' => e = .returned (.tuple #[.int .u64 (Lib.uvarintDec []).1, .int .i64 (Lib.uvarintDec []).2]) ∧ w' = w := Any.binary_Uvarint_empty Tryd.laysBin45 ao c w
def Tryd.laysGg26_ren : Go.Shelf.Ren := ⟨fun | 26 => 67 | n => n, fun | 44 => 145 | 3 => 3 | 0 => 0 | 4 => 4 | 26 => 111 | 37 => 139 | n => n, fun | n => n⟩
theorem Tryd.laysGg26 : Go.Proofs.LaysGg.n26 Tryd.prog Tryd.laysGg26_ren := {
  mixed := by kernel_rfl
  f26 := Tryd.func67.trans (congrArg some (by kernel_rfl))
  t0 := Tryd.underlying0
  a0 := Tryd.isAgg0
  z0 := Tryd.sizeOf0
  v0 := Tryd.zeroValue0
  i0 := by kernel_rfl
  t3 := Tryd.underlying3
  a3 := Tryd.isAgg3
  z3 := Tryd.sizeOf3
  v3 := Tryd.zeroValue3
  i3 := by kernel_rfl
  t4 := Tryd.underlying4
  a4 := Tryd.isAgg4
  z4 := Tryd.sizeOf4
  v4 := Tryd.zeroValue4
  i4 := by kernel_rfl
  t26 := Tryd.underlying111
  a26 := Tryd.isAgg111
  z26 := Tryd.sizeOf111
  v26 := Tryd.zeroValue111
  i26 := by kernel_rfl
  t37 := Tryd.underlying139
  a37 := Tryd.isAgg139
  z37 := Tryd.sizeOf139
  v37 := Tryd.zeroValue139
  i37 := by kernel_rfl
  t44 := Tryd.underlying145
  a44 := Tryd.isAgg145
  z44 := Tryd.sizeOf145
  v44 := Tryd.zeroValue145
  i44 := by kernel_rfl }
open Go.RowKit Go.Lib Go.Sort in
theorem Tryd.insertionSort_func_one {α : Type} [Inhabited α] (enc : α → Value) (lt : α → α → Bool) (g : Nat) (lb : Array Value) (sf : Nat) (sb : Array Value) (blk off a b : Nat) (d : Array α) (w : World) (eg : ∀ args w, (callFunc g args).run Tryd.prog w = .ok (.enter g args) w) (hless : LessReads Tryd.prog g lb enc lt blk off d.size w) (hswap : SwapSwaps Tryd.prog sf sb enc blk off d.size) (hH : Holds enc w blk off d) (hblk : blk < w.heap.size) (hab : a ≤ b) (hb : b ≤ d.size) (hsz : d.size < 4611686018427387904) :
    Calls Tryd.prog 67 #[.agg #[.func (.func g) #[] lb, .func (.func sf) #[] sb], .int .i64 a, .int .i64 b] w fun e w' =>
      e = .returned (.tuple #[]) ∧ ∃ n, w' = putRow enc (Sort.ahead (w.alloc (.cells #[.func (.func g) #[] lb, .func (.func sf) #[] sb] 145)) n) blk off (Sort.insertionSort lt d a b) := Any.insertionSort_func_one Tryd.laysGg26 enc lt g lb sf sb blk off a b d w eg hless hswap hH hblk hab hb hsz
open Go.RowKit in
theorem Tryd.binary_BE_Uint16_z (a : Addr) (n c : Nat) (zs : List Int) (w : World) (hn : 2 ≤ n) (hl : 2 ≤ zs.length) (hcell : ∀ i, i < zs.length → w.cell? (a.add i) = some (.int .u8 (zs.getD i 0))) (hw : ∀ z ∈ zs, (Lit.int .u8 z).wf = true) :
    Calls Tryd.prog 43 #[.agg #[], .slice (some a) n c] w fun e w' => e = .returned (.int .u16 (Lib.beZ (zs.take 2))) ∧ Below w.heap.size w w' := Any.binary_BE_Uint16_z Tryd.laysBin36 a n c zs w hn hl hcell hw
open Go.RowKit in
theorem Tryd.binary_BE_Uint32_z (a : Addr) (n c : Nat) (zs : List Int) (w : World) (hn : 4 ≤ n) (hl : 4 ≤ zs.length) (hcell : ∀ i, i < zs.length → w.cell? (a.add i) = some (.int .u8 (zs.getD i 0))) (hw : ∀ z ∈ zs, (Lit.int .u8 z).wf = true) :
    Calls Tryd.prog 44 #[.agg #[], .slice (some a) n c] w fun e w' => e = .returned (.int .u32 (Lib.beZ (zs.take 4))) ∧ Below w.heap.size w w' := Any.binary_BE_Uint32_z Tryd.laysBin39 a n c zs w hn hl hcell hw
def Tryd.laysGg14_ren : Go.Shelf.Ren := ⟨fun | 14 => 53 | 26 => 67 | 27 => 68 | 28 => 69 | 29 => 70 | 30 => 71 | 31 => 72 | 32 => 73 | 33 => 74 | 34 => 75 | 35 => 76 | 36 => 77 | 37 => 78 | 38 => 79 | 13 => 52 | 39 => 80 | 24 => 65 | 25 => 66 | n => n, fun | 44 => 145 | 3 => 3 | 0 => 0 | 4 => 4 | 54 => 164 | 53 => 163 | 26 => 111 | 58 => 53 | 37 => 139 | 60 => 169 | 41 => 44 | 51 => 45 | 64 => 173 | 66 => 175 | 67 => 176 | 49 => 51 | 5 => 5 | 9 => 9 | n => n, fun | n => n⟩
theorem Tryd.laysGg14 : Go.Proofs.LaysGg.n14 Tryd.prog Tryd.laysGg14_ren := {
  mixed := by kernel_rfl
  f13 := Tryd.func52.trans (congrArg some (by kernel_rfl))
  f14 := Tryd.func53.trans (congrArg some (by kernel_rfl))
  f24 := Tryd.func65.trans (congrArg some (by kernel_rfl))
  f25 := Tryd.func66.trans (congrArg some (by kernel_rfl))
  f26 := Tryd.func67.trans (congrArg some (by kernel_rfl))
  f27 := Tryd.func68.trans (congrArg some (by kernel_rfl))
  f28 := Tryd.func69.trans (congrArg some (by kernel_rfl))
  f29 := Tryd.func70.trans (congrArg some (by kernel_rfl))
  f30 := Tryd.func71.trans (congrArg some (by kernel_rfl))
  f31 := Tryd.func72.trans (congrArg some (by kernel_rfl))
  f32 := Tryd.func73.trans (congrArg some (by kernel_rfl))
  f33 := Tryd.func74.trans (congrArg some (by kernel_rfl))
  f34 := Tryd.func75.trans (congrArg some (by kernel_rfl))
  f35 := Tryd.func76.trans (congrArg some (by kernel_rfl))
  f36 := Tryd.func77.trans (congrArg some (by kernel_rfl))
  f37 := Tryd.func78.trans (congrArg some (by kernel_rfl))
  f38 := Tryd.func79.trans (congrArg some (by kernel_rfl))
  f39 := Tryd.func80.trans (congrArg some (by kernel_rfl))
  t0 := Tryd.underlying0
  a0 := Tryd.isAgg0
  z0 := Tryd.sizeOf0
  v0 := Tryd.zeroValue0
  i0 := by kernel_rfl
  t3 := Tryd.underlying3
  a3 := Tryd.isAgg3
  z3 := Tryd.sizeOf3
  v3 := Tryd.zeroValue3
  i3 := by kernel_rfl
  t4 := Tryd.underlying4
  a4 := Tryd.isAgg4
  z4 := Tryd.sizeOf4
  v4 := Tryd.zeroValue4
  i4 := by kernel_rfl
  t5 := Tryd.underlying5
  a5 := Tryd.isAgg5
  z5 := Tryd.sizeOf5
  v5 := Tryd.zeroValue5
  i5 := by kernel_rfl
  t9 := Tryd.underlying9
  a9 := Tryd.isAgg9
  z9 := Tryd.sizeOf9
  v9 := Tryd.zeroValue9
  i9 := by kernel_rfl
  t26 := Tryd.underlying111
  a26 := Tryd.isAgg111
  z26 := Tryd.sizeOf111
  v26 := Tryd.zeroValue111
  i26 := by kernel_rfl
  t37 := Tryd.underlying139
  a37 := Tryd.isAgg139
  z37 := Tryd.sizeOf139
  v37 := Tryd.zeroValue139
  i37 := by kernel_rfl
  t41 := Tryd.underlying44
  a41 := Tryd.isAgg44
  z41 := Tryd.sizeOf44
  v41 := Tryd.zeroValue44
  i41 := by kernel_rfl
  t44 := Tryd.underlying145
  a44 := Tryd.isAgg145
  z44 := Tryd.sizeOf145
  v44 := Tryd.zeroValue145
  i44 := by kernel_rfl
  t49 := Tryd.underlying51
  a49 := Tryd.isAgg51
  z49 := Tryd.sizeOf51
  v49 := Tryd.zeroValue51
  i49 := by kernel_rfl
  t51 := Tryd.underlying45
  a51 := Tryd.isAgg45
  z51 := Tryd.sizeOf45
  v51 := Tryd.zeroValue45
  i51 := by kernel_rfl
  t53 := Tryd.underlying163
  a53 := Tryd.isAgg163
  z53 := Tryd.sizeOf163
  v53 := Tryd.zeroValue163
  i53 := by kernel_rfl
  t54 := Tryd.underlying164
  a54 := Tryd.isAgg164
  z54 := Tryd.sizeOf164
  v54 := Tryd.zeroValue164
  i54 := by kernel_rfl
  t58 := Tryd.underlying53
  a58 := Tryd.isAgg53
  z58 := Tryd.sizeOf53
  v58 := Tryd.zeroValue53
  i58 := by kernel_rfl
  t60 := Tryd.underlying169
  a60 := Tryd.isAgg169
  z60 := Tryd.sizeOf169
  v60 := Tryd.zeroValue169
  i60 := by kernel_rfl
  t64 := Tryd.underlying173
  a64 := Tryd.isAgg173
  z64 := Tryd.sizeOf173
  v64 := Tryd.zeroValue173
  i64 := by kernel_rfl
  t66 := Tryd.underlying175
  a66 := Tryd.isAgg175
  z66 := Tryd.sizeOf175
  v66 := Tryd.zeroValue175
  i66 := by kernel_rfl
  t67 := Tryd.underlying176
  a67 := Tryd.isAgg176
  z67 := Tryd.sizeOf176
  v67 := Tryd.zeroValue176
  i67 := by kernel_rfl }
open Go.RowKit Go.Lib Go.Sort in
theorem Tryd.pdqsort_func_small {α : Type} [Inhabited α] (enc : α → Value) (lt : α → α → Bool) (g : Nat) (lb : Array Value) (sf : Nat) (sb : Array Value) (blk off a b : Nat) (lim : Int) (d : Array α) (w : World) (eg : ∀ args w, (callFunc g args).run Tryd.prog w = .ok (.enter g args) w) (hless : LessReads Tryd.prog g lb enc lt blk off d.size w) (hswap : SwapSwaps Tryd.prog sf sb enc blk off d.size) (hH : Holds enc w blk off d) (hblk : blk < w.heap.size) (hab : a ≤ b) (hb : b ≤ d.size) (hsz : d.size < 4611686018427387904) (h12 : b - a ≤ 12) :
    Calls Tryd.prog 53 #[.agg #[.func (.func g) #[] lb, .func (.func sf) #[] sb], .int .i64 a, .int .i64 b, .int .i64 lim] w fun e w' =>
      e = .returned (.tuple #[]) ∧ ∃ n, w' = putRow enc (Sort.ahead ((w.alloc (.cells #[.func (.func g) #[] lb, .func (.func sf) #[] sb] 145)).alloc (.cells #[.func (.func g) #[] lb, .func (.func sf) #[] sb] 145)) n) blk off (Sort.insertionSort lt d a b) := Any.pdqsort_func_small Tryd.laysGg14 enc lt g lb sf sb blk off a b lim d w eg hless hswap hH hblk hab hb hsz h12
def Tryd.laysGg6_ren : Go.Shelf.Ren := ⟨fun | 6 => 39 | 10 => 49 | 11 => 50 | 12 => 51 | 13 => 52 | 14 => 53 | 24 => 65 | 25 => 66 | 26 => 67 | 27 => 68 | 28 => 69 | 29 => 70 | 30 => 71 | 31 => 72 | 32 => 73 | 33 => 74 | 34 => 75 | 35 => 76 | 36 => 77 | 37 => 78 | 38 => 79 | 39 => 80 | n => n, fun | 20 => 20 | 26 => 111 | 35 => 137 | 0 => 0 | 37 => 139 | 3 => 3 | 41 => 44 | 44 => 145 | 49 => 51 | 51 => 45 | 4 => 4 | 54 => 164 | 53 => 163 | 58 => 53 | 5 => 5 | 9 => 9 | 60 => 169 | 64 => 173 | 66 => 175 | 67 => 176 | 17 => 17 | 32 => 134 | 33 => 135 | 82 => 191 | 12 => 12 | 75 => 184 | 76 => 185 | 77 => 186 | 78 => 187 | 79 => 188 | 80 => 189 | n => n, fun | n => n⟩
theorem Tryd.laysGg6 : Go.Proofs.LaysGg.n6 Tryd.prog Tryd.laysGg6_ren := {
  mixed := by kernel_rfl
  f6 := Tryd.func39.trans (congrArg some (by kernel_rfl))
  f10 := Tryd.func49.trans (congrArg some (by kernel_rfl))
  f11 := Tryd.func50.trans (congrArg some (by kernel_rfl))
  f12 := Tryd.func51.trans (congrArg some (by kernel_rfl))
  f13 := Tryd.func52.trans (congrArg some (by kernel_rfl))
  f14 := Tryd.func53.trans (congrArg some (by kernel_rfl))
  f24 := Tryd.func65.trans (congrArg some (by kernel_rfl))
  f25 := Tryd.func66.trans (congrArg some (by kernel_rfl))
  f26 := Tryd.func67.trans (congrArg some (by kernel_rfl))
  f27 := Tryd.func68.trans (congrArg some (by kernel_rfl))
  f28 := Tryd.func69.trans (congrArg some (by kernel_rfl))
  f29 := Tryd.func70.trans (congrArg some (by kernel_rfl))
  f30 := Tryd.func71.trans (congrArg some (by kernel_rfl))
  f31 := Tryd.func72.trans (congrArg some (by kernel_rfl))
  f32 := Tryd.func73.trans (congrArg some (by kernel_rfl))
  f33 := Tryd.func74.trans (congrArg some (by kernel_rfl))
  f34 := Tryd.func75.trans (congrArg some (by kernel_rfl))
  f35 := Tryd.func76.trans (congrArg some (by kernel_rfl))
  f36 := Tryd.func77.trans (congrArg some (by kernel_rfl))
  f37 := Tryd.func78.trans (congrArg some (by kernel_rfl))
  f38 := Tryd.func79.trans (congrArg some (by kernel_rfl))
  f39 := Tryd.func80.trans (congrArg some (by kernel_rfl))
  t0 := Tryd.underlying0
  a0 := Tryd.isAgg0
  z0 := Tryd.sizeOf0
  v0 := Tryd.zeroValue0
  i0 := by kernel_rfl
  t3 := Tryd.underlying3
  a3 := Tryd.isAgg3
  z3 := Tryd.sizeOf3
  v3 := Tryd.zeroValue3
  i3 := by kernel_rfl
  t4 := Tryd.underlying4
  a4 := Tryd.isAgg4
  z4 := Tryd.sizeOf4
  v4 := Tryd.zeroValue4
  i4 := by kernel_rfl
  t5 := Tryd.underlying5
  a5 := Tryd.isAgg5
  z5 := Tryd.sizeOf5
  v5 := Tryd.zeroValue5
  i5 := by kernel_rfl
  t9 := Tryd.underlying9
  a9 := Tryd.isAgg9
  z9 := Tryd.sizeOf9
  v9 := Tryd.zeroValue9
  i9 := by kernel_rfl
  t12 := Tryd.underlying12
  a12 := Tryd.isAgg12
  z12 := Tryd.sizeOf12
  v12 := Tryd.zeroValue12
  i12 := by kernel_rfl
  t17 := Tryd.underlying17
  a17 := Tryd.isAgg17
  z17 := Tryd.sizeOf17
  v17 := Tryd.zeroValue17
  i17 := by kernel_rfl
  t20 := Tryd.underlying20
  a20 := Tryd.isAgg20
  z20 := Tryd.sizeOf20
  v20 := Tryd.zeroValue20
  i20 := by kernel_rfl
  t26 := Tryd.underlying111
  a26 := Tryd.isAgg111
  z26 := Tryd.sizeOf111
  v26 := Tryd.zeroValue111
  i26 := by kernel_rfl
  t32 := Tryd.underlying134
  a32 := Tryd.isAgg134
  z32 := Tryd.sizeOf134
  v32 := Tryd.zeroValue134
  i32 := by kernel_rfl
  t33 := Tryd.underlying135
  a33 := Tryd.isAgg135
  z33 := Tryd.sizeOf135
  v33 := Tryd.zeroValue135
  i33 := by kernel_rfl
  t35 := Tryd.underlying137
  a35 := Tryd.isAgg137
  z35 := Tryd.sizeOf137
  v35 := Tryd.zeroValue137
  i35 := by kernel_rfl
  t37 := Tryd.underlying139
  a37 := Tryd.isAgg139
  z37 := Tryd.sizeOf139
  v37 := Tryd.zeroValue139
  i37 := by kernel_rfl
  t41 := Tryd.underlying44
  a41 := Tryd.isAgg44
  z41 := Tryd.sizeOf44
  v41 := Tryd.zeroValue44
  i41 := by kernel_rfl
  t44 := Tryd.underlying145
  a44 := Tryd.isAgg145
  z44 := Tryd.sizeOf145
  v44 := Tryd.zeroValue145
  i44 := by kernel_rfl
  t49 := Tryd.underlying51
  a49 := Tryd.isAgg51
  z49 := Tryd.sizeOf51
  v49 := Tryd.zeroValue51
  i49 := by kernel_rfl
  t51 := Tryd.underlying45
  a51 := Tryd.isAgg45
  z51 := Tryd.sizeOf45
  v51 := Tryd.zeroValue45
  i51 := by kernel_rfl
  t53 := Tryd.underlying163
  a53 := Tryd.isAgg163
  z53 := Tryd.sizeOf163
  v53 := Tryd.zeroValue163
  i53 := by kernel_rfl
  t54 := Tryd.underlying164
  a54 := Tryd.isAgg164
  z54 := Tryd.sizeOf164
  v54 := Tryd.zeroValue164
  i54 := by kernel_rfl
  t58 := Tryd.underlying53
  a58 := Tryd.isAgg53
  z58 := Tryd.sizeOf53
  v58 := Tryd.zeroValue53
  i58 := by kernel_rfl
  t60 := Tryd.underlying169
  a60 := Tryd.isAgg169
  z60 := Tryd.sizeOf169
  v60 := Tryd.zeroValue169
  i60 := by kernel_rfl
  t64 := Tryd.underlying173
  a64 := Tryd.isAgg173
  z64 := Tryd.sizeOf173
  v64 := Tryd.zeroValue173
  i64 := by kernel_rfl
  t66 := Tryd.underlying175
  a66 := Tryd.isAgg175
  z66 := Tryd.sizeOf175
  v66 := Tryd.zeroValue175
  i66 := by kernel_rfl
  t67 := Tryd.underlying176
  a67 := Tryd.isAgg176
  z67 := Tryd.sizeOf176
  v67 := Tryd.zeroValue176
  i67 := by kernel_rfl
  t75 := Tryd.underlying184
  a75 := Tryd.isAgg184
  z75 := Tryd.sizeOf184
  v75 := Tryd.zeroValue184
  i75 := by kernel_rfl
  t76 := Tryd.underlying185
  a76 := Tryd.isAgg185
  z76 := Tryd.sizeOf185
  v76 := Tryd.zeroValue185
  i76 := by kernel_rfl
  t77 := Tryd.underlying186
  a77 := Tryd.isAgg186
  z77 := Tryd.sizeOf186
  v77 := Tryd.zeroValue186
  i77 := by kernel_rfl
  t78 := Tryd.underlying187
  a78 := Tryd.isAgg187
  z78 := Tryd.sizeOf187
  v78 := Tryd.zeroValue187
  i78 := by kernel_rfl
  t79 := Tryd.underlying188
  a79 := Tryd.isAgg188
  z79 := Tryd.sizeOf188
  v79 := Tryd.zeroValue188
  i79 := by kernel_rfl
  t80 := Tryd.underlying189
  a80 := Tryd.isAgg189
  z80 := Tryd.sizeOf189
  v80 := Tryd.zeroValue189
  i80 := by kernel_rfl
  t82 := Tryd.underlying191
  a82 := Tryd.isAgg191
  z82 := Tryd.sizeOf191
  v82 := Tryd.zeroValue191
  i82 := by kernel_rfl }
open Go.RowKit Go.Lib Go.Sort in
theorem Tryd.insertionSort_func_cells {α : Type} [Inhabited α] (enc : α → List Value) (k : Nat) (hk : ∀ x, (enc x).length = k) (lt : α → α → Bool) (g : Nat) (lb : Array Value) (sf : Nat) (sb : Array Value) (blk off a b : Nat) (d : Array α) (w : World) (eg : ∀ args w, (callFunc g args).run Tryd.prog w = .ok (.enter g args) w) (hless : LessReadsK Tryd.prog g lb enc k lt blk off d.size w) (hswap : SwapSwapsK Tryd.prog sf sb enc k blk off d.size) (hH : HoldsK enc k w blk off d) (hblk : blk < w.heap.size) (hab : a ≤ b) (hb : b ≤ d.size) (hsz : d.size < 4611686018427387904) :
    Calls Tryd.prog 67 #[.agg #[.func (.func g) #[] lb, .func (.func sf) #[] sb], .int .i64 a, .int .i64 b] w fun e w' =>
      e = .returned (.tuple #[]) ∧ ∃ n, w' = putRowK enc k (Sort.ahead (w.alloc (.cells #[.func (.func g) #[] lb, .func (.func sf) #[] sb] 145)) n) blk off (Sort.insertionSort lt d a b) := Any.insertionSort_func_cells Tryd.laysGg26 enc k hk lt g lb sf sb blk off a b d w eg hless hswap hH hblk hab hb hsz
open Go.RowKit Go.Lib Go.Sort in
theorem Tryd.pdqsort_func_small_cells {α : Type} [Inhabited α] (enc : α → List Value) (k : Nat) (hk : ∀ x, (enc x).length = k) (lt : α → α → Bool) (g : Nat) (lb : Array Value) (sf : Nat) (sb : Array Value) (blk off a b : Nat) (lim : Int) (d : Array α) (w : World) (eg : ∀ args w, (callFunc g args).run Tryd.prog w = .ok (.enter g args) w) (hless : LessReadsK Tryd.prog g lb enc k lt blk off d.size w) (hswap : SwapSwapsK Tryd.prog sf sb enc k blk off d.size) (hH : HoldsK enc k w blk off d) (hblk : blk < w.heap.size) (hab : a ≤ b) (hb : b ≤ d.size) (hsz : d.size < 4611686018427387904) (h12 : b - a ≤ 12) :
    Calls Tryd.prog 53 #[.agg #[.func (.func g) #[] lb, .func (.func sf) #[] sb], .int .i64 a, .int .i64 b, .int .i64 lim] w fun e w' =>
      e = .returned (.tuple #[]) ∧ ∃ n, w' = putRowK enc k (Sort.ahead ((w.alloc (.cells #[.func (.func g) #[] lb, .func (.func sf) #[] sb] 145)).alloc (.cells #[.func (.func g) #[] lb, .func (.func sf) #[] sb] 145)) n) blk off (Sort.insertionSort lt d a b) := Any.pdqsort_func_small_cells Tryd.laysGg14 enc k hk lt g lb sf sb blk off a b lim d w eg hless hswap hH hblk hab hb hsz h12
open Go.RowKit Go.Lib Go.Sort in
theorem Tryd.insertionSort_func_none (lf : Fn) (la lb : Array Value) (f : Nat) (sb : Array Value) (a b : Nat) (h : b ≤ a + 1) (ha : a < 4611686018427387904) (w : World) :
    Calls Tryd.prog 67 #[.agg #[.func lf la lb, .func (.func f) #[] sb], .int .i64 a, .int .i64 b] w fun e w' => e = .returned (.tuple #[]) ∧ w' = w.alloc (.cells #[.func lf la lb, .func (.func f) #[] sb] 145) := Any.insertionSort_func_none Tryd.laysGg26 lf la lb f sb a b h ha w
open Go.RowKit Go.Lib Go.Sort in
theorem Tryd.pdqsort_func_tiny (lf : Fn) (la lb : Array Value) (f : Nat) (sb : Array Value) (n : Nat) (h : n ≤ 1) (lim : Int) (w : World) :
    Calls Tryd.prog 53 #[.agg #[.func lf la lb, .func (.func f) #[] sb], .int .i64 0, .int .i64 n, .int .i64 lim] w fun e w' => e = .returned (.tuple #[]) ∧ w' = (w.alloc (.cells #[.func lf la lb, .func (.func f) #[] sb] 145)).alloc (.cells #[.func lf la lb, .func (.func f) #[] sb] 145) := Any.pdqsort_func_tiny Tryd.laysGg14 lf la lb f sb n h lim w
open Go.RowKit Go.Lib Go.Sort in
theorem Tryd.insertionSort_func_w {α : Type} [Inhabited α] (enc : α → Value) (lt : α → α → Bool) (g : Nat) (lb : Array Value) (sf : Nat) (sb : Array Value) (blk off a b : Nat) (d : Array α) (w : World) (eg : ∀ args w, (callFunc g args).run Tryd.prog w = .ok (.enter g args) w) (hless : LessReads Tryd.prog g lb enc lt blk off d.size w) (hswap : SwapSwaps Tryd.prog sf sb enc blk off d.size) (hH : Holds enc w blk off d) (hblk : blk < w.heap.size) (hab : a ≤ b) (hb : b ≤ d.size) (hsz : d.size < 4611686018427387904) :
    Calls Tryd.prog 67 #[.agg #[.func (.func g) #[] lb, .func (.func sf) #[] sb], .int .i64 a, .int .i64 b] w fun e w' => e = .returned (.tuple #[]) ∧ ∃ n os, w' = sortWorld enc w blk off n (Sort.insertionSort lt d a b) os := Any.insertionSort_func_w Tryd.laysGg26 enc lt g lb sf sb blk off a b d w eg hless hswap hH hblk hab hb hsz
def Tryd.laysGg30_ren : Go.Shelf.Ren := ⟨fun | 30 => 71 | n => n, fun | 44 => 145 | 3 => 3 | 0 => 0 | 4 => 4 | 37 => 139 | 26 => 111 | n => n, fun | n => n⟩
theorem Tryd.laysGg30 : Go.Proofs.LaysGg.n30 Tryd.prog Tryd.laysGg30_ren := {
  mixed := by kernel_rfl
  f30 := Tryd.func71.trans (congrArg some (by kernel_rfl))
  t0 := Tryd.underlying0
  a0 := Tryd.isAgg0
  z0 := Tryd.sizeOf0
  v0 := Tryd.zeroValue0
  i0 := by kernel_rfl
  t3 := Tryd.underlying3
  a3 := Tryd.isAgg3
  z3 := Tryd.sizeOf3
  v3 := Tryd.zeroValue3
  i3 := by kernel_rfl
  t4 := Tryd.underlying4
  a4 := Tryd.isAgg4
  z4 := Tryd.sizeOf4
  v4 := Tryd.zeroValue4
  i4 := by kernel_rfl
  t26 := Tryd.underlying111
  a26 := Tryd.isAgg111
  z26 := Tryd.sizeOf111
  v26 := Tryd.zeroValue111
  i26 := by kernel_rfl
  t37 := Tryd.underlying139
  a37 := Tryd.isAgg139
  z37 := Tryd.sizeOf139
  v37 := Tryd.zeroValue139
  i37 := by kernel_rfl
  t44 := Tryd.underlying145
  a44 := Tryd.isAgg145
  z44 := Tryd.sizeOf145
  v44 := Tryd.zeroValue145
  i44 := by kernel_rfl }
open Go.RowKit Go.Lib Go.Sort in
theorem Tryd.reverseRange_func_one {α : Type} [Inhabited α] (enc : α → Value) (lf : Fn) (la lb : Array Value) (sf : Nat) (sb : Array Value) (blk off a b : Nat) (d : Array α) (w : World) (hswap : SwapSwaps Tryd.prog sf sb enc blk off d.size) (hH : Holds enc w blk off d) (hblk : blk < w.heap.size) (hab : a ≤ b) (hb : b ≤ d.size) (hsz : d.size < 4611686018427387904) :
    Calls Tryd.prog 71 #[.agg #[.func lf la lb, .func (.func sf) #[] sb], .int .i64 a, .int .i64 b] w fun e w' => e = .returned (.tuple #[]) ∧ ∃ n, w' = putRow enc (Sort.ahead (w.alloc (.cells #[.func lf la lb, .func (.func sf) #[] sb] 145)) n) blk off (reverseRange d a b) := Any.reverseRange_func_one Tryd.laysGg30 enc lf la lb sf sb blk off a b d w hswap hH hblk hab hb hsz
open Go.RowKit Go.Lib Go.Sort in
theorem Tryd.reverseRange_func_w {α : Type} [Inhabited α] (enc : α → Value) (lf : Fn) (la lb : Array Value) (sf : Nat) (sb : Array Value) (blk off a b : Nat) (d : Array α) (w : World) (hswap : SwapSwaps Tryd.prog sf sb enc blk off d.size) (hH : Holds enc w blk off d) (hblk : blk < w.heap.size) (hab : a ≤ b) (hb : b ≤ d.size) (hsz : d.size < 4611686018427387904) :
    Calls Tryd.prog 71 #[.agg #[.func lf la lb, .func (.func sf) #[] sb], .int .i64 a, .int .i64 b] w fun e w' => e = .returned (.tuple #[]) ∧ ∃ n os, w' = sortWorld enc w blk off n (reverseRange d a b) os := Any.reverseRange_func_w Tryd.laysGg30 enc lf la lb sf sb blk off a b d w hswap hH hblk hab hb hsz
def Tryd.laysGg39_ren : Go.Shelf.Ren := ⟨fun | 39 => 80 | n => n, fun | 44 => 145 | 3 => 3 | 64 => 173 | 0 => 0 | 26 => 111 | 4 => 4 | 37 => 139 | n => n, fun | n => n⟩
theorem Tryd.laysGg39 : Go.Proofs.LaysGg.n39 Tryd.prog Tryd.laysGg39_ren := {
  mixed := by kernel_rfl
  f39 := Tryd.func80.trans (congrArg some (by kernel_rfl))
  t0 := Tryd.underlying0
  a0 := Tryd.isAgg0
  z0 := Tryd.sizeOf0
  v0 := Tryd.zeroValue0
  i0 := by kernel_rfl
  t3 := Tryd.underlying3
  a3 := Tryd.isAgg3
  z3 := Tryd.sizeOf3
  v3 := Tryd.zeroValue3
  i3 := by kernel_rfl
  t4 := Tryd.underlying4
  a4 := Tryd.isAgg4
  z4 := Tryd.sizeOf4
  v4 := Tryd.zeroValue4
  i4 := by kernel_rfl
  t26 := Tryd.underlying111
  a26 := Tryd.isAgg111
  z26 := Tryd.sizeOf111
  v26 := Tryd.zeroValue111
  i26 := by kernel_rfl
  t37 := Tryd.underlying139
  a37 := Tryd.isAgg139
  z37 := Tryd.sizeOf139
  v37 := Tryd.zeroValue139
  i37 := by kernel_rfl
  t44 := Tryd.underlying145
  a44 := Tryd.isAgg145
  z44 := Tryd.sizeOf145
  v44 := Tryd.zeroValue145
  i44 := by kernel_rfl
  t64 := Tryd.underlying173
  a64 := Tryd.isAgg173
  z64 := Tryd.sizeOf173
  v64 := Tryd.zeroValue173
  i64 := by kernel_rfl }
open Go.RowKit Go.Lib Go.Sort in
theorem Tryd.order2_func {α : Type} [Inhabited α] (enc : α → Value) (lt : α → α → Bool) (g : Nat) (lb : Array Value) (sfn : Fn) (sa sb : Array Value) (blk off : Nat) (w0 W : World) (d : Array α) (a b cb co s : Nat) (eg : ∀ args w, (callFunc g args).run Tryd.prog w = .ok (.enter g args) w) (hL : LessReads Tryd.prog g lb enc lt blk off d.size w0) (hW : SW enc w0 blk off d W) (ha : a < d.size) (hb : b < d.size) (hS : Holds (Value.int .i64) W cb co (one s)) (hcb : cb < W.heap.size) (hs : s < 4611686018427387904) :
    Calls Tryd.prog 80 #[.agg #[.func (.func g) #[] lb, .func sfn sa sb], .int .i64 a, .int .i64 b, .pointer (some ⟨cb, co, none⟩)] W fun e w' =>
      e = .returned (.tuple #[.int .i64 (order2 lt d a b s).1, .int .i64 (order2 lt d a b s).2.1]) ∧ ∃ n os, w' = sortWorld (Value.int .i64) W cb co n (one (order2 lt d a b s).2.2) os := Any.order2_func Tryd.laysGg39 enc lt g lb sfn sa sb blk off w0 W d a b cb co s eg hL hW ha hb hS hcb hs
def Tryd.laysGg38_ren : Go.Shelf.Ren := ⟨fun | 38 => 79 | 39 => 80 | n => n, fun | 44 => 145 | 3 => 3 | 64 => 173 | 0 => 0 | 67 => 176 | 26 => 111 | 4 => 4 | 37 => 139 | n => n, fun | n => n⟩
theorem Tryd.laysGg38 : Go.Proofs.LaysGg.n38 Tryd.prog Tryd.laysGg38_ren := {
  mixed := by kernel_rfl
  f38 := Tryd.func79.trans (congrArg some (by kernel_rfl))
  f39 := Tryd.func80.trans (congrArg some (by kernel_rfl))
  t0 := Tryd.underlying0
  a0 := Tryd.isAgg0
  z0 := Tryd.sizeOf0
  v0 := Tryd.zeroValue0
  i0 := by kernel_rfl
  t3 := Tryd.underlying3
  a3 := Tryd.isAgg3
  z3 := Tryd.sizeOf3
  v3 := Tryd.zeroValue3
  i3 := by kernel_rfl
  t4 := Tryd.underlying4
  a4 := Tryd.isAgg4
  z4 := Tryd.sizeOf4
  v4 := Tryd.zeroValue4
  i4 := by kernel_rfl
  t26 := Tryd.underlying111
  a26 := Tryd.isAgg111
  z26 := Tryd.sizeOf111
  v26 := Tryd.zeroValue111
  i26 := by kernel_rfl
  t37 := Tryd.underlying139
  a37 := Tryd.isAgg139
  z37 := Tryd.sizeOf139
  v37 := Tryd.zeroValue139
  i37 := by kernel_rfl
  t44 := Tryd.underlying145
  a44 := Tryd.isAgg145
  z44 := Tryd.sizeOf145
  v44 := Tryd.zeroValue145
  i44 := by kernel_rfl
  t64 := Tryd.underlying173
  a64 := Tryd.isAgg173
  z64 := Tryd.sizeOf173
  v64 := Tryd.zeroValue173
  i64 := by kernel_rfl
  t67 := Tryd.underlying176
  a67 := Tryd.isAgg176
  z67 := Tryd.sizeOf176
  v67 := Tryd.zeroValue176
  i67 := by kernel_rfl }
open Go.RowKit Go.Lib Go.Sort in
theorem Tryd.median_func {α : Type} [Inhabited α] (enc : α → Value) (lt : α → α → Bool) (g : Nat) (lb : Array Value) (sfn : Fn) (sa sb : Array Value) (blk off : Nat) (w0 W : World) (d : Array α) (a b c cb co s : Nat) (eg : ∀ args w, (callFunc g args).run Tryd.prog w = .ok (.enter g args) w) (hL : LessReads Tryd.prog g lb enc lt blk off d.size w0) (hW : SW enc w0 blk off d W) (ha : a < d.size) (hb : b < d.size) (hc : c < d.size) (hS : Holds (Value.int .i64) W cb co (one s)) (hcb0 : w0.heap.size ≤ cb) (hcb : cb < W.heap.size) (hs : s + 3 < 4611686018427387904) :
    Calls Tryd.prog 79 #[.agg #[.func (.func g) #[] lb, .func sfn sa sb], .int .i64 a, .int .i64 b, .int .i64 c, .pointer (some ⟨cb, co, none⟩)] W fun e w' =>
      e = .returned (.int .i64 (median lt d a b c s).1) ∧ ∃ n os, w' = sortWorld (Value.int .i64) W cb co n (one (median lt d a b c s).2) os := Any.median_func Tryd.laysGg38 enc lt g lb sfn sa sb blk off w0 W d a b c cb co s eg hL hW ha hb hc hS hcb0 hcb hs
def Tryd.laysGg37_ren : Go.Shelf.Ren := ⟨fun | 37 => 78 | 38 => 79 | 39 => 80 | n => n, fun | 44 => 145 | 3 => 3 | 64 => 173 | 0 => 0 | 67 => 176 | 26 => 111 | 4 => 4 | 37 => 139 | n => n, fun | n => n⟩
theorem Tryd.laysGg37 : Go.Proofs.LaysGg.n37 Tryd.prog Tryd.laysGg37_ren := {
  mixed := by kernel_rfl
  f37 := Tryd.func78.trans (congrArg some (by kernel_rfl))
  f38 := Tryd.func79.trans (congrArg some (by kernel_rfl))
  f39 := Tryd.func80.trans (congrArg some (by kernel_rfl))
  t0 := Tryd.underlying0
  a0 := Tryd.isAgg0
  z0 := Tryd.sizeOf0
  v0 := Tryd.zeroValue0
  i0 := by kernel_rfl
  t3 := Tryd.underlying3
  a3 := Tryd.isAgg3
  z3 := Tryd.sizeOf3
  v3 := Tryd.zeroValue3
  i3 := by kernel_rfl
  t4 := Tryd.underlying4
  a4 := Tryd.isAgg4
  z4 := Tryd.sizeOf4
  v4 := Tryd.zeroValue4
  i4 := by kernel_rfl
  t26 := Tryd.underlying111
  a26 := Tryd.isAgg111
  z26 := Tryd.sizeOf111
  v26 := Tryd.zeroValue111
  i26 := by kernel_rfl
  t37 := Tryd.underlying139
  a37 := Tryd.isAgg139
  z37 := Tryd.sizeOf139
  v37 := Tryd.zeroValue139
  i37 := by kernel_rfl
  t44 := Tryd.underlying145
  a44 := Tryd.isAgg145
  z44 := Tryd.sizeOf145
  v44 := Tryd.zeroValue145
  i44 := by kernel_rfl
  t64 := Tryd.underlying173
  a64 := Tryd.isAgg173
  z64 := Tryd.sizeOf173
  v64 := Tryd.zeroValue173
  i64 := by kernel_rfl
  t67 := Tryd.underlying176
  a67 := Tryd.isAgg176
  z67 := Tryd.sizeOf176
  v67 := Tryd.zeroValue176
  i67 := by kernel_rfl }
open Go.RowKit Go.Lib Go.Sort in
theorem Tryd.medianAdjacent_func {α : Type} [Inhabited α] (enc : α → Value) (lt : α → α → Bool) (g : Nat) (lb : Array Value) (sfn : Fn) (sa sb : Array Value) (blk off : Nat) (w0 W : World) (d : Array α) (a cb co s : Nat) (eg : ∀ args w, (callFunc g args).run Tryd.prog w = .ok (.enter g args) w) (hL : LessReads Tryd.prog g lb enc lt blk off d.size w0) (hW : SW enc w0 blk off d W) (ha1 : 1 ≤ a) (ha2 : a + 1 < d.size) (hsz : d.size < 4611686018427387904) (hS : Holds (Value.int .i64) W cb co (one s)) (hcb0 : w0.heap.size ≤ cb) (hcb : cb < W.heap.size) (hs : s + 3 < 4611686018427387904) :
    Calls Tryd.prog 78 #[.agg #[.func (.func g) #[] lb, .func sfn sa sb], .int .i64 a, .pointer (some ⟨cb, co, none⟩)] W fun e w' =>
      e = .returned (.int .i64 (medianAdjacent lt d a s).1) ∧ ∃ n os, w' = sortWorld (Value.int .i64) W cb co n (one (medianAdjacent lt d a s).2) os := Any.medianAdjacent_func Tryd.laysGg37 enc lt g lb sfn sa sb blk off w0 W d a cb co s eg hL hW ha1 ha2 hsz hS hcb0 hcb hs
def Tryd.laysGg29_ren : Go.Shelf.Ren := ⟨fun | 29 => 70 | 37 => 78 | 38 => 79 | 39 => 80 | n => n, fun | 44 => 145 | 3 => 3 | 53 => 163 | 0 => 0 | 4 => 4 | 64 => 173 | 67 => 176 | 26 => 111 | 37 => 139 | n => n, fun | n => n⟩
theorem Tryd.laysGg29 : Go.Proofs.LaysGg.n29 Tryd.prog Tryd.laysGg29_ren := {
  mixed := by kernel_rfl
  f29 := Tryd.func70.trans (congrArg some (by kernel_rfl))
  f37 := Tryd.func78.trans (congrArg some (by kernel_rfl))
  f38 := Tryd.func79.trans (congrArg some (by kernel_rfl))
  f39 := Tryd.func80.trans (congrArg some (by kernel_rfl))
  t0 := Tryd.underlying0
  a0 := Tryd.isAgg0
  z0 := Tryd.sizeOf0
  v0 := Tryd.zeroValue0
  i0 := by kernel_rfl
  t3 := Tryd.underlying3
  a3 := Tryd.isAgg3
  z3 := Tryd.sizeOf3
  v3 := Tryd.zeroValue3
  i3 := by kernel_rfl
  t4 := Tryd.underlying4
  a4 := Tryd.isAgg4
  z4 := Tryd.sizeOf4
  v4 := Tryd.zeroValue4
  i4 := by kernel_rfl
  t26 := Tryd.underlying111
  a26 := Tryd.isAgg111
  z26 := Tryd.sizeOf111
  v26 := Tryd.zeroValue111
  i26 := by kernel_rfl
  t37 := Tryd.underlying139
  a37 := Tryd.isAgg139
  z37 := Tryd.sizeOf139
  v37 := Tryd.zeroValue139
  i37 := by kernel_rfl
  t44 := Tryd.underlying145
  a44 := Tryd.isAgg145
  z44 := Tryd.sizeOf145
  v44 := Tryd.zeroValue145
  i44 := by kernel_rfl
  t53 := Tryd.underlying163
  a53 := Tryd.isAgg163
  z53 := Tryd.sizeOf163
  v53 := Tryd.zeroValue163
  i53 := by kernel_rfl
  t64 := Tryd.underlying173
  a64 := Tryd.isAgg173
  z64 := Tryd.sizeOf173
  v64 := Tryd.zeroValue173
  i64 := by kernel_rfl
  t67 := Tryd.underlying176
  a67 := Tryd.isAgg176
  z67 := Tryd.sizeOf176
  v67 := Tryd.zeroValue176
  i67 := by kernel_rfl }
open Go.RowKit Go.Lib Go.Sort in
theorem Tryd.choosePivot_func {α : Type} [Inhabited α] (enc : α → Value) (lt : α → α → Bool) (g : Nat) (lb : Array Value) (sfn : Fn) (sa sb : Array Value) (blk off a b : Nat) (W : World) (d : Array α) (eg : ∀ args w, (callFunc g args).run Tryd.prog w = .ok (.enter g args) w) (hless : LessReads Tryd.prog g lb enc lt blk off d.size W) (hH : Holds enc W blk off d) (hab : a < b) (hb : b ≤ d.size) (hsz : d.size < 4611686018427387904) :
    Calls Tryd.prog 70 #[.agg #[.func (.func g) #[] lb, .func sfn sa sb], .int .i64 a, .int .i64 b] W fun e w' =>
      e = .returned (.tuple #[.int .i64 (choosePivot lt d a b).1, .int .i64 (hintCode (choosePivot lt d a b).2)]) ∧ ∃ n os, w' = grow (Sort.ahead W n) os := Any.choosePivot_func Tryd.laysGg29 enc lt g lb sfn sa sb blk off a b W d eg hless hH hab hb hsz
def Tryd.laysGg32_ren : Go.Shelf.Ren := ⟨fun | 32 => 73 | n => n, fun | 44 => 145 | 3 => 3 | 0 => 0 | 37 => 139 | 4 => 4 | 26 => 111 | n => n, fun | n => n⟩
theorem Tryd.laysGg32 : Go.Proofs.LaysGg.n32 Tryd.prog Tryd.laysGg32_ren := {
  mixed := by kernel_rfl
  f32 := Tryd.func73.trans (congrArg some (by kernel_rfl))
  t0 := Tryd.underlying0
  a0 := Tryd.isAgg0
  z0 := Tryd.sizeOf0
  v0 := Tryd.zeroValue0
  i0 := by kernel_rfl
  t3 := Tryd.underlying3
  a3 := Tryd.isAgg3
  z3 := Tryd.sizeOf3
  v3 := Tryd.zeroValue3
  i3 := by kernel_rfl
  t4 := Tryd.underlying4
  a4 := Tryd.isAgg4
  z4 := Tryd.sizeOf4
  v4 := Tryd.zeroValue4
  i4 := by kernel_rfl
  t26 := Tryd.underlying111
  a26 := Tryd.isAgg111
  z26 := Tryd.sizeOf111
  v26 := Tryd.zeroValue111
  i26 := by kernel_rfl
  t37 := Tryd.underlying139
  a37 := Tryd.isAgg139
  z37 := Tryd.sizeOf139
  v37 := Tryd.zeroValue139
  i37 := by kernel_rfl
  t44 := Tryd.underlying145
  a44 := Tryd.isAgg145
  z44 := Tryd.sizeOf145
  v44 := Tryd.zeroValue145
  i44 := by kernel_rfl }
open Go.RowKit Go.Lib Go.Sort in
theorem Tryd.partitionEqual_func_one {α : Type} [Inhabited α] (enc : α → Value) (lt : α → α → Bool) (g : Nat) (lb : Array Value) (sf : Nat) (sb : Array Value) (blk off a b pivot : Nat) (d : Array α) (W : World) (eg : ∀ args w, (callFunc g args).run Tryd.prog w = .ok (.enter g args) w) (hless : LessReads Tryd.prog g lb enc lt blk off d.size W) (hswap : SwapSwaps Tryd.prog sf sb enc blk off d.size) (hH : Holds enc W blk off d) (hblk : blk < W.heap.size) (hap : a ≤ pivot) (hpb : pivot < b) (hb : b ≤ d.size) (hsz : d.size < 4611686018427387904) :
    Calls Tryd.prog 73 #[.agg #[.func (.func g) #[] lb, .func (.func sf) #[] sb], .int .i64 a, .int .i64 b, .int .i64 pivot] W fun e w' =>
      e = .returned (.int .i64 (Sort.partitionEqual lt d a b pivot).1) ∧ ∃ n, w' = (putRow enc (W.alloc (.cells #[.func (.func g) #[] lb, .func (.func sf) #[] sb] 145)) blk off (Sort.partitionEqual lt d a b pivot).2).drewN n := Any.partitionEqual_func_one Tryd.laysGg32 enc lt g lb sf sb blk off a b pivot d W eg hless hswap hH hblk hap hpb hb hsz
def Tryd.laysGg33_ren : Go.Shelf.Ren := ⟨fun | 33 => 74 | n => n, fun | 44 => 145 | 3 => 3 | 4 => 4 | 0 => 0 | 37 => 139 | 26 => 111 | n => n, fun | n => n⟩
theorem Tryd.laysGg33 : Go.Proofs.LaysGg.n33 Tryd.prog Tryd.laysGg33_ren := {
  mixed := by kernel_rfl
  f33 := Tryd.func74.trans (congrArg some (by kernel_rfl))
  t0 := Tryd.underlying0
  a0 := Tryd.isAgg0
  z0 := Tryd.sizeOf0
  v0 := Tryd.zeroValue0
  i0 := by kernel_rfl
  t3 := Tryd.underlying3
  a3 := Tryd.isAgg3
  z3 := Tryd.sizeOf3
  v3 := Tryd.zeroValue3
  i3 := by kernel_rfl
  t4 := Tryd.underlying4
  a4 := Tryd.isAgg4
  z4 := Tryd.sizeOf4
  v4 := Tryd.zeroValue4
  i4 := by kernel_rfl
  t26 := Tryd.underlying111
  a26 := Tryd.isAgg111
  z26 := Tryd.sizeOf111
  v26 := Tryd.zeroValue111
  i26 := by kernel_rfl
  t37 := Tryd.underlying139
  a37 := Tryd.isAgg139
  z37 := Tryd.sizeOf139
  v37 := Tryd.zeroValue139
  i37 := by kernel_rfl
  t44 := Tryd.underlying145
  a44 := Tryd.isAgg145
  z44 := Tryd.sizeOf145
  v44 := Tryd.zeroValue145
  i44 := by kernel_rfl }
open Go.RowKit Go.Lib Go.Sort in
theorem Tryd.partition_func_one {α : Type} [Inhabited α] (enc : α → Value) (lt : α → α → Bool) (g : Nat) (lb : Array Value) (sf : Nat) (sb : Array Value) (blk off a b pivot : Nat) (d : Array α) (W : World) (eg : ∀ args w, (callFunc g args).run Tryd.prog w = .ok (.enter g args) w) (hless : LessReads Tryd.prog g lb enc lt blk off d.size W) (hswap : SwapSwaps Tryd.prog sf sb enc blk off d.size) (hH : Holds enc W blk off d) (hblk : blk < W.heap.size) (hap : a ≤ pivot) (hpb : pivot < b) (hb : b ≤ d.size) (hsz : d.size < 4611686018427387904) :
    Calls Tryd.prog 74 #[.agg #[.func (.func g) #[] lb, .func (.func sf) #[] sb], .int .i64 a, .int .i64 b, .int .i64 pivot] W fun e w' =>
      e = .returned (.tuple #[.int .i64 (Sort.partition lt d a b pivot).1, .bool (Sort.partition lt d a b pivot).2.1]) ∧ ∃ n, w' = (putRow enc (W.alloc (.cells #[.func (.func g) #[] lb, .func (.func sf) #[] sb] 145)) blk off (Sort.partition lt d a b pivot).2.2).drewN n := Any.partition_func_one Tryd.laysGg33 enc lt g lb sf sb blk off a b pivot d W eg hless hswap hH hblk hap hpb hb hsz
open Go.RowKit Go.Lib Go.Sort in
theorem Tryd.partitionEqual_func_w {α : Type} [Inhabited α] (enc : α → Value) (lt : α → α → Bool) (g : Nat) (lb : Array Value) (sf : Nat) (sb : Array Value) (blk off a b pivot : Nat) (d : Array α) (W : World) (eg : ∀ args w, (callFunc g args).run Tryd.prog w = .ok (.enter g args) w) (hless : LessReads Tryd.prog g lb enc lt blk off d.size W) (hswap : SwapSwaps Tryd.prog sf sb enc blk off d.size) (hH : Holds enc W blk off d) (hblk : blk < W.heap.size) (hap : a ≤ pivot) (hpb : pivot < b) (hb : b ≤ d.size) (hsz : d.size < 4611686018427387904) :
    Calls Tryd.prog 73 #[.agg #[.func (.func g) #[] lb, .func (.func sf) #[] sb], .int .i64 a, .int .i64 b, .int .i64 pivot] W fun e w' => e = .returned (.int .i64 (Sort.partitionEqual lt d a b pivot).1) ∧ ∃ n os, w' = sortWorld enc W blk off n (Sort.partitionEqual lt d a b pivot).2 os := Any.partitionEqual_func_w Tryd.laysGg32 enc lt g lb sf sb blk off a b pivot d W eg hless hswap hH hblk hap hpb hb hsz
open Go.RowKit Go.Lib Go.Sort in
theorem Tryd.partition_func_w {α : Type} [Inhabited α] (enc : α → Value) (lt : α → α → Bool) (g : Nat) (lb : Array Value) (sf : Nat) (sb : Array Value) (blk off a b pivot : Nat) (d : Array α) (W : World) (eg : ∀ args w, (callFunc g args).run Tryd.prog w = .ok (.enter g args) w) (hless : LessReads Tryd.prog g lb enc lt blk off d.size W) (hswap : SwapSwaps Tryd.prog sf sb enc blk off d.size) (hH : Holds enc W blk off d) (hblk : blk < W.heap.size) (hap : a ≤ pivot) (hpb : pivot < b) (hb : b ≤ d.size) (hsz : d.size < 4611686018427387904) :
    Calls Tryd.prog 74 #[.agg #[.func (.func g) #[] lb, .func (.func sf) #[] sb], .int .i64 a, .int .i64 b, .int .i64 pivot] W fun e w' => e = .returned (.tuple #[.int .i64 (Sort.partition lt d a b pivot).1, .bool (Sort.partition lt d a b pivot).2.1]) ∧ ∃ n os, w' = sortWorld enc W blk off n (Sort.partition lt d a b pivot).2.2 os := Any.partition_func_w Tryd.laysGg33 enc lt g lb sf sb blk off a b pivot d W eg hless hswap hH hblk hap hpb hb hsz
open Go.RowKit Go.Lib Go.Sort in
theorem Tryd.pdqsort_func_all {α : Type} [Inhabited α] (enc : α → Value) (lt : α → α → Bool) (hO : SWO lt) (g : Nat) (lb : Array Value) (sf : Nat) (sb : Array Value) (eg : ∀ args w, (callFunc g args).run Tryd.prog w = .ok (.enter g args) w) :
    ∀ (N blk off a b limit : Nat) (d : Array α) (w : World), b - a < N → LessReads Tryd.prog g lb enc lt blk off d.size w → SwapSwaps Tryd.prog sf sb enc blk off d.size → Holds enc w blk off d → blk < w.heap.size → a ≤ b → b ≤ d.size → d.size < 4611686018427387904 → limit < 4611686018427387904 → Below lt a b d →
    Calls Tryd.prog 53 #[.agg #[.func (.func g) #[] lb, .func (.func sf) #[] sb], .int .i64 a, .int .i64 b, .int .i64 limit] w fun e w' => e = .returned (.tuple #[]) ∧ At enc w blk off (pdq lt d a b limit true true) w' := Any.pdqsort_func_all Tryd.laysGg14 enc lt hO g lb sf sb eg
def Tryd.laysGg36_ren : Go.Shelf.Ren := ⟨fun | 36 => 77 | n => n, fun | 66 => 175 | 51 => 45 | 0 => 0 | 60 => 169 | 41 => 44 | n => n, fun | n => n⟩
theorem Tryd.laysGg36 : Go.Proofs.LaysGg.n36 Tryd.prog Tryd.laysGg36_ren := {
  mixed := by kernel_rfl
  f36 := Tryd.func77.trans (congrArg some (by kernel_rfl))
  t0 := Tryd.underlying0
  a0 := Tryd.isAgg0
  z0 := Tryd.sizeOf0
  v0 := Tryd.zeroValue0
  i0 := by kernel_rfl
  t41 := Tryd.underlying44
  a41 := Tryd.isAgg44
  z41 := Tryd.sizeOf44
  v41 := Tryd.zeroValue44
  i41 := by kernel_rfl
  t51 := Tryd.underlying45
  a51 := Tryd.isAgg45
  z51 := Tryd.sizeOf45
  v51 := Tryd.zeroValue45
  i51 := by kernel_rfl
  t60 := Tryd.underlying169
  a60 := Tryd.isAgg169
  z60 := Tryd.sizeOf169
  v60 := Tryd.zeroValue169
  i60 := by kernel_rfl
  t66 := Tryd.underlying175
  a66 := Tryd.isAgg175
  z66 := Tryd.sizeOf175
  v66 := Tryd.zeroValue175
  i66 := by kernel_rfl }
open Go.RowKit Go.Lib Go.Sort in
theorem Tryd.xorshift_Next (rb ro X : Nat) (hX : X < 18446744073709551616) (w : World) (hc : w.cell? ⟨rb, ro, none⟩ = some (.int .u64 X)) (hf : w.frozen? ⟨rb, ro, none⟩ = false) :
    Calls Tryd.prog 77 #[.pointer (some ⟨rb, ro, none⟩)] w fun e w' => e = .returned (.int .u64 (xorNextN X : Nat)) ∧ w' = (w.setCell ⟨rb, ro, none⟩ (.int .u64 (xorNextN X : Nat))).drewN 3 := Any.xorshift_Next Tryd.laysGg36 rb ro X hX w hc hf
def Tryd.laysGg35_ren : Go.Shelf.Ren := ⟨fun | 35 => 76 | 13 => 52 | 24 => 65 | 25 => 66 | n => n, fun | 3 => 3 | 41 => 44 | 49 => 51 | 51 => 45 | 4 => 4 | 5 => 5 | 9 => 9 | n => n, fun | n => n⟩
theorem Tryd.laysGg35 : Go.Proofs.LaysGg.n35 Tryd.prog Tryd.laysGg35_ren := {
  mixed := by kernel_rfl
  f13 := Tryd.func52.trans (congrArg some (by kernel_rfl))
  f24 := Tryd.func65.trans (congrArg some (by kernel_rfl))
  f25 := Tryd.func66.trans (congrArg some (by kernel_rfl))
  f35 := Tryd.func76.trans (congrArg some (by kernel_rfl))
  t3 := Tryd.underlying3
  a3 := Tryd.isAgg3
  z3 := Tryd.sizeOf3
  v3 := Tryd.zeroValue3
  i3 := by kernel_rfl
  t4 := Tryd.underlying4
  a4 := Tryd.isAgg4
  z4 := Tryd.sizeOf4
  v4 := Tryd.zeroValue4
  i4 := by kernel_rfl
  t5 := Tryd.underlying5
  a5 := Tryd.isAgg5
  z5 := Tryd.sizeOf5
  v5 := Tryd.zeroValue5
  i5 := by kernel_rfl
  t9 := Tryd.underlying9
  a9 := Tryd.isAgg9
  z9 := Tryd.sizeOf9
  v9 := Tryd.zeroValue9
  i9 := by kernel_rfl
  t41 := Tryd.underlying44
  a41 := Tryd.isAgg44
  z41 := Tryd.sizeOf44
  v41 := Tryd.zeroValue44
  i41 := by kernel_rfl
  t49 := Tryd.underlying51
  a49 := Tryd.isAgg51
  z49 := Tryd.sizeOf51
  v49 := Tryd.zeroValue51
  i49 := by kernel_rfl
  t51 := Tryd.underlying45
  a51 := Tryd.isAgg45
  z51 := Tryd.sizeOf45
  v51 := Tryd.zeroValue45
  i51 := by kernel_rfl }
open Go.RowKit Go.Lib Go.Sort in
theorem Tryd.nextPowerOfTwo (n : Nat) (hn : n < 4611686018427387904) (w : World) :
    Calls Tryd.prog 76 #[.int .i64 n] w fun e w' => e = .returned (.int .u64 ((1 <<< bitsLen n : Nat) : Int)) ∧ w' = w := Any.nextPowerOfTwo Tryd.laysGg35 n hn w
open Go.RowKit Go.Lib Go.Sort in
theorem Tryd.insertionSort_func_cells_w {α : Type} [Inhabited α] (enc : α → List Value) (k : Nat) (hk : ∀ x, (enc x).length = k) (lt : α → α → Bool) (g : Nat) (lb : Array Value) (sf : Nat) (sb : Array Value) (blk off a b : Nat) (d : Array α) (w : World) (eg : ∀ args w, (callFunc g args).run Tryd.prog w = .ok (.enter g args) w) (hless : LessReadsK Tryd.prog g lb enc k lt blk off d.size w) (hswap : SwapSwapsK Tryd.prog sf sb enc k blk off d.size) (hH : HoldsK enc k w blk off d) (hblk : blk < w.heap.size) (hab : a ≤ b) (hb : b ≤ d.size) (hsz : d.size < 4611686018427387904) :
    Calls Tryd.prog 67 #[.agg #[.func (.func g) #[] lb, .func (.func sf) #[] sb], .int .i64 a, .int .i64 b] w fun e w' => e = .returned (.tuple #[]) ∧ ∃ n os, w' = sortWorldK enc k w blk off n (Sort.insertionSort lt d a b) os := Any.insertionSort_func_cells_w Tryd.laysGg26 enc k hk lt g lb sf sb blk off a b d w eg hless hswap hH hblk hab hb hsz
open Go.RowKit Go.Lib Go.Sort in
theorem Tryd.reverseRange_func_cells {α : Type} [Inhabited α] (enc : α → List Value) (k : Nat) (hk : ∀ x, (enc x).length = k) (lf : Fn) (la lb : Array Value) (sf : Nat) (sb : Array Value) (blk off a b : Nat) (d : Array α) (w : World) (hswap : SwapSwapsK Tryd.prog sf sb enc k blk off d.size) (hH : HoldsK enc k w blk off d) (hblk : blk < w.heap.size) (hab : a ≤ b) (hb : b ≤ d.size) (hsz : d.size < 4611686018427387904) :
    Calls Tryd.prog 71 #[.agg #[.func lf la lb, .func (.func sf) #[] sb], .int .i64 a, .int .i64 b] w fun e w' => e = .returned (.tuple #[]) ∧ ∃ n, w' = putRowK enc k (Sort.ahead (w.alloc (.cells #[.func lf la lb, .func (.func sf) #[] sb] 145)) n) blk off (reverseRange d a b) := Any.reverseRange_func_cells Tryd.laysGg30 enc k hk lf la lb sf sb blk off a b d w hswap hH hblk hab hb hsz
open Go.RowKit Go.Lib Go.Sort in
theorem Tryd.reverseRange_func_cells_w {α : Type} [Inhabited α] (enc : α → List Value) (k : Nat) (hk : ∀ x, (enc x).length = k) (lf : Fn) (la lb : Array Value) (sf : Nat) (sb : Array Value) (blk off a b : Nat) (d : Array α) (w : World) (hswap : SwapSwapsK Tryd.prog sf sb enc k blk off d.size) (hH : HoldsK enc k w blk off d) (hblk : blk < w.heap.size) (hab : a ≤ b) (hb : b ≤ d.size) (hsz : d.size < 4611686018427387904) :
    Calls Tryd.prog 71 #[.agg #[.func lf la lb, .func (.func sf) #[] sb], .int .i64 a, .int .i64 b] w fun e w' => e = .returned (.tuple #[]) ∧ ∃ n os, w' = sortWorldK enc k w blk off n (reverseRange d a b) os := Any.reverseRange_func_cells_w Tryd.laysGg30 enc k hk lf la lb sf sb blk off a b d w hswap hH hblk hab hb hsz
def Tryd.laysGg34_ren : Go.Shelf.Ren := ⟨fun | 34 => 75 | n => n, fun | 44 => 145 | 3 => 3 | 0 => 0 | 4 => 4 | 26 => 111 | 37 => 139 | n => n, fun | n => n⟩
theorem Tryd.laysGg34 : Go.Proofs.LaysGg.n34 Tryd.prog Tryd.laysGg34_ren := {
  mixed := by kernel_rfl
  f34 := Tryd.func75.trans (congrArg some (by kernel_rfl))
  t0 := Tryd.underlying0
  a0 := Tryd.isAgg0
  z0 := Tryd.sizeOf0
  v0 := Tryd.zeroValue0
  i0 := by kernel_rfl
  t3 := Tryd.underlying3
  a3 := Tryd.isAgg3
  z3 := Tryd.sizeOf3
  v3 := Tryd.zeroValue3
  i3 := by kernel_rfl
  t4 := Tryd.underlying4
  a4 := Tryd.isAgg4
  z4 := Tryd.sizeOf4
  v4 := Tryd.zeroValue4
  i4 := by kernel_rfl
  t26 := Tryd.underlying111
  a26 := Tryd.isAgg111
  z26 := Tryd.sizeOf111
  v26 := Tryd.zeroValue111
  i26 := by kernel_rfl
  t37 := Tryd.underlying139
  a37 := Tryd.isAgg139
  z37 := Tryd.sizeOf139
  v37 := Tryd.zeroValue139
  i37 := by kernel_rfl
  t44 := Tryd.underlying145
  a44 := Tryd.isAgg145
  z44 := Tryd.sizeOf145
  v44 := Tryd.zeroValue145
  i44 := by kernel_rfl }
open Go.RowKit Go.Lib Go.Sort in
theorem Tryd.siftDown_func_cells {α : Type} [Inhabited α] (enc : α → List Value) (k : Nat) (hk : ∀ x, (enc x).length = k) (lt : α → α → Bool) (g : Nat) (lb : Array Value) (sf : Nat) (sb : Array Value) (blk off lo hi first : Nat) (d : Array α) (w : World) (eg : ∀ args w, (callFunc g args).run Tryd.prog w = .ok (.enter g args) w) (hless : LessReadsK Tryd.prog g lb enc k lt blk off d.size w) (hswap : SwapSwapsK Tryd.prog sf sb enc k blk off d.size) (hH : HoldsK enc k w blk off d) (hblk : blk < w.heap.size) (hlo : lo ≤ hi) (hb : first + hi ≤ d.size) (hsz : d.size < 4611686018427387904) :
    Calls Tryd.prog 75 #[.agg #[.func (.func g) #[] lb, .func (.func sf) #[] sb], .int .i64 lo, .int .i64 hi, .int .i64 first] w fun e w' =>
      e = .returned (.tuple #[]) ∧ ∃ n, w' = putRowK enc k (Sort.ahead (w.alloc (.cells #[.func (.func g) #[] lb, .func (.func sf) #[] sb] 145)) n) blk off (siftDown lt hi first lo d) := Any.siftDown_func_cells Tryd.laysGg34 enc k hk lt g lb sf sb blk off lo hi first d w eg hless hswap hH hblk hlo hb hsz
open Go.RowKit Go.Lib Go.Sort in
theorem Tryd.siftDown_func_cells_w {α : Type} [Inhabited α] (enc : α → List Value) (k : Nat) (hk : ∀ x, (enc x).length = k) (lt : α → α → Bool) (g : Nat) (lb : Array Value) (sf : Nat) (sb : Array Value) (blk off lo hi first : Nat) (d : Array α) (w : World) (eg : ∀ args w, (callFunc g args).run Tryd.prog w = .ok (.enter g args) w) (hless : LessReadsK Tryd.prog g lb enc k lt blk off d.size w) (hswap : SwapSwapsK Tryd.prog sf sb enc k blk off d.size) (hH : HoldsK enc k w blk off d) (hblk : blk < w.heap.size) (hlo : lo ≤ hi) (hb : first + hi ≤ d.size) (hsz : d.size < 4611686018427387904) :
    Calls Tryd.prog 75 #[.agg #[.func (.func g) #[] lb, .func (.func sf) #[] sb], .int .i64 lo, .int .i64 hi, .int .i64 first] w fun e w' => e = .returned (.tuple #[]) ∧ ∃ n os, w' = sortWorldK enc k w blk off n (siftDown lt hi first lo d) os := Any.siftDown_func_cells_w Tryd.laysGg34 enc k hk lt g lb sf sb blk off lo hi first d w eg hless hswap hH hblk hlo hb hsz
def Tryd.laysGg27_ren : Go.Shelf.Ren := ⟨fun | 27 => 68 | 34 => 75 | n => n, fun | 44 => 145 | 3 => 3 | 0 => 0 | 4 => 4 | 37 => 139 | 26 => 111 | n => n, fun | n => n⟩
theorem Tryd.laysGg27 : Go.Proofs.LaysGg.n27 Tryd.prog Tryd.laysGg27_ren := {
  mixed := by kernel_rfl
  f27 := Tryd.func68.trans (congrArg some (by kernel_rfl))
  f34 := Tryd.func75.trans (congrArg some (by kernel_rfl))
  t0 := Tryd.underlying0
  a0 := Tryd.isAgg0
  z0 := Tryd.sizeOf0
  v0 := Tryd.zeroValue0
  i0 := by kernel_rfl
  t3 := Tryd.underlying3
  a3 := Tryd.isAgg3
  z3 := Tryd.sizeOf3
  v3 := Tryd.zeroValue3
  i3 := by kernel_rfl
  t4 := Tryd.underlying4
  a4 := Tryd.isAgg4
  z4 := Tryd.sizeOf4
  v4 := Tryd.zeroValue4
  i4 := by kernel_rfl
  t26 := Tryd.underlying111
  a26 := Tryd.isAgg111
  z26 := Tryd.sizeOf111
  v26 := Tryd.zeroValue111
  i26 := by kernel_rfl
  t37 := Tryd.underlying139
  a37 := Tryd.isAgg139
  z37 := Tryd.sizeOf139
  v37 := Tryd.zeroValue139
  i37 := by kernel_rfl
  t44 := Tryd.underlying145
  a44 := Tryd.isAgg145
  z44 := Tryd.sizeOf145
  v44 := Tryd.zeroValue145
  i44 := by kernel_rfl }
open Go.RowKit Go.Lib Go.Sort in
theorem Tryd.heapSort_func_cells_w {α : Type} [Inhabited α] (enc : α → List Value) (k : Nat) (hk : ∀ x, (enc x).length = k) (lt : α → α → Bool) (g : Nat) (lb : Array Value) (sf : Nat) (sb : Array Value) (blk off a b : Nat) (d : Array α) (w : World) (eg : ∀ args w, (callFunc g args).run Tryd.prog w = .ok (.enter g args) w) (hless : LessReadsK Tryd.prog g lb enc k lt blk off d.size w) (hswap : SwapSwapsK Tryd.prog sf sb enc k blk off d.size) (hH : HoldsK enc k w blk off d) (hblk : blk < w.heap.size) (hab : a ≤ b) (hb : b ≤ d.size) (hsz : d.size < 4611686018427387904) :
    Calls Tryd.prog 68 #[.agg #[.func (.func g) #[] lb, .func (.func sf) #[] sb], .int .i64 a, .int .i64 b] w fun e w' => e = .returned (.tuple #[]) ∧ ∃ n os, w' = sortWorldK enc k w blk off n (heapSort lt d a b) os := Any.heapSort_func_cells_w Tryd.laysGg27 enc k hk lt g lb sf sb blk off a b d w eg hless hswap hH hblk hab hb hsz
def Tryd.laysGg31_ren : Go.Shelf.Ren := ⟨fun | 31 => 72 | n => n, fun | 44 => 145 | 3 => 3 | 4 => 4 | 0 => 0 | 26 => 111 | 37 => 139 | n => n, fun | n => n⟩
theorem Tryd.laysGg31 : Go.Proofs.LaysGg.n31 Tryd.prog Tryd.laysGg31_ren := {
  mixed := by kernel_rfl
  f31 := Tryd.func72.trans (congrArg some (by kernel_rfl))
  t0 := Tryd.underlying0
  a0 := Tryd.isAgg0
  z0 := Tryd.sizeOf0
  v0 := Tryd.zeroValue0
  i0 := by kernel_rfl
  t3 := Tryd.underlying3
  a3 := Tryd.isAgg3
  z3 := Tryd.sizeOf3
  v3 := Tryd.zeroValue3
  i3 := by kernel_rfl
  t4 := Tryd.underlying4
  a4 := Tryd.isAgg4
  z4 := Tryd.sizeOf4
  v4 := Tryd.zeroValue4
  i4 := by kernel_rfl
  t26 := Tryd.underlying111
  a26 := Tryd.isAgg111
  z26 := Tryd.sizeOf111
  v26 := Tryd.zeroValue111
  i26 := by kernel_rfl
  t37 := Tryd.underlying139
  a37 := Tryd.isAgg139
  z37 := Tryd.sizeOf139
  v37 := Tryd.zeroValue139
  i37 := by kernel_rfl
  t44 := Tryd.underlying145
  a44 := Tryd.isAgg145
  z44 := Tryd.sizeOf145
  v44 := Tryd.zeroValue145
  i44 := by kernel_rfl }
open Go.RowKit Go.Lib Go.Sort in
theorem Tryd.partialInsertionSort_func_cells {α : Type} [Inhabited α] (enc : α → List Value) (k : Nat) (hk : ∀ x, (enc x).length = k) (lt : α → α → Bool) (g : Nat) (lb : Array Value) (sf : Nat) (sb : Array Value) (blk off a b : Nat) (d : Array α) (w : World) (eg : ∀ args w, (callFunc g args).run Tryd.prog w = .ok (.enter g args) w) (hless : LessReadsK Tryd.prog g lb enc k lt blk off d.size w) (hswap : SwapSwapsK Tryd.prog sf sb enc k blk off d.size) (hH : HoldsK enc k w blk off d) (hblk : blk < w.heap.size) (hab : a < b) (hb : b ≤ d.size) (hsz : d.size < 4611686018427387904) :
    Calls Tryd.prog 72 #[.agg #[.func (.func g) #[] lb, .func (.func sf) #[] sb], .int .i64 a, .int .i64 b] w fun e w' =>
      e = .returned (.bool (Sort.partialInsertionSort lt d a b).2) ∧ ∃ n, w' = putRowK enc k (Sort.ahead (w.alloc (.cells #[.func (.func g) #[] lb, .func (.func sf) #[] sb] 145)) n) blk off (Sort.partialInsertionSort lt d a b).1 := Any.partialInsertionSort_func_cells Tryd.laysGg31 enc k hk lt g lb sf sb blk off a b d w eg hless hswap hH hblk hab hb hsz
open Go.RowKit Go.Lib Go.Sort in
theorem Tryd.partialInsertionSort_func_cells_w {α : Type} [Inhabited α] (enc : α → List Value) (k : Nat) (hk : ∀ x, (enc x).length = k) (lt : α → α → Bool) (g : Nat) (lb : Array Value) (sf : Nat) (sb : Array Value) (blk off a b : Nat) (d : Array α) (w : World) (eg : ∀ args w, (callFunc g args).run Tryd.prog w = .ok (.enter g args) w) (hless : LessReadsK Tryd.prog g lb enc k lt blk off d.size w) (hswap : SwapSwapsK Tryd.prog sf sb enc k blk off d.size) (hH : HoldsK enc k w blk off d) (hblk : blk < w.heap.size) (hab : a < b) (hb : b ≤ d.size) (hsz : d.size < 4611686018427387904) :
    Calls Tryd.prog 72 #[.agg #[.func (.func g) #[] lb, .func (.func sf) #[] sb], .int .i64 a, .int .i64 b] w fun e w' => e = .returned (.bool (Sort.partialInsertionSort lt d a b).2) ∧ ∃ n os, w' = sortWorldK enc k w blk off n (Sort.partialInsertionSort lt d a b).1 os := Any.partialInsertionSort_func_cells_w Tryd.laysGg31 enc k hk lt g lb sf sb blk off a b d w eg hless hswap hH hblk hab hb hsz
open Go.RowKit Go.Lib Go.Sort in
theorem Tryd.order2_func_cells {α : Type} [Inhabited α] (enc : α → List Value) (k : Nat) (hk : ∀ x, (enc x).length = k) (lt : α → α → Bool) (g : Nat) (lb : Array Value) (sfn : Fn) (sa sb : Array Value) (blk off : Nat) (w0 W : World) (d : Array α) (a b cb co s : Nat) (eg : ∀ args w, (callFunc g args).run Tryd.prog w = .ok (.enter g args) w) (hL : LessReadsK Tryd.prog g lb enc k lt blk off d.size w0) (hW : SWK enc k w0 blk off d W) (ha : a < d.size) (hb : b < d.size) (hS : Holds (Value.int .i64) W cb co (one s)) (hcb : cb < W.heap.size) (hs : s < 4611686018427387904) :
    Calls Tryd.prog 80 #[.agg #[.func (.func g) #[] lb, .func sfn sa sb], .int .i64 a, .int .i64 b, .pointer (some ⟨cb, co, none⟩)] W fun e w' =>
      e = .returned (.tuple #[.int .i64 (order2 lt d a b s).1, .int .i64 (order2 lt d a b s).2.1]) ∧ ∃ n os, w' = sortWorld (Value.int .i64) W cb co n (one (order2 lt d a b s).2.2) os := Any.order2_func_cells Tryd.laysGg39 enc k hk lt g lb sfn sa sb blk off w0 W d a b cb co s eg hL hW ha hb hS hcb hs
open Go.RowKit Go.Lib Go.Sort in
theorem Tryd.median_func_cells {α : Type} [Inhabited α] (enc : α → List Value) (k : Nat) (hk : ∀ x, (enc x).length = k) (lt : α → α → Bool) (g : Nat) (lb : Array Value) (sfn : Fn) (sa sb : Array Value) (blk off : Nat) (w0 W : World) (d : Array α) (a b c cb co s : Nat) (eg : ∀ args w, (callFunc g args).run Tryd.prog w = .ok (.enter g args) w) (hL : LessReadsK Tryd.prog g lb enc k lt blk off d.size w0) (hW : SWK enc k w0 blk off d W) (ha : a < d.size) (hb : b < d.size) (hc : c < d.size) (hS : Holds (Value.int .i64) W cb co (one s)) (hcb0 : w0.heap.size ≤ cb) (hcb : cb < W.heap.size) (hs : s + 3 < 4611686018427387904) :
    Calls Tryd.prog 79 #[.agg #[.func (.func g) #[] lb, .func sfn sa sb], .int .i64 a, .int .i64 b, .int .i64 c, .pointer (some ⟨cb, co, none⟩)] W fun e w' =>
      e = .returned (.int .i64 (median lt d a b c s).1) ∧ ∃ n os, w' = sortWorld (Value.int .i64) W cb co n (one (median lt d a b c s).2) os := Any.median_func_cells Tryd.laysGg38 enc k hk lt g lb sfn sa sb blk off w0 W d a b c cb co s eg hL hW ha hb hc hS hcb0 hcb hs
open Go.RowKit Go.Lib Go.Sort in
theorem Tryd.medianAdjacent_func_cells {α : Type} [Inhabited α] (enc : α → List Value) (k : Nat) (hk : ∀ x, (enc x).length = k) (lt : α → α → Bool) (g : Nat) (lb : Array Value) (sfn : Fn) (sa sb : Array Value) (blk off : Nat) (w0 W : World) (d : Array α) (a cb co s : Nat) (eg : ∀ args w, (callFunc g args).run Tryd.prog w = .ok (.enter g args) w) (hL : LessReadsK Tryd.prog g lb enc k lt blk off d.size w0) (hW : SWK enc k w0 blk off d W) (ha1 : 1 ≤ a) (ha2 : a + 1 < d.size) (hsz : d.size < 4611686018427387904) (hS : Holds (Value.int .i64) W cb co (one s)) (hcb0 : w0.heap.size ≤ cb) (hcb : cb < W.heap.size) (hs : s + 3 < 4611686018427387904) :
    Calls Tryd.prog 78 #[.agg #[.func (.func g) #[] lb, .func sfn sa sb], .int .i64 a, .pointer (some ⟨cb, co, none⟩)] W fun e w' =>
      e = .returned (.int .i64 (medianAdjacent lt d a s).1) ∧ ∃ n os, w' = sortWorld (Value.int .i64) W cb co n (one (medianAdjacent lt d a s).2) os := Any.medianAdjacent_func_cells Tryd.laysGg37 enc k hk lt g lb sfn sa sb blk off w0 W d a cb co s eg hL hW ha1 ha2 hsz hS hcb0 hcb hs
open Go.RowKit Go.Lib Go.Sort in
theorem Tryd.choosePivot_func_cells {α : Type} [Inhabited α] (enc : α → List Value) (k : Nat) (hk : ∀ x, (enc x).length = k) (lt : α → α → Bool) (g : Nat) (lb : Array Value) (sfn : Fn) (sa sb : Array Value) (blk off a b : Nat) (W : World) (d : Array α) (eg : ∀ args w, (callFunc g args).run Tryd.prog w = .ok (.enter g args) w) (hless : LessReadsK Tryd.prog g lb enc k lt blk off d.size W) (hH : HoldsK enc k W blk off d) (hab : a < b) (hb : b ≤ d.size) (hsz : d.size < 4611686018427387904) :
    Calls Tryd.prog 70 #[.agg #[.func (.func g) #[] lb, .func sfn sa sb], .int .i64 a, .int .i64 b] W fun e w' =>
      e = .returned (.tuple #[.int .i64 (choosePivot lt d a b).1, .int .i64 (hintCode (choosePivot lt d a b).2)]) ∧ ∃ n os, w' = grow (Sort.ahead W n) os := Any.choosePivot_func_cells Tryd.laysGg29 enc k hk lt g lb sfn sa sb blk off a b W d eg hless hH hab hb hsz
open Go.RowKit Go.Lib Go.Sort in
theorem Tryd.partitionEqual_func_cells {α : Type} [Inhabited α] (enc : α → List Value) (k : Nat) (hk : ∀ x, (enc x).length = k) (lt : α → α → Bool) (g : Nat) (lb : Array Value) (sf : Nat) (sb : Array Value) (blk off a b pivot : Nat) (d : Array α) (W : World) (eg : ∀ args w, (callFunc g args).run Tryd.prog w = .ok (.enter g args) w) (hless : LessReadsK Tryd.prog g lb enc k lt blk off d.size W) (hswap : SwapSwapsK Tryd.prog sf sb enc k blk off d.size) (hH : HoldsK enc k W blk off d) (hblk : blk < W.heap.size) (hap : a ≤ pivot) (hpb : pivot < b) (hb : b ≤ d.size) (hsz : d.size < 4611686018427387904) :
    Calls Tryd.prog 73 #[.agg #[.func (.func g) #[] lb, .func (.func sf) #[] sb], .int .i64 a, .int .i64 b, .int .i64 pivot] W fun e w' =>
      e = .returned (.int .i64 (Sort.partitionEqual lt d a b pivot).1) ∧ ∃ n, w' = (putRowK enc k (W.alloc (.cells #[.func (.func g) #[] lb, .func (.func sf) #[] sb] 145)) blk off (Sort.partitionEqual lt d a b pivot).2).drewN n := Any.partitionEqual_func_cells Tryd.laysGg32 enc k hk lt g lb sf sb blk off a b pivot d W eg hless hswap hH hblk hap hpb hb hsz
open Go.RowKit Go.Lib Go.Sort in
theorem Tryd.partition_func_cells {α : Type} [Inhabited α] (enc : α → List Value) (k : Nat) (hk : ∀ x, (enc x).length = k) (lt : α → α → Bool) (g : Nat) (lb : Array Value) (sf : Nat) (sb : Array Value) (blk off a b pivot : Nat) (d : Array α) (W : World) (eg : ∀ args w, (callFunc g args).run Tryd.prog w = .ok (.enter g args) w) (hless : LessReadsK Tryd.prog g lb enc k lt blk off d.size W) (hswap : SwapSwapsK Tryd.prog sf sb enc k blk off d.size) (hH : HoldsK enc k W blk off d) (hblk : blk < W.heap.size) (hap : a ≤ pivot) (hpb : pivot < b) (hb : b ≤ d.size) (hsz : d.size < 4611686018427387904) :
    Calls Tryd.prog 74 #[.agg #[.func (.func g) #[] lb, .func (.func sf) #[] sb], .int .i64 a, .int .i64 b, .int .i64 pivot] W fun e w' =>
      e = .returned (.tuple #[.int .i64 (Sort.partition lt d a b pivot).1, .bool (Sort.partition lt d a b pivot).2.1]) ∧ ∃ n, w' = (putRowK enc k (W.alloc (.cells #[.func (.func g) #[] lb, .func (.func sf) #[] sb] 145)) blk off (Sort.partition lt d a b pivot).2.2).drewN n := Any.partition_func_cells Tryd.laysGg33 enc k hk lt g lb sf sb blk off a b pivot d W eg hless hswap hH hblk hap hpb hb hsz
open Go.RowKit Go.Lib Go.Sort in
theorem Tryd.partitionEqual_func_cells_w {α : Type} [Inhabited α] (enc : α → List Value) (k : Nat) (hk : ∀ x, (enc x).length = k) (lt : α → α → Bool) (g : Nat) (lb : Array Value) (sf : Nat) (sb : Array Value) (blk off a b pivot : Nat) (d : Array α) (W : World) (eg : ∀ args w, (callFunc g args).run Tryd.prog w = .ok (.enter g args) w) (hless : LessReadsK Tryd.prog g lb enc k lt blk off d.size W) (hswap : SwapSwapsK Tryd.prog sf sb enc k blk off d.size) (hH : HoldsK enc k W blk off d) (hblk : blk < W.heap.size) (hap : a ≤ pivot) (hpb : pivot < b) (hb : b ≤ d.size) (hsz : d.size < 4611686018427387904) :
    Calls Tryd.prog 73 #[.agg #[.func (.func g) #[] lb, .func (.func sf) #[] sb], .int .i64 a, .int .i64 b, .int .i64 pivot] W fun e w' => e = .returned (.int .i64 (Sort.partitionEqual lt d a b pivot).1) ∧ ∃ n os, w' = sortWorldK enc k W blk off n (Sort.partitionEqual lt d a b pivot).2 os := Any.partitionEqual_func_cells_w Tryd.laysGg32 enc k hk lt g lb sf sb blk off a b pivot d W eg hless hswap hH hblk hap hpb hb hsz
open Go.RowKit Go.Lib Go.Sort in
theorem Tryd.partition_func_cells_w {α : Type} [Inhabited α] (enc : α → List Value) (k : Nat) (hk : ∀ x, (enc x).length = k) (lt : α → α → Bool) (g : Nat) (lb : Array Value) (sf : Nat) (sb : Array Value) (blk off a b pivot : Nat) (d : Array α) (W : World) (eg : ∀ args w, (callFunc g args).run Tryd.prog w = .ok (.enter g args) w) (hless : LessReadsK Tryd.prog g lb enc k lt blk off d.size W) (hswap : SwapSwapsK Tryd.prog sf sb enc k blk off d.size) (hH : HoldsK enc k W blk off d) (hblk : blk < W.heap.size) (hap : a ≤ pivot) (hpb : pivot < b) (hb : b ≤ d.size) (hsz : d.size < 4611686018427387904) :
    Calls Tryd.prog 74 #[.agg #[.func (.func g) #[] lb, .func (.func sf) #[] sb], .int .i64 a, .int .i64 b, .int .i64 pivot] W fun e w' => e = .returned (.tuple #[.int .i64 (Sort.partition lt d a b pivot).1, .bool (Sort.partition lt d a b pivot).2.1]) ∧ ∃ n os, w' = sortWorldK enc k W blk off n (Sort.partition lt d a b pivot).2.2 os := Any.partition_func_cells_w Tryd.laysGg33 enc k hk lt g lb sf sb blk off a b pivot d W eg hless hswap hH hblk hap hpb hb hsz
open Go.RowKit Go.Lib Go.Sort in
theorem Tryd.siftDown_func_one {α : Type} [Inhabited α] (enc : α → Value) (lt : α → α → Bool) (g : Nat) (lb : Array Value) (sf : Nat) (sb : Array Value) (blk off lo hi first : Nat) (d : Array α) (w : World) (eg : ∀ args w, (callFunc g args).run Tryd.prog w = .ok (.enter g args) w) (hless : LessReads Tryd.prog g lb enc lt blk off d.size w) (hswap : SwapSwaps Tryd.prog sf sb enc blk off d.size) (hH : Holds enc w blk off d) (hblk : blk < w.heap.size) (hlo : lo ≤ hi) (hb : first + hi ≤ d.size) (hsz : d.size < 4611686018427387904) :
    Calls Tryd.prog 75 #[.agg #[.func (.func g) #[] lb, .func (.func sf) #[] sb], .int .i64 lo, .int .i64 hi, .int .i64 first] w fun e w' =>
      e = .returned (.tuple #[]) ∧ ∃ n, w' = putRow enc (Sort.ahead (w.alloc (.cells #[.func (.func g) #[] lb, .func (.func sf) #[] sb] 145)) n) blk off (siftDown lt hi first lo d) := Any.siftDown_func_one Tryd.laysGg34 enc lt g lb sf sb blk off lo hi first d w eg hless hswap hH hblk hlo hb hsz
open Go.RowKit Go.Lib Go.Sort in
theorem Tryd.siftDown_func_w {α : Type} [Inhabited α] (enc : α → Value) (lt : α → α → Bool) (g : Nat) (lb : Array Value) (sf : Nat) (sb : Array Value) (blk off lo hi first : Nat) (d : Array α) (w : World) (eg : ∀ args w, (callFunc g args).run Tryd.prog w = .ok (.enter g args) w) (hless : LessReads Tryd.prog g lb enc lt blk off d.size w) (hswap : SwapSwaps Tryd.prog sf sb enc blk off d.size) (hH : Holds enc w blk off d) (hblk : blk < w.heap.size) (hlo : lo ≤ hi) (hb : first + hi ≤ d.size) (hsz : d.size < 4611686018427387904) :
    Calls Tryd.prog 75 #[.agg #[.func (.func g) #[] lb, .func (.func sf) #[] sb], .int .i64 lo, .int .i64 hi, .int .i64 first] w fun e w' => e = .returned (.tuple #[]) ∧ ∃ n os, w' = sortWorld enc w blk off n (siftDown lt hi first lo d) os := Any.siftDown_func_w Tryd.laysGg34 enc lt g lb sf sb blk off lo hi first d w eg hless hswap hH hblk hlo hb hsz
open Go.RowKit Go.Lib Go.Sort in
theorem Tryd.heapSort_func_w {α : Type} [Inhabited α] (enc : α → Value) (lt : α → α → Bool) (g : Nat) (lb : Array Value) (sf : Nat) (sb : Array Value) (blk off a b : Nat) (d : Array α) (w : World) (eg : ∀ args w, (callFunc g args).run Tryd.prog w = .ok (.enter g args) w) (hless : LessReads Tryd.prog g lb enc lt blk off d.size w) (hswap : SwapSwaps Tryd.prog sf sb enc blk off d.size) (hH : Holds enc w blk off d) (hblk : blk < w.heap.size) (hab : a ≤ b) (hb : b ≤ d.size) (hsz : d.size < 4611686018427387904) :
    Calls Tryd.prog 68 #[.agg #[.func (.func g) #[] lb, .func (.func sf) #[] sb], .int .i64 a, .int .i64 b] w fun e w' => e = .returned (.tuple #[]) ∧ ∃ n os, w' = sortWorld enc w blk off n (heapSort lt d a b) os := Any.heapSort_func_w Tryd.laysGg27 enc lt g lb sf sb blk off a b d w eg hless hswap hH hblk hab hb hsz
open Go.RowKit Go.Lib Go.Sort in
theorem Tryd.partialInsertionSort_func_one {α : Type} [Inhabited α] (enc : α → Value) (lt : α → α → Bool) (g : Nat) (lb : Array Value) (sf : Nat) (sb : Array Value) (blk off a b : Nat) (d : Array α) (w : World) (eg : ∀ args w, (callFunc g args).run Tryd.prog w = .ok (.enter g args) w) (hless : LessReads Tryd.prog g lb enc lt blk off d.size w) (hswap : SwapSwaps Tryd.prog sf sb enc blk off d.size) (hH : Holds enc w blk off d) (hblk : blk < w.heap.size) (hab : a < b) (hb : b ≤ d.size) (hsz : d.size < 4611686018427387904) :
    Calls Tryd.prog 72 #[.agg #[.func (.func g) #[] lb, .func (.func sf) #[] sb], .int .i64 a, .int .i64 b] w fun e w' =>
      e = .returned (.bool (Sort.partialInsertionSort lt d a b).2) ∧ ∃ n, w' = putRow enc (Sort.ahead (w.alloc (.cells #[.func (.func g) #[] lb, .func (.func sf) #[] sb] 145)) n) blk off (Sort.partialInsertionSort lt d a b).1 := Any.partialInsertionSort_func_one Tryd.laysGg31 enc lt g lb sf sb blk off a b d w eg hless hswap hH hblk hab hb hsz
open Go.RowKit Go.Lib Go.Sort in
theorem Tryd.partialInsertionSort_func_w {α : Type} [Inhabited α] (enc : α → Value) (lt : α → α → Bool) (g : Nat) (lb : Array Value) (sf : Nat) (sb : Array Value) (blk off a b : Nat) (d : Array α) (w : World) (eg : ∀ args w, (callFunc g args).run Tryd.prog w = .ok (.enter g args) w) (hless : LessReads Tryd.prog g lb enc lt blk off d.size w) (hswap : SwapSwaps Tryd.prog sf sb enc blk off d.size) (hH : Holds enc w blk off d) (hblk : blk < w.heap.size) (hab : a < b) (hb : b ≤ d.size) (hsz : d.size < 4611686018427387904) :
    Calls Tryd.prog 72 #[.agg #[.func (.func g) #[] lb, .func (.func sf) #[] sb], .int .i64 a, .int .i64 b] w fun e w' => e = .returned (.bool (Sort.partialInsertionSort lt d a b).2) ∧ ∃ n os, w' = sortWorld enc w blk off n (Sort.partialInsertionSort lt d a b).1 os := Any.partialInsertionSort_func_w Tryd.laysGg31 enc lt g lb sf sb blk off a b d w eg hless hswap hH hblk hab hb hsz
open Go.RowKit Go.Lib Go.Sort in
theorem Tryd.pdqsort_func_cells_all {α : Type} [Inhabited α] (enc : α → List Value) (k : Nat) (hk : ∀ x, (enc x).length = k) (lt : α → α → Bool) (hO : SWO lt) (g : Nat) (lb : Array Value) (sf : Nat) (sb : Array Value) (eg : ∀ args w, (callFunc g args).run Tryd.prog w = .ok (.enter g args) w) :
    ∀ (N blk off a b limit : Nat) (d : Array α) (w : World), b - a < N → LessReadsK Tryd.prog g lb enc k lt blk off d.size w → SwapSwapsK Tryd.prog sf sb enc k blk off d.size → HoldsK enc k w blk off d → blk < w.heap.size → a ≤ b → b ≤ d.size → d.size < 4611686018427387904 → limit < 4611686018427387904 → Below lt a b d →
    Calls Tryd.prog 53 #[.agg #[.func (.func g) #[] lb, .func (.func sf) #[] sb], .int .i64 a, .int .i64 b, .int .i64 limit] w fun e w' => e = .returned (.tuple #[]) ∧ AtK enc k w blk off (pdq lt d a b limit true true) w' := Any.pdqsort_func_cells_all Tryd.laysGg14 enc k hk lt hO g lb sf sb eg
end Go.Proofs
