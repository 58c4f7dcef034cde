/-
  The shelf's contracts at this dump, in plain words: written by the kit's lay-shelf.mjs and lay-plain.mjs, the remarks struck.
-/
import Derived.Shelf.LaysM
import Derived.Shelf.Bytes.Bytes
import Derived.Shelf.LaysC
import Derived.Shelf.Bin.BEUint32
import Derived.Shelf.Bin.BEPutUint32
import Derived.Shelf.Bin.BEUint64
import Derived.Shelf.Bin.BEPutUint64
import Derived.Shelf.Bin.PutUvarint
import Derived.Shelf.Pu.ParseUintPublic10
import Derived.Shelf.Bytes.WriteAny
import Derived.Test.YtpndlcjilgcfkaaGreatDoorProg
namespace Go.Proofs
open Go.Shelf
def Tryz.laysM180_ren : Go.Shelf.Ren := ⟨fun | 180 => 66 | 251 => 84 | 252 => 85 | 181 => 99 | 184 => 100 | 290 => 101 | 324 => 105 | n => n, fun | 130 => 111 | 37 => 22 | 3 => 3 | 75 => 54 | 0 => 0 | 93 => 108 | 91 => 106 | 131 => 113 | 4 => 4 | 20 => 20 | 5 => 5 | 80 => 166 | 9 => 9 | n => n, fun | 14 => 8 | n => n⟩
theorem Tryz.laysM180 : Go.Proofs.LaysM.n180 Tryz.prog Tryz.laysM180_ren := {
  mixed := by kernel_rfl
  f180 := Tryz.func66.trans (congrArg some (by kernel_rfl))
  f181 := Tryz.func99.trans (congrArg some (by kernel_rfl))
  f184 := Tryz.func100.trans (congrArg some (by kernel_rfl))
  f251 := Tryz.func84.trans (congrArg some (by kernel_rfl))
  f252 := Tryz.func85.trans (congrArg some (by kernel_rfl))
  f290 := Tryz.func101.trans (congrArg some (by kernel_rfl))
  f324 := Tryz.func105.trans (congrArg some (by kernel_rfl))
  t0 := Tryz.underlying0
  a0 := Tryz.isAgg0
  z0 := Tryz.sizeOf0
  v0 := Tryz.zeroValue0
  t3 := Tryz.underlying3
  a3 := Tryz.isAgg3
  z3 := Tryz.sizeOf3
  v3 := Tryz.zeroValue3
  t4 := Tryz.underlying4
  a4 := Tryz.isAgg4
  z4 := Tryz.sizeOf4
  v4 := Tryz.zeroValue4
  t20 := Tryz.underlying20
  a20 := Tryz.isAgg20
  z20 := Tryz.sizeOf20
  v20 := Tryz.zeroValue20
  t37 := Tryz.underlying22
  a37 := Tryz.isAgg22
  z37 := Tryz.sizeOf22
  v37 := Tryz.zeroValue22
  t75 := Tryz.underlying54
  a75 := Tryz.isAgg54
  z75 := Tryz.sizeOf54
  v75 := Tryz.zeroValue54
  t91 := Tryz.underlying106
  a91 := Tryz.isAgg106
  z91 := Tryz.sizeOf106
  v91 := Tryz.zeroValue106
  t93 := Tryz.underlying108
  a93 := Tryz.isAgg108
  z93 := Tryz.sizeOf108
  v93 := Tryz.zeroValue108
  t130 := Tryz.underlying111
  a130 := Tryz.isAgg111
  z130 := Tryz.sizeOf111
  v130 := Tryz.zeroValue111
  t131 := Tryz.underlying113
  a131 := Tryz.isAgg113
  z131 := Tryz.sizeOf113
  v131 := Tryz.zeroValue113
  g14 := by kernel_rfl
  t5 := Tryz.underlying5
  a5 := Tryz.isAgg5
  z5 := Tryz.sizeOf5
  v5 := Tryz.zeroValue5
  t9 := Tryz.underlying9
  a9 := Tryz.isAgg9
  z9 := Tryz.sizeOf9
  v9 := Tryz.zeroValue9
  t80 := Tryz.underlying166
  a80 := Tryz.isAgg166
  z80 := Tryz.sizeOf166
  v80 := Tryz.zeroValue166
  i0 := by kernel_rfl
  i3 := by kernel_rfl
  i4 := by kernel_rfl
  i5 := by kernel_rfl
  i9 := by kernel_rfl
  i20 := by kernel_rfl
  i37 := by kernel_rfl
  i75 := by kernel_rfl
  i80 := by kernel_rfl
  i91 := by kernel_rfl
  i93 := by kernel_rfl
  i130 := by kernel_rfl
  i131 := by kernel_rfl
  m14 := by kernel_rfl }
def Tryz.laysM183_ren : Go.Shelf.Ren := ⟨fun | 183 => 42 | n => n, fun | 130 => 111 | 37 => 22 | 0 => 0 | 93 => 108 | 3 => 3 | 5 => 5 | 91 => 106 | n => n, fun | n => n⟩
theorem Tryz.laysM183 : Go.Proofs.LaysM.n183 Tryz.prog Tryz.laysM183_ren := {
  mixed := by kernel_rfl
  f183 := Tryz.func42.trans (congrArg some (by kernel_rfl))
  t0 := Tryz.underlying0
  a0 := Tryz.isAgg0
  z0 := Tryz.sizeOf0
  v0 := Tryz.zeroValue0
  t3 := Tryz.underlying3
  a3 := Tryz.isAgg3
  z3 := Tryz.sizeOf3
  v3 := Tryz.zeroValue3
  t37 := Tryz.underlying22
  a37 := Tryz.isAgg22
  z37 := Tryz.sizeOf22
  v37 := Tryz.zeroValue22
  t93 := Tryz.underlying108
  a93 := Tryz.isAgg108
  z93 := Tryz.sizeOf108
  v93 := Tryz.zeroValue108
  t130 := Tryz.underlying111
  a130 := Tryz.isAgg111
  z130 := Tryz.sizeOf111
  v130 := Tryz.zeroValue111
  t5 := Tryz.underlying5
  a5 := Tryz.isAgg5
  z5 := Tryz.sizeOf5
  v5 := Tryz.zeroValue5
  t91 := Tryz.underlying106
  a91 := Tryz.isAgg106
  z91 := Tryz.sizeOf106
  v91 := Tryz.zeroValue106
  i0 := by kernel_rfl
  i3 := by kernel_rfl
  i5 := by kernel_rfl
  i37 := by kernel_rfl
  i91 := by kernel_rfl
  i93 := by kernel_rfl
  i130 := by kernel_rfl }
open Go.RowKit in
theorem Tryz.Buffer_Bytes (B b : Nat) (bs : List Value) (w : World) (h : Lib.IsBuffer 108 5 B b bs w) :
    Calls Tryz.prog 42 #[.pointer (some ⟨b, 0, none⟩)] w fun e w' => ∃ v, e = .returned v ∧ w'.ownsRow B 5 1 v bs.length bs ∧ ∃ n, w' = w.drewN n := Any.Buffer_Bytes Tryz.laysM183 B b bs w h
def Tryz.laysBin39_ren : Go.Shelf.Ren := ⟨fun | 39 => 92 | n => n, fun | 37 => 157 | 22 => 22 | 29 => 24 | 0 => 0 | 5 => 5 | 45 => 75 | n => n, fun | n => n⟩
theorem Tryz.laysBin39 : Go.Proofs.LaysBin.n39 Tryz.prog Tryz.laysBin39_ren := {
  mixed := by kernel_rfl
  f39 := Tryz.func92.trans (congrArg some (by kernel_rfl))
  t0 := Tryz.underlying0
  a0 := Tryz.isAgg0
  z0 := Tryz.sizeOf0
  v0 := Tryz.zeroValue0
  i0 := by kernel_rfl
  t5 := Tryz.underlying5
  a5 := Tryz.isAgg5
  z5 := Tryz.sizeOf5
  v5 := Tryz.zeroValue5
  i5 := by kernel_rfl
  t22 := Tryz.underlying22
  a22 := Tryz.isAgg22
  z22 := Tryz.sizeOf22
  v22 := Tryz.zeroValue22
  i22 := by kernel_rfl
  t29 := Tryz.underlying24
  a29 := Tryz.isAgg24
  z29 := Tryz.sizeOf24
  v29 := Tryz.zeroValue24
  i29 := by kernel_rfl
  t37 := Tryz.underlying157
  a37 := Tryz.isAgg157
  z37 := Tryz.sizeOf157
  v37 := Tryz.zeroValue157
  i37 := by kernel_rfl
  t45 := Tryz.underlying75
  a45 := Tryz.isAgg75
  z45 := Tryz.sizeOf75
  v45 := Tryz.zeroValue75
  i45 := by kernel_rfl }
open Go.RowKit in
theorem Tryz.binary_BE_Uint32 (g o n c : Nat) (b0 b1 b2 b3 : UInt8) (w : World) (hn : 4 ≤ n) (c0 : w.cell? ⟨g, o, none⟩ = some (.int .u8 b0.toNat)) (c1 : w.cell? ⟨g, o + 1, none⟩ = some (.int .u8 b1.toNat)) (c2 : w.cell? ⟨g, o + 2, none⟩ = some (.int .u8 b2.toNat)) (c3 : w.cell? ⟨g, o + 3, none⟩ = some (.int .u8 b3.toNat)) :
    Calls Tryz.prog 92 #[.agg #[], .slice (some ⟨g, o, none⟩) n c] w fun e w' => e = .returned (.int .u32 (Lib.beNat [b0, b1, b2, b3])) ∧ Below w.heap.size w w' := Any.binary_BE_Uint32 Tryz.laysBin39 g o n c b0 b1 b2 b3 w hn c0 c1 c2 c3
def Tryz.laysBin40_ren : Go.Shelf.Ren := ⟨fun | 40 => 64 | n => n, fun | 37 => 157 | 22 => 22 | 29 => 24 | 0 => 0 | 5 => 5 | 45 => 75 | n => n, fun | n => n⟩
theorem Tryz.laysBin40 : Go.Proofs.LaysBin.n40 Tryz.prog Tryz.laysBin40_ren := {
  mixed := by kernel_rfl
  f40 := Tryz.func64.trans (congrArg some (by kernel_rfl))
  t0 := Tryz.underlying0
  a0 := Tryz.isAgg0
  z0 := Tryz.sizeOf0
  v0 := Tryz.zeroValue0
  i0 := by kernel_rfl
  t5 := Tryz.underlying5
  a5 := Tryz.isAgg5
  z5 := Tryz.sizeOf5
  v5 := Tryz.zeroValue5
  i5 := by kernel_rfl
  t22 := Tryz.underlying22
  a22 := Tryz.isAgg22
  z22 := Tryz.sizeOf22
  v22 := Tryz.zeroValue22
  i22 := by kernel_rfl
  t29 := Tryz.underlying24
  a29 := Tryz.isAgg24
  z29 := Tryz.sizeOf24
  v29 := Tryz.zeroValue24
  i29 := by kernel_rfl
  t37 := Tryz.underlying157
  a37 := Tryz.isAgg157
  z37 := Tryz.sizeOf157
  v37 := Tryz.zeroValue157
  i37 := by kernel_rfl
  t45 := Tryz.underlying75
  a45 := Tryz.isAgg75
  z45 := Tryz.sizeOf75
  v45 := Tryz.zeroValue75
  i45 := by kernel_rfl }
open Go.RowKit in
theorem Tryz.binary_BE_PutUint32 (g o n c v : Nat) (hv : v < 4294967296) (x0 x1 x2 x3 : Value) (w : World) (hn : 4 ≤ n) (c0 : w.cell? ⟨g, o, none⟩ = some x0) (c1 : w.cell? ⟨g, o + 1, none⟩ = some x1) (c2 : w.cell? ⟨g, o + 2, none⟩ = some x2) (c3 : w.cell? ⟨g, o + 3, none⟩ = some x3) (f0 : w.frozen? ⟨g, o, none⟩ = false) (f1 : w.frozen? ⟨g, o + 1, none⟩ = false) (f2 : w.frozen? ⟨g, o + 2, none⟩ = false) (f3 : w.frozen? ⟨g, o + 3, none⟩ = false) :
    Calls Tryz.prog 64 #[.agg #[], .slice (some ⟨g, o, none⟩) n c, .int .u32 v] w fun e w' => e = .returned (.tuple #[]) ∧ w' = (w.alloc (.cells #[] 157)).setCells g o (Lib.byteCells (Lib.beBytes 4 v)) := Any.binary_BE_PutUint32 Tryz.laysBin40 g o n c v hv x0 x1 x2 x3 w hn c0 c1 c2 c3 f0 f1 f2 f3
def Tryz.laysBin42_ren : Go.Shelf.Ren := ⟨fun | 42 => 79 | n => n, fun | 37 => 157 | 22 => 22 | 33 => 28 | 0 => 0 | 5 => 5 | 45 => 75 | n => n, fun | n => n⟩
theorem Tryz.laysBin42 : Go.Proofs.LaysBin.n42 Tryz.prog Tryz.laysBin42_ren := {
  mixed := by kernel_rfl
  f42 := Tryz.func79.trans (congrArg some (by kernel_rfl))
  t0 := Tryz.underlying0
  a0 := Tryz.isAgg0
  z0 := Tryz.sizeOf0
  v0 := Tryz.zeroValue0
  i0 := by kernel_rfl
  t5 := Tryz.underlying5
  a5 := Tryz.isAgg5
  z5 := Tryz.sizeOf5
  v5 := Tryz.zeroValue5
  i5 := by kernel_rfl
  t22 := Tryz.underlying22
  a22 := Tryz.isAgg22
  z22 := Tryz.sizeOf22
  v22 := Tryz.zeroValue22
  i22 := by kernel_rfl
  t33 := Tryz.underlying28
  a33 := Tryz.isAgg28
  z33 := Tryz.sizeOf28
  v33 := Tryz.zeroValue28
  i33 := by kernel_rfl
  t37 := Tryz.underlying157
  a37 := Tryz.isAgg157
  z37 := Tryz.sizeOf157
  v37 := Tryz.zeroValue157
  i37 := by kernel_rfl
  t45 := Tryz.underlying75
  a45 := Tryz.isAgg75
  z45 := Tryz.sizeOf75
  v45 := Tryz.zeroValue75
  i45 := by kernel_rfl }
open Go.RowKit in
theorem Tryz.binary_BE_Uint64 (g o n c : Nat) (b0 b1 b2 b3 b4 b5 b6 b7 : UInt8) (w : World) (hn : 8 ≤ n) (c0 : w.cell? ⟨g, o, none⟩ = some (.int .u8 b0.toNat)) (c1 : w.cell? ⟨g, o + 1, none⟩ = some (.int .u8 b1.toNat)) (c2 : w.cell? ⟨g, o + 2, none⟩ = some (.int .u8 b2.toNat)) (c3 : w.cell? ⟨g, o + 3, none⟩ = some (.int .u8 b3.toNat)) (c4 : w.cell? ⟨g, o + 4, none⟩ = some (.int .u8 b4.toNat)) (c5 : w.cell? ⟨g, o + 5, none⟩ = some (.int .u8 b5.toNat)) (c6 : w.cell? ⟨g, o + 6, none⟩ = some (.int .u8 b6.toNat)) (c7 : w.cell? ⟨g, o + 7, none⟩ = some (.int .u8 b7.toNat)) :
    Calls Tryz.prog 79 #[.agg #[], .slice (some ⟨g, o, none⟩) n c] w fun e w' => e = .returned (.int .u64 (Lib.beNat [b0, b1, b2, b3, b4, b5, b6, b7])) ∧ Below w.heap.size w w' := Any.binary_BE_Uint64 Tryz.laysBin42 g o n c b0 b1 b2 b3 b4 b5 b6 b7 w hn c0 c1 c2 c3 c4 c5 c6 c7
def Tryz.laysBin43_ren : Go.Shelf.Ren := ⟨fun | 43 => 69 | n => n, fun | 37 => 157 | 22 => 22 | 33 => 28 | 0 => 0 | 5 => 5 | 45 => 75 | n => n, fun | n => n⟩
theorem Tryz.laysBin43 : Go.Proofs.LaysBin.n43 Tryz.prog Tryz.laysBin43_ren := {
  mixed := by kernel_rfl
  f43 := Tryz.func69.trans (congrArg some (by kernel_rfl))
  t0 := Tryz.underlying0
  a0 := Tryz.isAgg0
  z0 := Tryz.sizeOf0
  v0 := Tryz.zeroValue0
  i0 := by kernel_rfl
  t5 := Tryz.underlying5
  a5 := Tryz.isAgg5
  z5 := Tryz.sizeOf5
  v5 := Tryz.zeroValue5
  i5 := by kernel_rfl
  t22 := Tryz.underlying22
  a22 := Tryz.isAgg22
  z22 := Tryz.sizeOf22
  v22 := Tryz.zeroValue22
  i22 := by kernel_rfl
  t33 := Tryz.underlying28
  a33 := Tryz.isAgg28
  z33 := Tryz.sizeOf28
  v33 := Tryz.zeroValue28
  i33 := by kernel_rfl
  t37 := Tryz.underlying157
  a37 := Tryz.isAgg157
  z37 := Tryz.sizeOf157
  v37 := Tryz.zeroValue157
  i37 := by kernel_rfl
  t45 := Tryz.underlying75
  a45 := Tryz.isAgg75
  z45 := Tryz.sizeOf75
  v45 := Tryz.zeroValue75
  i45 := by kernel_rfl }
open Go.RowKit in
theorem Tryz.binary_BE_PutUint64 (g o n c v : Nat) (hv : v < 18446744073709551616) (x0 x1 x2 x3 x4 x5 x6 x7 : Value) (w : World) (hn : 8 ≤ n) (c0 : w.cell? ⟨g, o, none⟩ = some x0) (c1 : w.cell? ⟨g, o + 1, none⟩ = some x1) (c2 : w.cell? ⟨g, o + 2, none⟩ = some x2) (c3 : w.cell? ⟨g, o + 3, none⟩ = some x3) (c4 : w.cell? ⟨g, o + 4, none⟩ = some x4) (c5 : w.cell? ⟨g, o + 5, none⟩ = some x5) (c6 : w.cell? ⟨g, o + 6, none⟩ = some x6) (c7 : w.cell? ⟨g, o + 7, none⟩ = some x7) (f0 : w.frozen? ⟨g, o, none⟩ = false) (f1 : w.frozen? ⟨g, o + 1, none⟩ = false) (f2 : w.frozen? ⟨g, o + 2, none⟩ = false) (f3 : w.frozen? ⟨g, o + 3, none⟩ = false) (f4 : w.frozen? ⟨g, o + 4, none⟩ = false) (f5 : w.frozen? ⟨g, o + 5, none⟩ = false) (f6 : w.frozen? ⟨g, o + 6, none⟩ = false) (f7 : w.frozen? ⟨g, o + 7, none⟩ = false) :
    Calls Tryz.prog 69 #[.agg #[], .slice (some ⟨g, o, none⟩) n c, .int .u64 v] w fun e w' => e = .returned (.tuple #[]) ∧ w' = (w.alloc (.cells #[] 157)).setCells g o (Lib.byteCells (Lib.beBytes 8 v)) := Any.binary_BE_PutUint64 Tryz.laysBin43 g o n c v hv x0 x1 x2 x3 x4 x5 x6 x7 w hn c0 c1 c2 c3 c4 c5 c6 c7 f0 f1 f2 f3 f4 f5 f6 f7
def Tryz.laysBin46_ren : Go.Shelf.Ren := ⟨fun | 46 => 82 | n => n, fun | 22 => 22 | 33 => 28 | 3 => 3 | 4 => 4 | 5 => 5 | 0 => 0 | 45 => 75 | n => n, fun | n => n⟩
theorem Tryz.laysBin46 : Go.Proofs.LaysBin.n46 Tryz.prog Tryz.laysBin46_ren := {
  mixed := by kernel_rfl
  f46 := Tryz.func82.trans (congrArg some (by kernel_rfl))
  t0 := Tryz.underlying0
  a0 := Tryz.isAgg0
  z0 := Tryz.sizeOf0
  v0 := Tryz.zeroValue0
  i0 := by kernel_rfl
  t3 := Tryz.underlying3
  a3 := Tryz.isAgg3
  z3 := Tryz.sizeOf3
  v3 := Tryz.zeroValue3
  i3 := by kernel_rfl
  t4 := Tryz.underlying4
  a4 := Tryz.isAgg4
  z4 := Tryz.sizeOf4
  v4 := Tryz.zeroValue4
  i4 := by kernel_rfl
  t5 := Tryz.underlying5
  a5 := Tryz.isAgg5
  z5 := Tryz.sizeOf5
  v5 := Tryz.zeroValue5
  i5 := by kernel_rfl
  t22 := Tryz.underlying22
  a22 := Tryz.isAgg22
  z22 := Tryz.sizeOf22
  v22 := Tryz.zeroValue22
  i22 := by kernel_rfl
  t33 := Tryz.underlying28
  a33 := Tryz.isAgg28
  z33 := Tryz.sizeOf28
  v33 := Tryz.zeroValue28
  i33 := by kernel_rfl
  t45 := Tryz.underlying75
  a45 := Tryz.isAgg75
  z45 := Tryz.sizeOf75
  v45 := Tryz.zeroValue75
  i45 := by kernel_rfl }
open Go.RowKit in
theorem Tryz.binary_PutUvarint (g o n c x : Nat) (hx : x < 18446744073709551616) (w : World) (hn : (Lib.uvarint x).length ≤ n) (hcell : ∀ j, j < (Lib.uvarint x).length → (w.cell? ⟨g, o + j, none⟩).isSome = true ∧ w.frozen? ⟨g, o + j, none⟩ = false) :
    Calls Tryz.prog 82 #[.slice (some ⟨g, o, none⟩) n c, .int .u64 x] w fun e w' => e = .returned (.int .i64 (Lib.uvarint x).length) ∧ w' = w.setCells g o (Lib.byteCells (Lib.uvarint x)) := Any.binary_PutUvarint Tryz.laysBin46 g o n c x hx w hn hcell
def Tryz.laysPu14_ren : Go.Shelf.Ren := ⟨fun | 14 => 58 | 16 => 80 | 17 => 81 | 19 => 93 | 20 => 94 | 21 => 95 | 22 => 96 | 23 => 97 | 24 => 98 | 25 => 103 | 27 => 104 | 26 => 72 | 28 => 107 | 29 => 108 | 30 => 109 | 31 => 110 | 32 => 111 | 33 => 112 | 35 => 114 | 34 => 113 | 36 => 115 | 37 => 116 | 38 => 117 | 39 => 118 | 40 => 119 | n => n, fun | 9 => 9 | 3 => 3 | 22 => 28 | 24 => 54 | 25 => 141 | 4 => 4 | 34 => 205 | 5 => 5 | 36 => 75 | 37 => 22 | 0 => 0 | 39 => 207 | 21 => 21 | 44 => 216 | 47 => 218 | 50 => 193 | 48 => 191 | 2 => 2 | 52 => 220 | 55 => 222 | 59 => 225 | 60 => 24 | 20 => 20 | 61 => 226 | 65 => 230 | 66 => 231 | 67 => 166 | n => n, fun | 0 => 11 | 1 => 12 | 2 => 13 | 3 => 14 | 4 => 15 | n => n⟩
theorem Tryz.laysPu14 : Go.Proofs.LaysPu.n14 Tryz.prog Tryz.laysPu14_ren := {
  mixed := by kernel_rfl
  f14 := Tryz.func58.trans (congrArg some (by kernel_rfl))
  f16 := Tryz.func80.trans (congrArg some (by kernel_rfl))
  f17 := Tryz.func81.trans (congrArg some (by kernel_rfl))
  f19 := Tryz.func93.trans (congrArg some (by kernel_rfl))
  f20 := Tryz.func94.trans (congrArg some (by kernel_rfl))
  f21 := Tryz.func95.trans (congrArg some (by kernel_rfl))
  f22 := Tryz.func96.trans (congrArg some (by kernel_rfl))
  f23 := Tryz.func97.trans (congrArg some (by kernel_rfl))
  f24 := Tryz.func98.trans (congrArg some (by kernel_rfl))
  f25 := Tryz.func103.trans (congrArg some (by kernel_rfl))
  f26 := Tryz.func72.trans (congrArg some (by kernel_rfl))
  f27 := Tryz.func104.trans (congrArg some (by kernel_rfl))
  f28 := Tryz.func107.trans (congrArg some (by kernel_rfl))
  f29 := Tryz.func108.trans (congrArg some (by kernel_rfl))
  f30 := Tryz.func109.trans (congrArg some (by kernel_rfl))
  f31 := Tryz.func110.trans (congrArg some (by kernel_rfl))
  f32 := Tryz.func111.trans (congrArg some (by kernel_rfl))
  f33 := Tryz.func112.trans (congrArg some (by kernel_rfl))
  f34 := Tryz.func113.trans (congrArg some (by kernel_rfl))
  f35 := Tryz.func114.trans (congrArg some (by kernel_rfl))
  f36 := Tryz.func115.trans (congrArg some (by kernel_rfl))
  f37 := Tryz.func116.trans (congrArg some (by kernel_rfl))
  f38 := Tryz.func117.trans (congrArg some (by kernel_rfl))
  f39 := Tryz.func118.trans (congrArg some (by kernel_rfl))
  f40 := Tryz.func119.trans (congrArg some (by kernel_rfl))
  t0 := Tryz.underlying0
  a0 := Tryz.isAgg0
  z0 := Tryz.sizeOf0
  v0 := Tryz.zeroValue0
  i0 := by kernel_rfl
  t2 := Tryz.underlying2
  a2 := Tryz.isAgg2
  z2 := Tryz.sizeOf2
  v2 := Tryz.zeroValue2
  i2 := by kernel_rfl
  t3 := Tryz.underlying3
  a3 := Tryz.isAgg3
  z3 := Tryz.sizeOf3
  v3 := Tryz.zeroValue3
  i3 := by kernel_rfl
  t4 := Tryz.underlying4
  a4 := Tryz.isAgg4
  z4 := Tryz.sizeOf4
  v4 := Tryz.zeroValue4
  i4 := by kernel_rfl
  t5 := Tryz.underlying5
  a5 := Tryz.isAgg5
  z5 := Tryz.sizeOf5
  v5 := Tryz.zeroValue5
  i5 := by kernel_rfl
  t9 := Tryz.underlying9
  a9 := Tryz.isAgg9
  z9 := Tryz.sizeOf9
  v9 := Tryz.zeroValue9
  i9 := by kernel_rfl
  t20 := Tryz.underlying20
  a20 := Tryz.isAgg20
  z20 := Tryz.sizeOf20
  v20 := Tryz.zeroValue20
  i20 := by kernel_rfl
  t21 := Tryz.underlying21
  a21 := Tryz.isAgg21
  z21 := Tryz.sizeOf21
  v21 := Tryz.zeroValue21
  i21 := by kernel_rfl
  t22 := Tryz.underlying28
  a22 := Tryz.isAgg28
  z22 := Tryz.sizeOf28
  v22 := Tryz.zeroValue28
  i22 := by kernel_rfl
  t24 := Tryz.underlying54
  a24 := Tryz.isAgg54
  z24 := Tryz.sizeOf54
  v24 := Tryz.zeroValue54
  i24 := by kernel_rfl
  t25 := Tryz.underlying141
  a25 := Tryz.isAgg141
  z25 := Tryz.sizeOf141
  v25 := Tryz.zeroValue141
  i25 := by kernel_rfl
  t34 := Tryz.underlying205
  a34 := Tryz.isAgg205
  z34 := Tryz.sizeOf205
  v34 := Tryz.zeroValue205
  i34 := by kernel_rfl
  c34 := by kernel_rfl
  t36 := Tryz.underlying75
  a36 := Tryz.isAgg75
  z36 := Tryz.sizeOf75
  v36 := Tryz.zeroValue75
  i36 := by kernel_rfl
  t37 := Tryz.underlying22
  a37 := Tryz.isAgg22
  z37 := Tryz.sizeOf22
  v37 := Tryz.zeroValue22
  i37 := by kernel_rfl
  t39 := Tryz.underlying207
  a39 := Tryz.isAgg207
  z39 := Tryz.sizeOf207
  v39 := Tryz.zeroValue207
  i39 := by kernel_rfl
  t44 := Tryz.underlying216
  a44 := Tryz.isAgg216
  z44 := Tryz.sizeOf216
  v44 := Tryz.zeroValue216
  i44 := by kernel_rfl
  t47 := Tryz.underlying218
  a47 := Tryz.isAgg218
  z47 := Tryz.sizeOf218
  v47 := Tryz.zeroValue218
  i47 := by kernel_rfl
  t48 := Tryz.underlying191
  a48 := Tryz.isAgg191
  z48 := Tryz.sizeOf191
  v48 := Tryz.zeroValue191
  i48 := by kernel_rfl
  t50 := Tryz.underlying193
  a50 := Tryz.isAgg193
  z50 := Tryz.sizeOf193
  v50 := Tryz.zeroValue193
  i50 := by kernel_rfl
  t52 := Tryz.underlying220
  a52 := Tryz.isAgg220
  z52 := Tryz.sizeOf220
  v52 := Tryz.zeroValue220
  i52 := by kernel_rfl
  t55 := Tryz.underlying222
  a55 := Tryz.isAgg222
  z55 := Tryz.sizeOf222
  v55 := Tryz.zeroValue222
  i55 := by kernel_rfl
  t59 := Tryz.underlying225
  a59 := Tryz.isAgg225
  z59 := Tryz.sizeOf225
  v59 := Tryz.zeroValue225
  i59 := by kernel_rfl
  t60 := Tryz.underlying24
  a60 := Tryz.isAgg24
  z60 := Tryz.sizeOf24
  v60 := Tryz.zeroValue24
  i60 := by kernel_rfl
  t61 := Tryz.underlying226
  a61 := Tryz.isAgg226
  z61 := Tryz.sizeOf226
  t65 := Tryz.underlying230
  a65 := Tryz.isAgg230
  z65 := Tryz.sizeOf230
  v65 := Tryz.zeroValue230
  i65 := by kernel_rfl
  t66 := Tryz.underlying231
  a66 := Tryz.isAgg231
  z66 := Tryz.sizeOf231
  v66 := Tryz.zeroValue231
  i66 := by kernel_rfl
  t67 := Tryz.underlying166
  a67 := Tryz.isAgg166
  z67 := Tryz.sizeOf166
  v67 := Tryz.zeroValue166
  i67 := by kernel_rfl
  g0 := by kernel_rfl
  m0 := by kernel_rfl
  g1 := by kernel_rfl
  m1 := by kernel_rfl
  g2 := by kernel_rfl
  m2 := by kernel_rfl
  g3 := by kernel_rfl
  m3 := by kernel_rfl
  g4 := by kernel_rfl
  m4 := by kernel_rfl }
open Go.RowKit in
theorem Tryz.strconv_ParseUint_10_at64_ok (s : ByteArray) (hmax : s.size ≤ 9223372036854775806) (u : Nat) (h : Lib.parseUintB 64 s.data.toList = .ok u) (w : World) :
    Calls Tryz.prog 58 #[.string s, .int .i64 10, .int .i64 64] w fun e w' => e = .returned (.tuple #[.int .u64 u, .nilIface]) ∧ (w' = w ∨ w' = Lib.bytesWorld w 5 s) := Any.strconv_ParseUint_10_at64_ok Tryz.laysPu14 s hmax u h w
open Go.RowKit in
theorem Tryz.strconv_ParseUint_10_at64_syntax (s : ByteArray) (hlim : s.size ≤ 281474976710656) (h1 : ∀ u, Lib.parseUintB 64 s.data.toList ≠ .ok u) (h2 : Lib.parseUintB 64 s.data.toList ≠ .range) (ev : Value) (w : World) (hv : w.cell? ⟨11, 0, none⟩ = some ev) (hev : ev = .nilIface ∨ ∃ te pe, ev = .iface te pe) :
    Calls Tryz.prog 58 #[.string s, .int .i64 10, .int .i64 64] w fun e w' => ∃ N, e = .returned (.tuple #[.int .u64 0, .iface 207 (.pointer (some ⟨N, 0, none⟩))]) ∧ w.heap.size ≤ N ∧ w'.heap[N]? = some (.cells #[.string ⟨#[80, 97, 114, 115, 101, 85, 105, 110, 116]⟩, .string s, ev] 216 (0, 0)) ∧ Below w.heap.size w w' := by
  cases hh : Lib.parseUintB 64 s.data.toList
  · exact absurd hh (h1 _)
  · exact Any.strconv_ParseUint_10_at64_syntax Tryz.laysPu14 s hlim hh ev w hv hev
  · exact absurd hh h2
open Go.RowKit in
theorem Tryz.strconv_ParseUint_10_at64_range (s : ByteArray) (hlim : s.size ≤ 281474976710656) (h : Lib.parseUintB 64 s.data.toList = .range) (ev : Value) (w : World) (hv : w.cell? ⟨12, 0, none⟩ = some ev) (hev : ev = .nilIface ∨ ∃ te pe, ev = .iface te pe) :
    Calls Tryz.prog 58 #[.string s, .int .i64 10, .int .i64 64] w fun e w' => ∃ N, e = .returned (.tuple #[.int .u64 18446744073709551615, .iface 207 (.pointer (some ⟨N, 0, none⟩))]) ∧ w.heap.size ≤ N ∧ w'.heap[N]? = some (.cells #[.string ⟨#[80, 97, 114, 115, 101, 85, 105, 110, 116]⟩, .string s, ev] 216 (0, 0)) ∧ Below w.heap.size w w' := Any.strconv_ParseUint_10_at64_range Tryz.laysPu14 s hlim h ev w hv hev
open Go.RowKit in
theorem Tryz.Buffer_Write_any (B b : Nat) (bs cs : List Value) (a : Addr) (n c : Nat) (w : World) (h : Lib.IsBuffer 108 5 B b bs w) (hBw : B ≤ w.heap.size) (h1 : ∀ v ∈ bs, v.oneCell' = true) (hn : cs.length = n) (hab : a.block ≠ b) (hsrc : ∀ j v, cs[j]? = some v → w.cell? (a.add j) = some v) (h1c : ∀ v ∈ cs, v.oneCell' = true) (hlim : bs.length + n ≤ 140737488355328) :
    Calls Tryz.prog 66 #[.pointer (some ⟨b, 0, none⟩), .slice (some a) n c] w fun e w' => e = .returned (.tuple #[.int .i64 n, .nilIface]) ∧ Lib.IsBuffer 108 5 B b (bs ++ cs) w' ∧ Below B w w' ∧ Lib.OthersKept 5 (some b) w w' := Any.Buffer_Write_any Tryz.laysM180 B b bs cs a n c w h hBw h1 hn hab hsrc h1c hlim
end Go.Proofs
