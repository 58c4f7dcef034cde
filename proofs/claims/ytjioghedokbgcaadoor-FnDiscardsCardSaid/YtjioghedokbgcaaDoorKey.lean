/-
  Contracts of the functions on keys with versions.
-/
import Derived.Test.YtjioghedokbgcaaDoorRows
import Derived.Test.YtjioghedokbgcaaDoorShelf
import Derived.Test.YtjioghedokbgcaaDoorMem
import Derived.Test.YtjioghedokbgcaaDoorKeyMath
import Derived.Deep.RegionWith
namespace Go.Proofs.YtjioghedokbgcaaDoor
open Go Go.RowKit
open Go.Proofs

theorem u8row : (Tryd.prog.info? 5).map (fun i => (i.zero, i.size, i.bytes)) = some (some (.int .u8 0), 1, 1) := by kernel_rfl

theorem made_bytes (n : Nat) : madeCells #[Value.int .u8 0] n = (List.replicate n (Value.int .u8 0)).toArray := by
  apply Array.ext'
  rw [toList_madeCells_one]

/-- binary.BigEndian.PutUint64 into a block that is known whole. -/
theorem putBE8_any (g o n c v : Nat) (t : TypeId) (L : List Value) (hv : v < 18446744073709551616) (w : World) (hb : Bk w g t L.toArray) (hn : 8 ≤ n) (ho : o + 8 ≤ L.length) :
    Calls Tryd.prog 32 #[.agg #[], .slice (some ⟨g, o, none⟩) n c, .int .u64 (v : Int)] w fun e w' => e = .returned (.tuple #[]) ∧
      Bk w' g t (splice L o (Lib.byteCells (Lib.beBytes 8 v))).toArray ∧ w.grownBy w' (some g) := by
  have hc : ∀ j, j < 8 → w.cell? ⟨g, o + j, none⟩ = some (L.getD (o + j) undef) := by
    intro j hj
    rw [hb.cell]
    have : o + j < L.length := by omega
    simp [List.getD, this]
  have hlt : g < w.heap.size := hb.lt
  refine (Tryd.binary_BE_PutUint64 g o n c v hv _ _ _ _ _ _ _ _ w hn (hc 0 (by omega)) (hc 1 (by omega)) (hc 2 (by omega)) (hc 3 (by omega)) (hc 4 (by omega)) (hc 5 (by omega)) (hc 6 (by omega)) (hc 7 (by omega))
    (hb.free _) (hb.free _) (hb.free _) (hb.free _) (hb.free _) (hb.free _) (hb.free _) (hb.free _)).mono ?_
  rintro e w' ⟨rfl, rfl⟩
  exact ⟨rfl, bk_setCells _ _ L o (hb.alloc _) (by simpa [Lib.byteCells, Lib.beBytes_length] using ho), grown_setCells g _ _ o (grown_alloc (World.grownBy.refl w _) _) (.inl rfl)⟩

/-- binary.BigEndian.Uint64 at bytes that are known. -/
theorem u64BE_any (g o n c : Nat) (l : List UInt8) (w : World) (h : Bs w g o l) (hl : 8 ≤ l.length) (hn : 8 ≤ n) :
    Calls Tryd.prog 29 #[.agg #[], .slice (some ⟨g, o, none⟩) n c] w fun e w' => e = .returned (.int .u64 (Lib.beNat (l.take 8) : Nat)) ∧ Below w.heap.size w w' := by
  match l, hl, h with
  | b0 :: b1 :: b2 :: b3 :: b4 :: b5 :: b6 :: b7 :: r, _, h =>
    exact Tryd.binary_BE_Uint64 g o n c b0 b1 b2 b3 b4 b5 b6 b7 w hn (h 0 (by simp)) (h 1 (by simp)) (h 2 (by simp)) (h 3 (by simp)) (h 4 (by simp)) (h 5 (by simp)) (h 6 (by simp)) (h 7 (by simp))

theorem u64BE_x (g o n c : Nat) (l : List UInt8) (x : Nat) (w : World) (h : Bs w g o l) (hl : l.length = 8) (hx : Lib.beNat l = x) (hn : 8 ≤ n) :
    Calls Tryd.prog 29 #[.agg #[], .slice (some ⟨g, o, none⟩) n c] w fun e w' => e = .returned (.int .u64 (x : Int)) ∧ Below w.heap.size w w' := by
  have h1 := u64BE_any g o n c l w h (by omega) hn
  rw [List.take_of_length_le (by omega), hx] at h1
  exact h1

theorem bs_of_bk {w : World} {g : Nat} {t : TypeId} {l : List UInt8} (h : Bk w g t (Lib.byteCells l).toArray) : Bs w g 0 l := by
  intro j hj
  rw [h.cell, Nat.zero_add]
  simp [Lib.byteCells, hj]

end Go.Proofs.YtjioghedokbgcaaDoor
