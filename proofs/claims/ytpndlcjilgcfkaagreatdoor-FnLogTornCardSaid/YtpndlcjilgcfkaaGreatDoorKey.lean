/-
  Contracts of the functions on keys with versions.
-/
import Derived.Test.YtpndlcjilgcfkaaGreatDoorRows
import Derived.Test.YtpndlcjilgcfkaaGreatDoorShelf
import Derived.Test.YtpndlcjilgcfkaaGreatDoorMem
import Derived.Test.YtpndlcjilgcfkaaGreatDoorKeyMath
import Derived.Deep.RegionWith
namespace Go.Proofs.YtpndlcjilgcfkaaGreatDoor
open Go Go.RowKit
open Go.Proofs

theorem u8row : (Tryz.prog.info? 5).map (fun i => (i.zero, i.size, i.bytes)) = some (some (.int .u8 0), 1, 1) := by kernel_rfl

theorem made_bytes (n : Nat) : madeCells #[Value.int .u8 0] n = (List.replicate n (Value.int .u8 0)).toArray := by
  apply Array.ext'
  rw [toList_madeCells_one]

/-- binary.BigEndian.PutUint64 into a block that is known whole. -/
theorem putBE8_any (g o n c v : Nat) (t : TypeId) (L : List Value) (hv : v < 18446744073709551616) (w : World) (hb : Bk w g t L.toArray) (hn : 8 ≤ n) (ho : o + 8 ≤ L.length) :
    Calls Tryz.prog 69 #[.agg #[], .slice (some ⟨g, o, none⟩) n c, .int .u64 (v : Int)] w fun e w' => e = .returned (.tuple #[]) ∧
      Bk w' g t (splice L o (Lib.byteCells (Lib.beBytes 8 v))).toArray ∧ w.grownBy w' (some g) := by
  have hc : ∀ j, j < 8 → w.cell? ⟨g, o + j, none⟩ = some (L.getD (o + j) undef) := by
    intro j hj
    rw [hb.cell]
    have : o + j < L.length := by omega
    simp [List.getD, this]
  have hlt : g < w.heap.size := hb.lt
  refine (Tryz.binary_BE_PutUint64 g o n c v hv _ _ _ _ _ _ _ _ w hn (hc 0 (by omega)) (hc 1 (by omega)) (hc 2 (by omega)) (hc 3 (by omega)) (hc 4 (by omega)) (hc 5 (by omega)) (hc 6 (by omega)) (hc 7 (by omega))
    (hb.free _) (hb.free _) (hb.free _) (hb.free _) (hb.free _) (hb.free _) (hb.free _) (hb.free _)).mono ?_
  rintro e w' ⟨rfl, rfl⟩
  exact ⟨rfl, bk_setCells _ _ L o (hb.alloc _) (by simpa [Lib.byteCells, Lib.beBytes_length] using ho), grown_setCells g _ _ o (grown_alloc (World.grownBy.refl w _) _) (.inl rfl)⟩

/-- binary.BigEndian.Uint64 at bytes that are known. -/
theorem u64BE_any (g o n c : Nat) (l : List UInt8) (w : World) (h : Bs w g o l) (hl : 8 ≤ l.length) (hn : 8 ≤ n) :
    Calls Tryz.prog 79 #[.agg #[], .slice (some ⟨g, o, none⟩) n c] w fun e w' => e = .returned (.int .u64 (Lib.beNat (l.take 8) : Nat)) ∧ Below w.heap.size w w' := by
  match l, hl, h with
  | b0 :: b1 :: b2 :: b3 :: b4 :: b5 :: b6 :: b7 :: r, _, h =>
    exact Tryz.binary_BE_Uint64 g o n c b0 b1 b2 b3 b4 b5 b6 b7 w hn (h 0 (by simp)) (h 1 (by simp)) (h 2 (by simp)) (h 3 (by simp)) (h 4 (by simp)) (h 5 (by simp)) (h 6 (by simp)) (h 7 (by simp))

theorem u64BE_x (g o n c : Nat) (l : List UInt8) (x : Nat) (w : World) (h : Bs w g o l) (hl : l.length = 8) (hx : Lib.beNat l = x) (hn : 8 ≤ n) :
    Calls Tryz.prog 79 #[.agg #[], .slice (some ⟨g, o, none⟩) n c] w fun e w' => e = .returned (.int .u64 (x : Int)) ∧ Below w.heap.size w w' := by
  have h1 := u64BE_any g o n c l w h (by omega) hn
  rw [List.take_of_length_le (by omega), hx] at h1
  exact h1

theorem bs_of_bk {w : World} {g : Nat} {t : TypeId} {l : List UInt8} (h : Bk w g t (Lib.byteCells l).toArray) : Bs w g 0 l := by
  intro j hj
  rw [h.cell, Nat.zero_add]
  simp [Lib.byteCells, hj]

set_option maxHeartbeats 1000000 in
/-- y.ParseTs: the version of a key; 0 of a short one. -/
theorem parseTs_any (g o n c : Nat) (l : List UInt8) (w : World) (h : Bs w g o l) (hl : l.length = n) (hc : n ≤ c) (h63 : n ≤ 4294967296) :
    Calls Tryz.prog 57 #[.slice (some ⟨g, o, none⟩) n c] w fun e w' => e = .returned (.int .u64 (tsOf l : Nat)) ∧ Below w.heap.size w w' := by
  by_cases h8 : n ≤ 8
  · have e : tsOf l = 0 := by unfold tsOf; rw [if_pos (by omega)]
    have e' := Lib.hid e
    clear e
    go_enter Tryz.func57, Tryz.ntmps57
    go_wp2_with fail
    go_ret
    exact ⟨by rw [e'.out]; rfl, Below.refl _ _⟩
  · obtain ⟨m, rfl⟩ : ∃ m, n = m + 8 := ⟨n - 8, by omega⟩
    have hm : 0 < m := by omega
    have hlt := beNat_lt (l.drop m)
    have hd8 : (l.drop m).length = 8 := by simp; omega
    rw [hd8] at hlt
    obtain ⟨x, hx⟩ : ∃ x, x = Lib.beNat (l.drop m) := ⟨_, rfl⟩
    have hx' := Lib.hid hx
    have e : tsOf l = 18446744073709551615 - x := by unfold tsOf; rw [if_neg (by omega), hl, hx]; rfl
    have e' := Lib.hid e
    have ht : (l.drop m).take 8 = l.drop m := List.take_of_length_le (by omega)
    have ht' := Lib.hid ht
    have hbd := h.drop m
    have hx64 : x ≤ 18446744073709551615 := by omega
    have hw1 : IntKind.u64.wrap (18446744073709551615 - (x : Int)) = ((18446744073709551615 - x : Nat) : Int) := by rw [IntKind.wrap_u64]; omega
    have hw1' := Lib.hid hw1
    have hd8' := Lib.hid hd8
    have hl' := Lib.hid hl
    clear hx e ht hw1 hd8 hl hlt
    have hle : (m : Int) ≤ (m : Int) + 8 := by omega
    have hcm : ¬ c = m := by omega
    have hwm : IntKind.i64.wrap (m : Int) = (m : Int) := IntWalk.i64_in _ (by omega)
    go_enter Tryz.func57, Tryz.ntmps57
    go_wp2_with fail
    go_region_with (go_at_call 79; refine (u64BE_x g (o + m) _ _ (l.drop m) x _ hbd.drew hd8'.out hx'.out.symm (by omega)).mono ?_; rintro e w2 ⟨rfl, hb2⟩)
    have hb2' := Lib.hid hb2
    clear hb2
    go_wp2_with fail
    go_ret
    refine ⟨?_, (Below.refl _ w).drew.trans hb2'.out⟩
    show Ending.returned (.int .u64 (IntKind.u64.wrap (18446744073709551615 - (x : Int)))) = _
    rw [hw1'.out, e'.out]
end Go.Proofs.YtpndlcjilgcfkaaGreatDoor
