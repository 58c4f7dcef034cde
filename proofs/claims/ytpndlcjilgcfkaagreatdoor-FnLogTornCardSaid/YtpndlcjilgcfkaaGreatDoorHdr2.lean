/-
  Contracts of header.Encode, header.Decode, ZZHeader, impl.Header.
-/
import Derived.Test.YtpndlcjilgcfkaaGreatDoorHdr
import Derived.Test.YtpndlcjilgcfkaaGreatDoorShelf
import Derived.WalkKit
import Derived.WalkSpells
import Derived.Deep.DeepCutAuto
namespace Go.Proofs.YtpndlcjilgcfkaaGreatDoor
open Go Go.RowKit
open Go.Proofs
open Go.Lib (uvarint uvarintDec)

def hdrCells (k v x m u : Nat) : Array Value := #[.int .u32 (k : Int), .int .u32 (v : Int), .int .u64 (x : Int), .int .u8 (m : Int), .int .u8 (u : Int)]

theorem cells_two {m u : Nat} (hm : m < 256) (hu : u < 256) : Lib.byteCells [m.toUInt8, u.toUInt8] = [.int .u8 (m : Int), .int .u8 (u : Int)] := by
  simp [Lib.byteCells, toU8 hm, toU8 hu]

theorem splice_app {α : Type} (L A B : List α) : splice (splice L 0 A) A.length B = splice L 0 (A ++ B) := by
  have e1 : (A ++ L.drop A.length).take A.length = A := by rw [List.take_append_of_le_length (Nat.le_refl _), List.take_of_length_le (Nat.le_refl _)]
  have e2 : (A ++ L.drop A.length).drop (A.length + B.length) = L.drop (A.length + B.length) := by
    rw [← List.drop_drop, List.drop_left, List.drop_drop]
  simp only [splice, List.take_zero, List.nil_append, Nat.zero_add, List.length_append, e1, e2, List.append_assoc]

theorem splice_len {α : Type} (L A : List α) (h : A.length ≤ L.length) : (splice L 0 A).length = L.length := by
  simp [splice]; omega

/-- How the memory stands while a header is written: l is written at the front of block g; the header itself lies in block b. -/
structure Hst (w0 : World) (g : Nat) (t : TypeId) (L : List Value) (S : Array Value) (l : List UInt8) (W : World) : Prop where
  row : Bk W g t (splice L 0 (Lib.byteCells l)).toArray
  own : Bk W w0.heap.size 145 S
  grown : w0.grownBy W (some g)

theorem Hst.step {w0 W : World} {g : Nat} {t : TypeId} {L : List Value} {S : Array Value} {l : List UInt8} (h : Hst w0 g t L S l W) (hg : g ≠ w0.heap.size) (hL : L.length = 22) (x : Nat) (hx : x < 18446744073709551616) (i n c a : Nat) (hi : l.length = i) (ha : (uvarint x).length = a) (hn : i + n = 22) (hla : i + a ≤ 22) :
    Calls Tryz.prog 82 #[.slice (some ⟨g, i, none⟩) n c, .int .u64 (x : Int)] W fun e w' => e = .returned (.int .i64 (a : Int)) ∧ Hst w0 g t L S (l ++ uvarint x) w' := by
  subst hi ha
  have hsl : (splice L 0 (Lib.byteCells l)).length = 22 := by rw [splice_len _ _ (by simp [Lib.byteCells]; omega), hL]
  refine (Tryz.binary_PutUvarint g l.length n c x hx W (by omega) (fun j hj => ⟨?_, h.row.free _⟩)).mono ?_
  · rw [h.row.cell]
    simp [hsl]
    omega
  · rintro e w' ⟨rfl, rfl⟩
    have hgr := grown_setCells (a := W) g (Lib.byteCells (uvarint x)) W l.length (row := some g) (grown_of_below (Below.refl _ _) _) (.inl rfl)
    refine ⟨rfl, ?_, h.own.grown hgr (by simpa using fun e => hg e.symm), grown_trans h.grown hgr⟩
    have := bk_setCells (Lib.byteCells (uvarint x)) W _ l.length h.row (by rw [hsl]; simp [Lib.byteCells]; omega)
    have e := splice_app L (Lib.byteCells l) (Lib.byteCells (uvarint x))
    rw [show (Lib.byteCells l).length = l.length by simp [Lib.byteCells]] at e
    rw [e, ← byteCells_append] at this
    exact this

theorem splice_two {L : List Value} (hL : L.length = 22) (a b : Value) : (L.toArray.setIfInBounds 0 a).setIfInBounds 1 b = (splice L 0 [a, b]).toArray := by
  match L, hL with
  | x0 :: x1 :: r, _ => simp [splice]

set_option maxHeartbeats 4000000 in
set_option maxRecDepth 20000 in
theorem hdrEncode_any (k v x m u : Nat) (hk : k < 4294967296) (hv : v < 4294967296) (hx : x < 18446744073709551616) (hm : m < 256) (hu : u < 256) (g : Nat) (t : TypeId) (L : List Value) (hL : L.length = 22) (w : World) (hb : Bk w g t L.toArray) :
    Calls Tryz.prog 62 #[.agg (hdrCells k v x m u), .slice (some ⟨g, 0, none⟩) 22 22] w fun e w' => e = .returned (.int .i64 ((hdrBytes k v x m u).length : Nat)) ∧
      Bk w' g t (splice L 0 (Lib.byteCells (hdrBytes k v x m u))).toArray ∧ w.grownBy w' (some g) := by
  have wk : IntKind.u64.wrap (k : Int) = (k : Int) := IntWalk.u64_in _ (by omega)
  have wv : IntKind.u64.wrap (v : Int) = (v : Int) := IntWalk.u64_in _ (by omega)
  have hlt := hb.lt
  have hne1 : ¬ w.heap.size = g := by omega
  have hne2 : ¬ g = w.heap.size := by omega
  have c0 : w.cell? ⟨g, 0, none⟩ = some L[0] := by rw [hb.cell 0]; simp [hL]
  have c1 : w.cell? ⟨g, 1, none⟩ = some L[1] := by rw [hb.cell 1]; simp [hL]
  have f0 := hb.free 0
  have f1 := hb.free 1
  have hb' := Lib.hid hb
  clear hb
  obtain ⟨K, hK⟩ : ∃ K, (uvarint k).length = K := ⟨_, rfl⟩
  obtain ⟨V, hV⟩ : ∃ V, (uvarint v).length = V := ⟨_, rfl⟩
  obtain ⟨X, hX⟩ : ∃ X, (uvarint x).length = X := ⟨_, rfl⟩
  have lK : K ≤ 5 := hK ▸ uvarint_length32 hk
  have lV : V ≤ 5 := hV ▸ uvarint_length32 hv
  have lX : X ≤ 10 := hX ▸ Lib.uvarint_length64 hx
  obtain ⟨i1, hi1⟩ : ∃ i, i = 2 + K := ⟨_, rfl⟩
  obtain ⟨i2, hi2⟩ : ∃ i, i = i1 + V := ⟨_, rfl⟩
  obtain ⟨i3, hi3⟩ : ∃ i, i = i2 + X := ⟨_, rfl⟩
  have w1 : IntKind.i64.wrap (2 + (K : Int)) = (i1 : Int) := (IntWalk.i64_in _ (by omega)).trans (by omega)
  have w2 : IntKind.i64.wrap ((i1 : Int) + (V : Int)) = (i2 : Int) := (IntWalk.i64_in _ (by omega)).trans (by omega)
  have w3 : IntKind.i64.wrap ((i2 : Int) + (X : Int)) = (i3 : Int) := (IntWalk.i64_in _ (by omega)).trans (by omega)
  have l1 : i1 ≤ 22 := by omega
  have l2 : i2 ≤ 22 := by omega
  have l3 : i3 ≤ 22 := by omega
  have n1 : ¬ 22 = i1 := by omega
  have n2 : ¬ 22 = i2 := by omega
  have hend : i3 = (hdrBytes k v x m u).length := by rw [hdrBytes_length]; omega
  have eqs := Lib.hid (And.intro hK (And.intro hV (And.intro hX (And.intro hi1 (And.intro hi2 (And.intro hi3 hend))))))
  clear hK hV hX hi1 hi2 hi3 hend lK lV lX
  unfold hdrCells
  go_enter Tryz.func62, Tryz.ntmps62
  go_upto_region 1 with fail
  go_cut [] (fun wx => Hst w g t L (hdrCells k v x m u) [m.toUInt8, u.toUInt8] wx)
  case first =>
    go_region
    all_goals
      go_wp2_with fail
      go_meet
      have hgr := grown_drew (grown_alloc (grown_setCell (p := ⟨g, 1, none⟩) (grown_setCell (p := ⟨g, 0, none⟩) (grown_of_below (Below.refl w.heap.size w) (some g)) (.inl rfl) (.int .u8 (m : Int))) (.inl rfl) (.int .u8 (u : Int))) (.cells (hdrCells k v x m u) 145))
      refine ⟨?_, Bk.drew (Bk.at_ _ _ _ _ (by simp)), hgr⟩
      rw [cells_two hm hu, ← splice_two hL]
      exact (((hb'.out.set 0 _).set 1 _).alloc _).drew
  case rest =>
  have hb0 := Lib.hid hcut
  have s0 := hcut.own.cell 0
  simp [hdrCells] at s0
  clear hcut
  go_upto_region 3 with fail
  go_cut [5] (fun s5 wx => s5 = .int .i64 (i1 : Int) ∧ Hst w g t L (hdrCells k v x m u) ([m.toUInt8, u.toUInt8] ++ uvarint k) wx)
  case first =>
    go_region_with (go_at_call 82; refine ((Hst.step (W := wc.drew) ⟨hb0.out.row, hb0.out.own, grown_drew hb0.out.grown⟩ hne2 hL k (by omega) 2 _ _ K rfl eqs.out.1 rfl (by have := eqs.out; omega))).mono ?_; rintro e w1 ⟨rfl, hst⟩)
    all_goals
      go_wp2_with fail
      go_meet
      exact ⟨rfl, hst⟩
  case rest =>
  obtain ⟨rfl, hcut⟩ := hcut
  clear hb0 s0
  have hb0 := Lib.hid hcut
  have s0 := hcut.own.cell 1
  simp [hdrCells] at s0
  clear hcut
  go_upto_region 4 with fail
  go_cut [5] (fun s5 wx => s5 = .int .i64 (i2 : Int) ∧ Hst w g t L (hdrCells k v x m u) ([m.toUInt8, u.toUInt8] ++ uvarint k ++ uvarint v) wx)
  case first =>
    go_region_with (go_at_call 82; refine ((Hst.step (W := World.drew _) ⟨hb0.out.row, hb0.out.own, grown_drew hb0.out.grown⟩ hne2 hL v (by omega) i1 _ _ V (by have := eqs.out; simp; omega) eqs.out.2.1 (by omega) (by have := eqs.out; omega))).mono ?_; rintro e w1 ⟨rfl, hst⟩)
    all_goals
      go_wp2_with fail
      go_meet
      exact ⟨rfl, hst⟩
  case rest =>
  obtain ⟨rfl, hcut⟩ := hcut
  clear hb0 s0
  have hb0 := Lib.hid hcut
  have s0 := hcut.own.cell 2
  simp [hdrCells] at s0
  clear hcut
  go_upto_region 5 with fail
  go_cut [5] (fun s5 wx => s5 = .int .i64 (i3 : Int) ∧ Hst w g t L (hdrCells k v x m u) ([m.toUInt8, u.toUInt8] ++ uvarint k ++ uvarint v ++ uvarint x) wx)
  case first =>
    go_region_with (go_at_call 82; refine ((Hst.step (W := World.drew _) ⟨hb0.out.row, hb0.out.own, grown_drew hb0.out.grown⟩ hne2 hL x (by omega) i2 _ _ X (by have := eqs.out; simp; omega) eqs.out.2.2.1 (by omega) (by have := eqs.out; omega))).mono ?_; rintro e w1 ⟨rfl, hst⟩)
    all_goals
      go_wp2_with fail
      go_meet
      exact ⟨rfl, hst⟩
  case rest =>
  obtain ⟨rfl, hcut⟩ := hcut
  have hb0 := Lib.hid hcut
  clear hcut
  go_wp2_with fail
  go_ret
  refine ⟨congrArg (fun n : Nat => Ending.returned (Value.int .i64 (n : Int))) eqs.out.2.2.2.2.2.2, ?_, hb0.out.grown⟩
  have := hb0.out.row
  simpa [hdrBytes] using this

end Go.Proofs.YtpndlcjilgcfkaaGreatDoor
