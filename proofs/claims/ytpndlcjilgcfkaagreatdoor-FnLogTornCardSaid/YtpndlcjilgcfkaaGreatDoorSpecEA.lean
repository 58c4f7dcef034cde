/-
  Contract of spec.entryAt: what stands at a place of a log.
-/
import Derived.Test.YtpndlcjilgcfkaaGreatDoorSpecR
import Derived.Test.YtpndlcjilgcfkaaGreatDoorEnt
import Derived.Test.YtpndlcjilgcfkaaGreatDoorTail
import Derived.BigRegion
import Derived.Test.YtpndlcjilgcfkaaGreatDoorSpecW
import Derived.Deep.RegionHeld3
namespace Go.Proofs.YtpndlcjilgcfkaaGreatDoor
open Go Go.RowKit
open Go.Proofs

theorem uvGo_used : ∀ (l : List UInt8) (i acc : Nat), (uvGo i acc l).2 ≤ ((i + l.length : Nat) : Int) := by
  intro l
  induction l with
  | nil => intro i acc; simp [uvGo]
  | cons b r ih =>
    intro i acc
    unfold uvGo
    split
    · simp; omega
    · split
      · simp; omega
      · have := ih (i + 1) (acc + b.toNat % 128 * 2 ^ (7 * i))
        simp at this ⊢
        omega
theorem uvOf_used (l : List UInt8) : (uvOf l).2 ≤ (l.length : Int) := by simpa [uvOf] using uvGo_used l 0 0

/-- A reference's entry as cells. -/
def enC (e : LEnt) : Array Value := entCells ⟨e.key.toArray⟩ ⟨e.val.toArray⟩ e.bits e.um e.exp e.off e.len

/-- How far the three numbers of a header are read: the place, the numbers. -/
def Num0 (n a b c : Nat) : Prop := n = 2 ∧ a = 0 ∧ b = 0 ∧ c = 0
def Num1 (h : List UInt8) (n a b c : Nat) : Prop := ∃ n0, Num0 n0 0 0 0 ∧ 0 < (uvOf (h.drop n0)).2 ∧ n = n0 + (uvOf (h.drop n0)).2.toNat ∧ a = (uvOf (h.drop n0)).1 ∧ b = 0 ∧ c = 0
def Num2 (h : List UInt8) (n a b c : Nat) : Prop := ∃ n0, Num1 h n0 a 0 0 ∧ 0 < (uvOf (h.drop n0)).2 ∧ n = n0 + (uvOf (h.drop n0)).2.toNat ∧ b = (uvOf (h.drop n0)).1 ∧ c = 0
def Num3 (h : List UInt8) (n a b c : Nat) : Prop := ∃ n0, Num2 h n0 a b 0 ∧ 0 < (uvOf (h.drop n0)).2 ∧ n = n0 + (uvOf (h.drop n0)).2.toNat ∧ c = (uvOf (h.drop n0)).1
def NumSt (h : List UInt8) (i n a b c : Nat) : Prop := (i = 0 ∧ Num0 n a b c) ∨ (i = 1 ∧ Num1 h n a b c) ∨ (i = 2 ∧ Num2 h n a b c) ∨ (i = 3 ∧ Num3 h n a b c)

/-- What entryAt says where a number can't be read. -/
theorem numSt_no {h : List UInt8} {i n a b c o : Nat} (h2 : 2 ≤ h.length) (hi : i < 3) (hs : NumSt h i n a b c) (hu : (uvOf (h.drop n)).2 ≤ 0) : entryAt h o = if (uvOf (h.drop n)).2 = 0 then .stop else .bad := by
  rcases hs with ⟨rfl, e, _⟩ | ⟨rfl, n0, ⟨e, _⟩, k1, e1, _⟩ | ⟨rfl, n0, ⟨n1, ⟨e, _⟩, k1, e1, _⟩, k2, e2, _⟩ | ⟨rfl, _⟩
  · subst e
    unfold entryAt
    rw [if_neg (by omega), if_pos hu]
  · subst e e1
    unfold entryAt
    rw [if_neg (by omega), if_neg (by omega)]
    dsimp only
    rw [if_pos hu]
  · subst e e1 e2
    unfold entryAt
    rw [if_neg (by omega), if_neg (by omega)]
    dsimp only
    rw [if_neg (by omega), if_pos hu]
  · omega
theorem numSt_all {h : List UInt8} {n a b c o : Nat} (h2 : 2 ≤ h.length) (hs : Num3 h n a b c) : entryAt h o =
    if 4294967295 < a ∨ 1048576 < b then .bad else
    if 65536 < a ∨ h.length < n + a + b + 4 ∨ Lib.beNat ((h.drop (n + a + b)).take 4) ≠ crc32 (h.take (n + a + b)) then .stop else
    if a = 0 then .stop else
    .got ⟨(h.drop n).take a, (h.drop (n + a)).take b, (h.getD 0 0).toNat, (h.getD 1 0).toNat, c, o, n + a + b + 4⟩ := by
  obtain ⟨n0, ⟨n1, ⟨n2, ⟨e, _⟩, k1, e1, e1a, _⟩, k2, e2, e2b, _⟩, k3, e3, e3c⟩ := hs
  subst e e1 e2 e3 e1a e2b e3c
  unfold entryAt
  rw [if_neg (by omega), if_neg (by omega)]
  dsimp only
  rw [if_neg (by omega), if_neg (by omega)]
theorem num1_le {h : List UInt8} {n a b c : Nat} (h2 : 2 ≤ h.length) (hs : Num1 h n a b c) : n ≤ h.length ∧ a < 18446744073709551616 := by
  obtain ⟨n0, ⟨e, _⟩, k1, e1, ea, eb, ec⟩ := hs
  have h1 := uvOf_used (h.drop n0)
  have h3 := uvOf_lt (h.drop n0)
  subst e ea eb ec e1
  rw [List.length_drop] at h1
  exact ⟨by omega, h3⟩
theorem num2_le {h : List UInt8} {n a b c : Nat} (h2 : 2 ≤ h.length) (hs : Num2 h n a b c) : n ≤ h.length ∧ a < 18446744073709551616 ∧ b < 18446744073709551616 := by
  obtain ⟨n0, hs1, k2, e2, eb, ec⟩ := hs
  obtain ⟨g1, g2⟩ := num1_le h2 hs1
  have h1 := uvOf_used (h.drop n0)
  have h3 := uvOf_lt (h.drop n0)
  subst eb ec e2
  rw [List.length_drop] at h1
  exact ⟨by omega, g2, h3⟩
theorem num3_le {h : List UInt8} {n a b c : Nat} (h2 : 2 ≤ h.length) (hs : Num3 h n a b c) : n ≤ h.length ∧ a < 18446744073709551616 ∧ b < 18446744073709551616 ∧ c < 18446744073709551616 := by
  obtain ⟨n0, hs1, k2, e2, ec⟩ := hs
  obtain ⟨g1, g2, g3⟩ := num2_le h2 hs1
  have h1 := uvOf_used (h.drop n0)
  have h3 := uvOf_lt (h.drop n0)
  subst ec e2
  rw [List.length_drop] at h1
  exact ⟨by omega, g2, g3, h3⟩
theorem numSt_le {h : List UInt8} {i n a b c : Nat} (h2 : 2 ≤ h.length) (hs : NumSt h i n a b c) : n ≤ h.length := by
  rcases hs with ⟨rfl, e, _⟩ | ⟨rfl, hs⟩ | ⟨rfl, hs⟩ | ⟨rfl, hs⟩
  · omega
  · exact (num1_le h2 hs).1
  · exact (num2_le h2 hs).1
  · exact (num3_le h2 hs).1

/-- What spec.entryAt answers. -/
def EAPost (r : LRes) (w : World) (e : Ending) (w' : World) : Prop :=
  Below w.heap.size w w' ∧ match r with
    | .bad => ∃ k y m u x o n, e = .returned (.tuple #[.agg (entCells k y m u x o n), .bool false, .bool false])
    | .stop => ∃ k y m u x o n, e = .returned (.tuple #[.agg (entCells k y m u x o n), .bool false, .bool true])
    | .got E => e = .returned (.tuple #[.agg (enC E), .bool true, .bool true])

theorem num_next0 {h : List UInt8} {n : Nat} (hs : NumSt h 0 n 0 0 0) (hu : 0 < (uvOf (h.drop n)).2) : NumSt h 1 (n + (uvOf (h.drop n)).2.toNat) (uvOf (h.drop n)).1 0 0 := by
  rcases hs with ⟨_, hs⟩ | ⟨h1, _⟩ | ⟨h1, _⟩ | ⟨h1, _⟩
  · exact .inr (.inl ⟨rfl, n, hs, hu, rfl, rfl, rfl, rfl⟩)
  all_goals cases h1
theorem num_next1 {h : List UInt8} {n a : Nat} (hs : NumSt h 1 n a 0 0) (hu : 0 < (uvOf (h.drop n)).2) : NumSt h 2 (n + (uvOf (h.drop n)).2.toNat) a (uvOf (h.drop n)).1 0 := by
  rcases hs with ⟨h1, _⟩ | ⟨_, hs⟩ | ⟨h1, _⟩ | ⟨h1, _⟩
  · cases h1
  · exact .inr (.inr (.inl ⟨rfl, n, hs, hu, rfl, rfl, rfl⟩))
  all_goals cases h1
theorem num_next2 {h : List UInt8} {n a b : Nat} (hs : NumSt h 2 n a b 0) (hu : 0 < (uvOf (h.drop n)).2) : NumSt h 3 (n + (uvOf (h.drop n)).2.toNat) a b (uvOf (h.drop n)).1 := by
  rcases hs with ⟨h1, _⟩ | ⟨h1, _⟩ | ⟨_, hs⟩ | ⟨h1, _⟩
  · cases h1
  · cases h1
  · exact .inr (.inr (.inr ⟨rfl, n, hs, hu, rfl, rfl⟩))
  · cases h1
theorem num_zero0 {h : List UInt8} {n a b c : Nat} (hs : NumSt h 0 n a b c) : a = 0 ∧ b = 0 ∧ c = 0 := by
  rcases hs with ⟨_, hs⟩ | ⟨h1, _⟩ | ⟨h1, _⟩ | ⟨h1, _⟩
  · exact hs.2
  all_goals cases h1
theorem num_zero1 {h : List UInt8} {n a b c : Nat} (hs : NumSt h 1 n a b c) : b = 0 ∧ c = 0 := by
  rcases hs with ⟨h1, _⟩ | ⟨_, _, _, _, _, _, hs⟩ | ⟨h1, _⟩ | ⟨h1, _⟩
  · cases h1
  · exact hs
  all_goals cases h1
theorem num_zero2 {h : List UInt8} {n a b c : Nat} (hs : NumSt h 2 n a b c) : c = 0 := by
  rcases hs with ⟨h1, _⟩ | ⟨h1, _⟩ | ⟨_, _, _, _, _, _, hs⟩ | ⟨h1, _⟩
  · cases h1
  · cases h1
  · exact hs
  · cases h1
theorem num_three {h : List UInt8} {n a b c : Nat} (hs : NumSt h 3 n a b c) : Num3 h n a b c := by
  rcases hs with ⟨h1, _⟩ | ⟨h1, _⟩ | ⟨h1, _⟩ | ⟨_, hs⟩
  · cases h1
  · cases h1
  · cases h1
  · exact hs

/-- The entry ahead of anything. -/
def ent0 : Array Value := entCells ⟨#[]⟩ ⟨#[]⟩ 0 0 0 0 0

/-- What the loop over a header's three numbers keeps. -/
structure EARel (h : List UInt8) (w : World) (i n a b c : Nat) (wx : World) : Prop where
  hi : i ≤ 3
  st : NumSt h i n a b c
  nums : Bk wx (w.heap.size + 1) 71 #[.int .u64 (a : Int), .int .u64 (b : Int), .int .u64 (c : Int)]
  ent : Bk wx w.heap.size 30 #[.string { data := #[] }, .string { data := #[] }, .int .u8 0, .int .u8 0, .int .u64 0, .int .u32 0, .int .u32 0]
  bl : Below w.heap.size w wx

theorem bl7 {w W : World} (h : Below w.heap.size w W) (u0 u1 u2 u3 u4 u5 u6 : Value) : Below w.heap.size w (((((((W.setCell ⟨w.heap.size, 0, none⟩ u0).setCell ⟨w.heap.size, 1, none⟩ u1).setCell ⟨w.heap.size, 2, none⟩ u2).setCell ⟨w.heap.size, 3, none⟩ u3).setCell ⟨w.heap.size, 4, none⟩ u4).setCell ⟨w.heap.size, 5, none⟩ u5).setCell ⟨w.heap.size, 6, none⟩ u6) :=
  ((((((h.setCell (Nat.le_refl _) _).setCell (Nat.le_refl _) _).setCell (Nat.le_refl _) _).setCell (Nat.le_refl _) _).setCell (Nat.le_refl _) _).setCell (Nat.le_refl _) _).setCell (Nat.le_refl _) _
theorem EARel.next {h : List UInt8} {w wx : World} {i n a b c j n' a' b' c' k : Nat} {u : Value} (hR : EARel h w i n a b c wx) (hj : j ≤ 3) (hs : NumSt h j n' a' b' c')
    (hb : Bk (wx.setCell ⟨w.heap.size + 1, k, none⟩ u) (w.heap.size + 1) 71 #[.int .u64 (a' : Int), .int .u64 (b' : Int), .int .u64 (c' : Int)]) : EARel h w j n' a' b' c' (wx.setCell ⟨w.heap.size + 1, k, none⟩ u) :=
  ⟨hj, hs, hb, hR.ent.far (show w.heap.size ≠ w.heap.size + 1 by omega) _, hR.bl.setCell (p := ⟨w.heap.size + 1, k, none⟩) (show w.heap.size ≤ w.heap.size + 1 by omega) _⟩


set_option maxHeartbeats 8000000 in
set_option maxRecDepth 100000 in
theorem specEntryAt_any (l : List UInt8) (at_ : Nat) (w : World) (hat : at_ ≤ l.length) (hl : l.length ≤ 1000000000) :
    Calls Tryz.prog 18 #[.string ⟨l.toArray⟩, .int .i64 (at_ : Int)] w (EAPost (entryAt (l.drop at_) at_) w) := by
  obtain ⟨h, hh⟩ : ∃ h, l.drop at_ = h := ⟨_, rfl⟩
  have hsl : ∀ W : World, (Instr.slice 9 (.string ⟨l.toArray⟩) (some (.int .i64 (at_ : Int))) none none).run Tryz.prog W = .ok (.string ⟨h.toArray⟩) W := fun W => by
    have := run_sliceFrom_mk 9 Tryz.underlying9 l .i64 at_ hat W
    rwa [hh] at this
  have hhl : h.length ≤ 1000000000 := by rw [← hh, List.length_drop]; omega
  have hsz : (ByteArray.mk h.toArray).size = h.length := by simp [ByteArray.size]
  rw [hh]
  have hh' := Lib.hid hh
  clear hh
  by_cases h2 : 2 ≤ h.length
  · go_enter Tryz.func18, Tryz.ntmps18
    have h2I : ¬ (h.length : Int) < 2 := by omega
    go_wp2_with fail
    go_loopw [9, 22] (fun s9 s22 wx => ∃ i n a b c : Nat, s22 = .int .i64 (i : Int) ∧ s9 = .int .i64 (n : Int) ∧ EARel h w i n a b c wx) (fun _ s22 _ => 3 - (intOf s22).toNat)
    case atStart => exact ⟨0, 2, 0, 0, 0, rfl, rfl, by omega, .inl ⟨rfl, rfl, rfl, rfl, rfl⟩, Bk.at_ _ _ _ _ (by simp), (Bk.at_ _ _ _ _ rfl).alloc _, ((Below.refl _ _).alloc (Nat.le_refl _) _).alloc (by simp) _⟩
    case round =>
      obtain ⟨i, n, a, b, c, rfl, rfl, hR⟩ := hrel
      have hi := hR.hi
      rcases (show i = 0 ∨ i = 1 ∨ i = 2 ∨ i = 3 by omega) with rfl | rfl | rfl | rfl
      --<
      · obtain ⟨rfl, rfl, rfl⟩ := num_zero0 hR.st
        have hn := numSt_le h2 hR.st
        have hcut : ∀ W : World, (Instr.slice 9 (.string ⟨h.toArray⟩) (some (.int .i64 (n : Int))) none none).run Tryz.prog W = .ok (.string ⟨(h.drop n).toArray⟩) W := run_sliceFrom_mk 9 Tryz.underlying9 h .i64 n hn
        have hcall := fun W => specUv_any (h.drop n) W (by rw [List.length_drop]; omega)
        have hno := numSt_no (o := at_) h2 (by omega) hR.st
        have hle := uvOf_used (h.drop n)
        have hlt64 := uvOf_lt (h.drop n)
        have hnx := num_next0 hR.st
        rw [List.length_drop] at hle
        obtain ⟨⟨x, used⟩, hx⟩ : ∃ r, uvOf (h.drop n) = r := ⟨_, rfl⟩
        rw [hx] at hno hle hlt64 hnx
        simp only [hx] at hcall
        obtain ⟨t, ht⟩ : ∃ t, h.drop n = t := ⟨_, rfl⟩
        rw [ht] at hcut hcall
        simp only at hno hle hlt64 hnx
        have n0 := hR.nums.cell 0
        have n1 := hR.nums.cell 1
        have n2 := hR.nums.cell 2
        have f0 := hR.nums.free 0
        have e0 := hR.ent.cell 0
        have e1 := hR.ent.cell 1
        have e2 := hR.ent.cell 2
        have e3 := hR.ent.cell 3
        have e4 := hR.ent.cell 4
        have e5 := hR.ent.cell 5
        have e6 := hR.ent.cell 6
        have g0 := hR.ent.free 0
        have g1 := hR.ent.free 1
        have g2 := hR.ent.free 2
        have g3 := hR.ent.free 3
        have g4 := hR.ent.free 4
        have g5 := hR.ent.free 5
        have g6 := hR.ent.free 6
        simp at n0 n1 n2 e0 e1 e2 e3 e4 e5 e6
        have hcall' := Lib.hid (hcall wr)
        clear hcall
        rcases Int.lt_trichotomy used 0 with hu | hu | hu
        · have hans := hno (by omega)
          rw [if_neg (by omega)] at hans
          have huI : used ≤ 0 := by omega
          have huN : ¬ used = 0 := by omega
          have hans' := Lib.hid hans
          have hR' := Lib.hid hR
          have hx' := Lib.hid hx
          have ht' := Lib.hid ht
          have hnx' := Lib.hid hnx
          have hno' := Lib.hid hno
          clear hno hnx ht hx hR hans
          go_wp2_with fail
          refine hcall'.out.mono ?_
          rintro e w2 ⟨rfl, rfl⟩
          go_wp2_with fail
          refine bodyPost_ret (v := .tuple #[.agg #[.string { data := #[] }, .string { data := #[] }, .int .u8 0, .int .u8 0, .int .u64 0, .int .u32 0, .int .u32 0], .bool false, .bool false]) (by simp [results, Tryz.results18, go_sem, e0, e1, e2, e3, e4, e5, e6, huN]) rfl ?_
          rw [hans'.out]
          exact ⟨bl7 hR'.out.bl _ _ _ _ _ _ _, ⟨#[]⟩, ⟨#[]⟩, 0, 0, 0, 0, 0, rfl⟩
        · subst hu
          have hans := hno (by omega)
          rw [if_pos rfl] at hans
          have hans' := Lib.hid hans
          have hR' := Lib.hid hR
          have hx' := Lib.hid hx
          have ht' := Lib.hid ht
          have hnx' := Lib.hid hnx
          have hno' := Lib.hid hno
          clear hno hnx ht hx hR hans
          go_wp2_with fail
          refine hcall'.out.mono ?_
          rintro e w2 ⟨rfl, rfl⟩
          go_wp2_with fail
          refine bodyPost_ret (v := .tuple #[.agg #[.string { data := #[] }, .string { data := #[] }, .int .u8 0, .int .u8 0, .int .u64 0, .int .u32 0, .int .u32 0], .bool false, .bool true]) (by simp [results, Tryz.results18, go_sem, e0, e1, e2, e3, e4, e5, e6, go_sem]) rfl ?_
          rw [hans'.out]
          exact ⟨bl7 hR'.out.bl _ _ _ _ _ _ _, ⟨#[]⟩, ⟨#[]⟩, 0, 0, 0, 0, 0, rfl⟩
        · obtain ⟨u, rfl⟩ := Int.eq_ofNat_of_zero_le (Int.le_of_lt hu)
          have huI : ¬ (u : Int) ≤ 0 := by omega
          have hnx1 := hnx hu
          rw [Int.toNat_natCast] at hnx1
          have hsum : IntKind.i64.wrap ((n : Int) + (u : Int)) = (n : Int) + (u : Int) := IntWalk.i64_in _ (by omega)
          have hnum := hR.nums.set 0 (.int .u64 (x : Int))
          simp at hnum
          have hR' := Lib.hid hR
          have hx' := Lib.hid hx
          have ht' := Lib.hid ht
          have hnx' := Lib.hid hnx
          have hno' := Lib.hid hno
          have hnx1' := Lib.hid hnx1
          have hnum' := Lib.hid hnum
          clear hnum hnx1 hno hnx ht hx hR
          go_wp2_with fail
          refine hcall'.out.mono ?_
          rintro e w2 ⟨rfl, rfl⟩
          go_wp2_with fail
          go_roundw
          case rel => exact ⟨1, n + u, x, 0, 0, rfl, by go_num, hR'.out.next (by omega) hnx1'.out hnum'.out⟩
          case measure => simp [intOf]
      -->
      --<
      · obtain ⟨rfl, rfl⟩ := num_zero1 hR.st
        have hn := numSt_le h2 hR.st
        have hcut : ∀ W : World, (Instr.slice 9 (.string ⟨h.toArray⟩) (some (.int .i64 (n : Int))) none none).run Tryz.prog W = .ok (.string ⟨(h.drop n).toArray⟩) W := run_sliceFrom_mk 9 Tryz.underlying9 h .i64 n hn
        have hcall := fun W => specUv_any (h.drop n) W (by rw [List.length_drop]; omega)
        have hno := numSt_no (o := at_) h2 (by omega) hR.st
        have hle := uvOf_used (h.drop n)
        have hlt64 := uvOf_lt (h.drop n)
        have hnx := num_next1 hR.st
        rw [List.length_drop] at hle
        obtain ⟨⟨x, used⟩, hx⟩ : ∃ r, uvOf (h.drop n) = r := ⟨_, rfl⟩
        rw [hx] at hno hle hlt64 hnx
        simp only [hx] at hcall
        obtain ⟨t, ht⟩ : ∃ t, h.drop n = t := ⟨_, rfl⟩
        rw [ht] at hcut hcall
        simp only at hno hle hlt64 hnx
        have n0 := hR.nums.cell 0
        have n1 := hR.nums.cell 1
        have n2 := hR.nums.cell 2
        have f0 := hR.nums.free 1
        have e0 := hR.ent.cell 0
        have e1 := hR.ent.cell 1
        have e2 := hR.ent.cell 2
        have e3 := hR.ent.cell 3
        have e4 := hR.ent.cell 4
        have e5 := hR.ent.cell 5
        have e6 := hR.ent.cell 6
        have g0 := hR.ent.free 0
        have g1 := hR.ent.free 1
        have g2 := hR.ent.free 2
        have g3 := hR.ent.free 3
        have g4 := hR.ent.free 4
        have g5 := hR.ent.free 5
        have g6 := hR.ent.free 6
        simp at n0 n1 n2 e0 e1 e2 e3 e4 e5 e6
        have hcall' := Lib.hid (hcall wr)
        clear hcall
        rcases Int.lt_trichotomy used 0 with hu | hu | hu
        · have hans := hno (by omega)
          rw [if_neg (by omega)] at hans
          have huI : used ≤ 0 := by omega
          have huN : ¬ used = 0 := by omega
          have hans' := Lib.hid hans
          have hR' := Lib.hid hR
          have hx' := Lib.hid hx
          have ht' := Lib.hid ht
          have hnx' := Lib.hid hnx
          have hno' := Lib.hid hno
          clear hno hnx ht hx hR hans
          go_wp2_with fail
          refine hcall'.out.mono ?_
          rintro e w2 ⟨rfl, rfl⟩
          go_wp2_with fail
          refine bodyPost_ret (v := .tuple #[.agg #[.string { data := #[] }, .string { data := #[] }, .int .u8 0, .int .u8 0, .int .u64 0, .int .u32 0, .int .u32 0], .bool false, .bool false]) (by simp [results, Tryz.results18, go_sem, e0, e1, e2, e3, e4, e5, e6, huN]) rfl ?_
          rw [hans'.out]
          exact ⟨bl7 hR'.out.bl _ _ _ _ _ _ _, ⟨#[]⟩, ⟨#[]⟩, 0, 0, 0, 0, 0, rfl⟩
        · subst hu
          have hans := hno (by omega)
          rw [if_pos rfl] at hans
          have hans' := Lib.hid hans
          have hR' := Lib.hid hR
          have hx' := Lib.hid hx
          have ht' := Lib.hid ht
          have hnx' := Lib.hid hnx
          have hno' := Lib.hid hno
          clear hno hnx ht hx hR hans
          go_wp2_with fail
          refine hcall'.out.mono ?_
          rintro e w2 ⟨rfl, rfl⟩
          go_wp2_with fail
          refine bodyPost_ret (v := .tuple #[.agg #[.string { data := #[] }, .string { data := #[] }, .int .u8 0, .int .u8 0, .int .u64 0, .int .u32 0, .int .u32 0], .bool false, .bool true]) (by simp [results, Tryz.results18, go_sem, e0, e1, e2, e3, e4, e5, e6, go_sem]) rfl ?_
          rw [hans'.out]
          exact ⟨bl7 hR'.out.bl _ _ _ _ _ _ _, ⟨#[]⟩, ⟨#[]⟩, 0, 0, 0, 0, 0, rfl⟩
        · obtain ⟨u, rfl⟩ := Int.eq_ofNat_of_zero_le (Int.le_of_lt hu)
          have huI : ¬ (u : Int) ≤ 0 := by omega
          have hnx1 := hnx hu
          rw [Int.toNat_natCast] at hnx1
          have hsum : IntKind.i64.wrap ((n : Int) + (u : Int)) = (n : Int) + (u : Int) := IntWalk.i64_in _ (by omega)
          have hnum := hR.nums.set 1 (.int .u64 (x : Int))
          simp at hnum
          have hR' := Lib.hid hR
          have hx' := Lib.hid hx
          have ht' := Lib.hid ht
          have hnx' := Lib.hid hnx
          have hno' := Lib.hid hno
          have hnx1' := Lib.hid hnx1
          have hnum' := Lib.hid hnum
          clear hnum hnx1 hno hnx ht hx hR
          go_wp2_with fail
          refine hcall'.out.mono ?_
          rintro e w2 ⟨rfl, rfl⟩
          go_wp2_with fail
          go_roundw
          case rel => exact ⟨2, n + u, a, x, 0, rfl, by go_num, hR'.out.next (by omega) hnx1'.out hnum'.out⟩
          case measure => simp [intOf]
      -->
      --<
      · obtain rfl := num_zero2 hR.st
        have hn := numSt_le h2 hR.st
        have hcut : ∀ W : World, (Instr.slice 9 (.string ⟨h.toArray⟩) (some (.int .i64 (n : Int))) none none).run Tryz.prog W = .ok (.string ⟨(h.drop n).toArray⟩) W := run_sliceFrom_mk 9 Tryz.underlying9 h .i64 n hn
        have hcall := fun W => specUv_any (h.drop n) W (by rw [List.length_drop]; omega)
        have hno := numSt_no (o := at_) h2 (by omega) hR.st
        have hle := uvOf_used (h.drop n)
        have hlt64 := uvOf_lt (h.drop n)
        have hnx := num_next2 hR.st
        rw [List.length_drop] at hle
        obtain ⟨⟨x, used⟩, hx⟩ : ∃ r, uvOf (h.drop n) = r := ⟨_, rfl⟩
        rw [hx] at hno hle hlt64 hnx
        simp only [hx] at hcall
        obtain ⟨t, ht⟩ : ∃ t, h.drop n = t := ⟨_, rfl⟩
        rw [ht] at hcut hcall
        simp only at hno hle hlt64 hnx
        have n0 := hR.nums.cell 0
        have n1 := hR.nums.cell 1
        have n2 := hR.nums.cell 2
        have f0 := hR.nums.free 2
        have e0 := hR.ent.cell 0
        have e1 := hR.ent.cell 1
        have e2 := hR.ent.cell 2
        have e3 := hR.ent.cell 3
        have e4 := hR.ent.cell 4
        have e5 := hR.ent.cell 5
        have e6 := hR.ent.cell 6
        have g0 := hR.ent.free 0
        have g1 := hR.ent.free 1
        have g2 := hR.ent.free 2
        have g3 := hR.ent.free 3
        have g4 := hR.ent.free 4
        have g5 := hR.ent.free 5
        have g6 := hR.ent.free 6
        simp at n0 n1 n2 e0 e1 e2 e3 e4 e5 e6
        have hcall' := Lib.hid (hcall wr)
        clear hcall
        rcases Int.lt_trichotomy used 0 with hu | hu | hu
        · have hans := hno (by omega)
          rw [if_neg (by omega)] at hans
          have huI : used ≤ 0 := by omega
          have huN : ¬ used = 0 := by omega
          have hans' := Lib.hid hans
          have hR' := Lib.hid hR
          have hx' := Lib.hid hx
          have ht' := Lib.hid ht
          have hnx' := Lib.hid hnx
          have hno' := Lib.hid hno
          clear hno hnx ht hx hR hans
          go_wp2_with fail
          refine hcall'.out.mono ?_
          rintro e w2 ⟨rfl, rfl⟩
          go_wp2_with fail
          refine bodyPost_ret (v := .tuple #[.agg #[.string { data := #[] }, .string { data := #[] }, .int .u8 0, .int .u8 0, .int .u64 0, .int .u32 0, .int .u32 0], .bool false, .bool false]) (by simp [results, Tryz.results18, go_sem, e0, e1, e2, e3, e4, e5, e6, huN]) rfl ?_
          rw [hans'.out]
          exact ⟨bl7 hR'.out.bl _ _ _ _ _ _ _, ⟨#[]⟩, ⟨#[]⟩, 0, 0, 0, 0, 0, rfl⟩
        · subst hu
          have hans := hno (by omega)
          rw [if_pos rfl] at hans
          have hans' := Lib.hid hans
          have hR' := Lib.hid hR
          have hx' := Lib.hid hx
          have ht' := Lib.hid ht
          have hnx' := Lib.hid hnx
          have hno' := Lib.hid hno
          clear hno hnx ht hx hR hans
          go_wp2_with fail
          refine hcall'.out.mono ?_
          rintro e w2 ⟨rfl, rfl⟩
          go_wp2_with fail
          refine bodyPost_ret (v := .tuple #[.agg #[.string { data := #[] }, .string { data := #[] }, .int .u8 0, .int .u8 0, .int .u64 0, .int .u32 0, .int .u32 0], .bool false, .bool true]) (by simp [results, Tryz.results18, go_sem, e0, e1, e2, e3, e4, e5, e6, go_sem]) rfl ?_
          rw [hans'.out]
          exact ⟨bl7 hR'.out.bl _ _ _ _ _ _ _, ⟨#[]⟩, ⟨#[]⟩, 0, 0, 0, 0, 0, rfl⟩
        · obtain ⟨u, rfl⟩ := Int.eq_ofNat_of_zero_le (Int.le_of_lt hu)
          have huI : ¬ (u : Int) ≤ 0 := by omega
          have hnx1 := hnx hu
          rw [Int.toNat_natCast] at hnx1
          have hsum : IntKind.i64.wrap ((n : Int) + (u : Int)) = (n : Int) + (u : Int) := IntWalk.i64_in _ (by omega)
          have hnum := hR.nums.set 2 (.int .u64 (x : Int))
          simp at hnum
          have hR' := Lib.hid hR
          have hx' := Lib.hid hx
          have ht' := Lib.hid ht
          have hnx' := Lib.hid hnx
          have hno' := Lib.hid hno
          have hnx1' := Lib.hid hnx1
          have hnum' := Lib.hid hnum
          clear hnum hnx1 hno hnx ht hx hR
          go_wp2_with fail
          refine hcall'.out.mono ?_
          rintro e w2 ⟨rfl, rfl⟩
          go_wp2_with fail
          go_roundw
          case rel => exact ⟨3, n + u, a, b, x, rfl, by go_num, hR'.out.next (by omega) hnx1'.out hnum'.out⟩
          case measure => simp [intOf]
      -->
      · have h3 := num_three hR.st
        have hall := numSt_all (o := at_) h2 h3
        obtain ⟨hn, ha64, hb64, hc64⟩ := num3_le h2 h3
        have n0 := hR.nums.cell 0
        have n1 := hR.nums.cell 1
        have n2 := hR.nums.cell 2
        have e0 := hR.ent.cell 0
        have e1 := hR.ent.cell 1
        have e2 := hR.ent.cell 2
        have e3 := hR.ent.cell 3
        have e4 := hR.ent.cell 4
        have e5 := hR.ent.cell 5
        have e6 := hR.ent.cell 6
        have g0 := hR.ent.free 0
        have g1 := hR.ent.free 1
        have g2 := hR.ent.free 2
        have g3 := hR.ent.free 3
        have g4 := hR.ent.free 4
        have g5 := hR.ent.free 5
        have g6 := hR.ent.free 6
        simp at n0 n1 n2 e0 e1 e2 e3 e4 e5 e6
        clear hi
        by_cases hbig : 4294967295 < a ∨ 1048576 < b
        · rw [if_pos hbig] at hall
          have hans := hall
          by_cases hA : 4294967295 < a
          · have hAd : decide (4294967295 < (a : Int)) = true := decide_eq_true (by omega)
            have hAI : 4294967295 < (a : Int) := by omega
            have hans' := Lib.hid hans
            have hall' := Lib.hid hall
            have hR' := Lib.hid hR
            have h3' := Lib.hid h3
            have hbig' := Lib.hid hbig
            clear hbig h3 hR hall hans
            go_wp2_with fail
            refine bodyPost_ret (v := .tuple #[.agg #[.string { data := #[] }, .string { data := #[] }, .int .u8 0, .int .u8 0, .int .u64 0, .int .u32 0, .int .u32 0], .bool false, .bool false]) (by simp [results, Tryz.results18, go_sem, e0, e1, e2, e3, e4, e5, e6]) rfl ?_
            rw [hans'.out]
            exact ⟨bl7 hR'.out.bl _ _ _ _ _ _ _, ⟨#[]⟩, ⟨#[]⟩, 0, 0, 0, 0, 0, rfl⟩
          · have hAd : decide (4294967295 < (a : Int)) = false := decide_eq_false (by omega)
            have hAI : ¬ 4294967295 < (a : Int) := by omega
            have hBI : 1048576 < (b : Int) := by omega
            have hans' := Lib.hid hans
            have hall' := Lib.hid hall
            have hR' := Lib.hid hR
            have h3' := Lib.hid h3
            have hbig' := Lib.hid hbig
            clear hbig h3 hR hall hans
            go_wp2_with fail
            refine bodyPost_ret (v := .tuple #[.agg #[.string { data := #[] }, .string { data := #[] }, .int .u8 0, .int .u8 0, .int .u64 0, .int .u32 0, .int .u32 0], .bool false, .bool false]) (by simp [results, Tryz.results18, go_sem, e0, e1, e2, e3, e4, e5, e6]) rfl ?_
            rw [hans'.out]
            exact ⟨bl7 hR'.out.bl _ _ _ _ _ _ _, ⟨#[]⟩, ⟨#[]⟩, 0, 0, 0, 0, 0, rfl⟩
        · rw [if_neg hbig] at hall
          have hAI : ¬ 4294967295 < (a : Int) := by omega
          have hBI : ¬ 1048576 < (b : Int) := by omega
          have hAd : decide (4294967295 < (a : Int)) = false := decide_eq_false (by omega)
          have wa : IntKind.i64.wrap (a : Int) = (a : Int) := IntWalk.i64_in _ (by omega)
          have wb : IntKind.i64.wrap (b : Int) = (b : Int) := IntWalk.i64_in _ (by omega)
          have ws1 : IntKind.i64.wrap ((n : Int) + (a : Int)) = (n : Int) + (a : Int) := IntWalk.i64_in _ (by omega)
          have ws2 : IntKind.i64.wrap ((n : Int) + (a : Int) + (b : Int)) = (n : Int) + (a : Int) + (b : Int) := IntWalk.i64_in _ (by omega)
          have ws3 : IntKind.i64.wrap ((n : Int) + (a : Int) + (b : Int) + 4) = (n : Int) + (a : Int) + (b : Int) + 4 := IntWalk.i64_in _ (by omega)
          have hlt0 := hR.ent.lt
          have hall' := Lib.hid hall
          have hR' := Lib.hid hR
          have h3' := Lib.hid h3
          have hbig' := Lib.hid hbig
          clear hbig h3 hR hall
          go_wp2_with fail
          go_quiet (fail)
          go_upto_region 17 with fail
          obtain ⟨BAD, hBAD⟩ : ∃ BAD, decide (65536 < a ∨ h.length < n + a + b + 4 ∨ Lib.beNat ((h.drop (n + a + b)).take 4) ≠ crc32 (h.take (n + a + b))) = BAD := ⟨_, rfl⟩
          have hBAD' := Lib.hid hBAD
          clear hBAD
          go_cut [90] (fun s90 wx => s90 = .bool BAD ∧ Below wr.heap.size wr wx)
          case first =>
            --<
            by_cases h1 : 65536 < a
            · have h1I : 65536 < (a : Int) := by omega
              have hd1 : decide (65536 < (a : Int)) = true := decide_eq_true h1I
              have hB : BAD = true := hBAD'.out.symm.trans (decide_eq_true (.inl h1))
              have h1' := Lib.hid h1
              have hB' := Lib.hid hB
              clear hB h1
              go_quiet (fail)
              go_wp2_with fail
              go_meet
              exact ⟨by rw [hB'.out], by repeat (first | exact Below.refl _ _ | refine below_drewN ?_ _ | refine below_drew_ ?_)⟩
            · have h1I : ¬ 65536 < (a : Int) := by omega
              have hd1 : decide (65536 < (a : Int)) = false := decide_eq_false h1I
              by_cases h4 : h.length < n + a + b + 4
              · have h4I : (h.length : Int) < (n : Int) + (a : Int) + (b : Int) + 4 := by omega
                have hd4 : decide ((h.length : Int) < (n : Int) + (a : Int) + (b : Int) + 4) = true := decide_eq_true h4I
                have hB : BAD = true := hBAD'.out.symm.trans (decide_eq_true (.inr (.inl h4)))
                have h1' := Lib.hid h1
                have h4' := Lib.hid h4
                have hB' := Lib.hid hB
                clear hB h4 h1
                go_quiet (fail)
                go_wp2_with fail
                go_meet
                exact ⟨by rw [hB'.out], by repeat (first | exact Below.refl _ _ | refine below_drewN ?_ _ | refine below_drew_ ?_)⟩
              · have h4I : ¬ (h.length : Int) < (n : Int) + (a : Int) + (b : Int) + 4 := by omega
                have hd4 : decide ((h.length : Int) < (n : Int) + (a : Int) + (b : Int) + 4) = false := decide_eq_false h4I
                have hB : BAD = decide (Lib.beNat ((h.drop (n + a + b)).take 4) ≠ crc32 (h.take (n + a + b))) := hBAD'.out.symm.trans (decide_eq_decide.2 ⟨fun h => by rcases h with h | h | h <;> first | (exfalso; omega) | exact h, fun h => .inr (.inr h)⟩)
                obtain ⟨b0, b1, b2, b3, r4, hr4⟩ : ∃ b0 b1 b2 b3 r, h.drop (n + a + b) = b0 :: b1 :: b2 :: b3 :: r := by
                  have hl4 : 4 ≤ (h.drop (n + a + b)).length := by rw [List.length_drop]; omega
                  match h.drop (n + a + b), hl4 with
                  | b0 :: b1 :: b2 :: b3 :: r, _ => exact ⟨b0, b1, b2, b3, r, rfl⟩
                have hcf : ∀ W : World, (Instr.slice 9 (.string ⟨h.toArray⟩) (some (.int .i64 ((n : Int) + (a : Int) + (b : Int)))) none none).run Tryz.prog W = .ok (.string ⟨(b0 :: b1 :: b2 :: b3 :: r4).toArray⟩) W := fun W => by
                  have := run_sliceFrom_mk 9 Tryz.underlying9 h .i64 (n + a + b) (by omega) W
                  rw [hr4, show ((n + a + b : Nat) : Int) = (n : Int) + (a : Int) + (b : Int) by omega] at this
                  exact this
                obtain ⟨P, hP⟩ : ∃ P, h.take (n + a + b) = P := ⟨_, rfl⟩
                have hct : ∀ W : World, (Instr.slice 9 (.string ⟨h.toArray⟩) none (some (.int .i64 ((n : Int) + (a : Int) + (b : Int)))) none).run Tryz.prog W = .ok (.string ⟨P.toArray⟩) W := fun W => by
                  have := run_sliceTo_mk 9 Tryz.underlying9 h .i64 (n + a + b) (by omega) W
                  rw [hP, show ((n + a + b : Nat) : Int) = (n : Int) + (a : Int) + (b : Int) by omega] at this
                  exact this
                have hPl : P.length ≤ 4294967296 := by rw [← hP, List.length_take]; omega
                have hbe : (h.drop (n + a + b)).take 4 = [b0, b1, b2, b3] := by rw [hr4]; rfl
                rw [hbe, hP] at hB
                have hbig4 := fun W => Lib.hid (bigOf_any b0 b1 b2 b3 r4 W)
                have hcrc4 := fun W => Lib.hid (specCrc_any P W hPl)
                obtain ⟨X, hX⟩ : ∃ X, Lib.beNat [b0, b1, b2, b3] = X := ⟨_, rfl⟩
                obtain ⟨Y, hY⟩ : ∃ Y, crc32 P = Y := ⟨_, rfl⟩
                rw [hX, hY] at hB
                rw [hX] at hbig4
                rw [hY] at hcrc4
                by_cases hXY : X = Y
                · subst hXY
                  have hB2 : BAD = false := by rw [hB]; simp
                  clear hr4 hP hPl hbe hX hY hB
                  have h1' := Lib.hid h1
                  have h4' := Lib.hid h4
                  have hB2' := Lib.hid hB2
                  clear hB2 h4 h1
                  go_region_held3 (fun _ => True) (first | trivial | (simp [go_sem]; done)) (first | (go_at_call 33; refine (hbig4 _).out.mono ?_; rintro e w2 ⟨rfl, nq2, rfl⟩) | (go_at_call 34; refine (hcrc4 _).out.mono ?_; rintro e w3 ⟨rfl, hb3⟩))
                  all_goals
                    go_wp2_with fail
                    go_meet
                    exact ⟨by rw [hB2'.out], by repeat (first | exact Below.refl _ _ | refine below_drewN ?_ _ | refine below_drew_ ?_ | refine below_call_ (by assumption) ?_)⟩
                · have hXI : ¬ (X : Int) = (Y : Int) := by omega
                  have hbne : ((X : Int) != (Y : Int)) = true := by simp; omega
                  have hB2 : BAD = true := by rw [hB]; simp [hXY]
                  clear hr4 hP hPl hbe hX hY hB
                  have h1' := Lib.hid h1
                  have h4' := Lib.hid h4
                  have hB2' := Lib.hid hB2
                  have hXY' := Lib.hid hXY
                  clear hXY hB2 h4 h1
                  go_region_held3 (fun _ => True) (first | trivial | (simp [go_sem]; done)) (first | (go_at_call 33; refine (hbig4 _).out.mono ?_; rintro e w2 ⟨rfl, nq2, rfl⟩) | (go_at_call 34; refine (hcrc4 _).out.mono ?_; rintro e w3 ⟨rfl, hb3⟩))
                  all_goals
                    go_wp2_with fail
                    go_meet
                    exact ⟨by rw [hB2'.out], by repeat (first | exact Below.refl _ _ | refine below_drewN ?_ _ | refine below_drew_ ?_ | refine below_call_ (by assumption) ?_)⟩
            -->
          case rest =>
          obtain ⟨rfl, hbw⟩ := hcut
          have hRx : EARel h w 3 n a b c wc := ⟨hR'.out.hi, hR'.out.st, hR'.out.nums.below hbw hR'.out.nums.lt, hR'.out.ent.below hbw hR'.out.ent.lt, below_step hR'.out.bl hR'.out.bl.size hbw⟩
          have n2 := hRx.nums.cell 2
          have e0 := hRx.ent.cell 0
          have e1 := hRx.ent.cell 1
          have e2 := hRx.ent.cell 2
          have e3 := hRx.ent.cell 3
          have e4 := hRx.ent.cell 4
          have e5 := hRx.ent.cell 5
          have e6 := hRx.ent.cell 6
          have g0 := hRx.ent.free 0
          have g1 := hRx.ent.free 1
          have g2 := hRx.ent.free 2
          have g3 := hRx.ent.free 3
          have g4 := hRx.ent.free 4
          have g5 := hRx.ent.free 5
          have g6 := hRx.ent.free 6
          simp at n2 e0 e1 e2 e3 e4 e5 e6
          by_cases hstop : 65536 < a ∨ h.length < n + a + b + 4 ∨ Lib.beNat ((h.drop (n + a + b)).take 4) ≠ crc32 (h.take (n + a + b))
          · have hall := hall'.out
            --<
            rw [if_pos hstop] at hall
            obtain rfl : BAD = true := hBAD'.out.symm.trans (decide_eq_true hstop)
            have hans := hall
            have hans' := Lib.hid hans
            have hall' := Lib.hid hall
            have hRx' := Lib.hid hRx
            have hbw' := Lib.hid hbw
            have hstop' := Lib.hid hstop
            clear hstop hbw hRx hall hans
            go_wp2_with fail
            refine bodyPost_ret (v := .tuple #[.agg #[.string { data := #[] }, .string { data := #[] }, .int .u8 0, .int .u8 0, .int .u64 0, .int .u32 0, .int .u32 0], .bool false, .bool true]) (by simp [results, Tryz.results18, go_sem, e0, e1, e2, e3, e4, e5, e6]) rfl ?_
            rw [hans'.out]
            exact ⟨bl7 hRx'.out.bl _ _ _ _ _ _ _, ⟨#[]⟩, ⟨#[]⟩, 0, 0, 0, 0, 0, rfl⟩
            -->
          · have hall := hall'.out
            rw [if_neg hstop] at hall
            obtain rfl : BAD = false := hBAD'.out.symm.trans (decide_eq_false hstop)
            have hfit : n + a + b + 4 ≤ h.length := by omega
            obtain ⟨K, hK⟩ : ∃ K, (h.drop n).take a = K := ⟨_, rfl⟩
            obtain ⟨V, hV⟩ : ∃ V, (h.drop (n + a)).take b = V := ⟨_, rfl⟩
            rw [hK, hV] at hall
            have hck : ∀ W : World, (Instr.slice 9 (.string ⟨h.toArray⟩) (some (.int .i64 (n : Int))) (some (.int .i64 ((n : Int) + (a : Int)))) none).run Tryz.prog W = .ok (.string ⟨K.toArray⟩) W := fun W => by
              have := run_sliceIn_mk 9 Tryz.underlying9 h .i64 .i64 n (n + a) (by omega) (by omega) W
              rw [List.drop_take, show n + a - n = a by omega, hK, show ((n + a : Nat) : Int) = (n : Int) + (a : Int) by omega] at this
              exact this
            have hcv : ∀ W : World, (Instr.slice 9 (.string ⟨h.toArray⟩) (some (.int .i64 ((n : Int) + (a : Int)))) (some (.int .i64 ((n : Int) + (a : Int) + (b : Int)))) none).run Tryz.prog W = .ok (.string ⟨V.toArray⟩) W := fun W => by
              have := run_sliceIn_mk 9 Tryz.underlying9 h .i64 .i64 (n + a) (n + a + b) (by omega) (by omega) W
              rw [List.drop_take, show n + a + b - (n + a) = b by omega, hV, show ((n + a : Nat) : Int) = (n : Int) + (a : Int) by omega, show ((n + a + b : Nat) : Int) = (n : Int) + (a : Int) + (b : Int) by omega] at this
              exact this
            obtain ⟨x0, x1, r2, hr2⟩ : ∃ x0 x1 r, h = x0 :: x1 :: r := by
              match h, h2 with
              | x0 :: x1 :: r, _ => exact ⟨x0, x1, r, rfl⟩
            have hx0 : (h.getD 0 0).toNat = x0.toNat := by rw [hr2]; rfl
            have hx1 : (h.getD 1 0).toNat = x1.toNat := by rw [hr2]; rfl
            rw [hx0, hx1] at hall
            have i0 : ∀ W : World, (Instr.index 9 (.string ⟨h.toArray⟩) (.int .i64 0)).run Tryz.prog W = .ok (.int .u8 (x0.toNat : Int)) W := run_index_mk _ Tryz.underlying9 h .i64 0 x0 (by rw [hr2]; rfl)
            have i1 : ∀ W : World, (Instr.index 9 (.string ⟨h.toArray⟩) (.int .i64 1)).run Tryz.prog W = .ok (.int .u8 (x1.toNat : Int)) W := run_index_mk _ Tryz.underlying9 h .i64 1 x1 (by rw [hr2]; rfl)
            have wat : IntKind.u32.wrap (at_ : Int) = (at_ : Int) := IntWalk.u32_in _ (by omega)
            have wln : IntKind.u32.wrap ((n : Int) + (a : Int) + (b : Int) + 4) = (n : Int) + (a : Int) + (b : Int) + 4 := IntWalk.u32_in _ (by omega)
            have hall' := Lib.hid hall
            have hRx' := Lib.hid hRx
            have hbw' := Lib.hid hbw
            have hstop' := Lib.hid hstop
            have hK' := Lib.hid hK
            have hV' := Lib.hid hV
            have hr2' := Lib.hid hr2
            have hx0' := Lib.hid hx0
            have hx1' := Lib.hid hx1
            clear hx1 hx0 hr2 hV hK hstop hbw hRx hall
            go_upto_region 19 with fail
            go_cut [123] (fun s123 wx => Bk wx w.heap.size 30 #[.string ⟨K.toArray⟩, .string ⟨V.toArray⟩, .int .u8 (x0.toNat : Int), .int .u8 (x1.toNat : Int), .int .u64 (c : Int), .int .u32 (at_ : Int), .int .u32 ((n : Int) + (a : Int) + (b : Int) + 4)] ∧ Below w.heap.size w wx)
            case first =>
              refine wp_tail 31 (by kernel_rfl) (by kernel_rfl) ?_
              simp only [List.take_succ_cons, List.take_zero, List.drop_succ_cons, List.drop_zero]
              repeat still_step
              refine wpStill_nil ?_
              go_wp2_with fail
              go_meet
              have hset := ((((((hRx'.out.ent.set 0 (.string ⟨K.toArray⟩)).set 1 (.string ⟨V.toArray⟩)).set 2 (.int .u8 (x0.toNat : Int))).set 3 (.int .u8 (x1.toNat : Int))).set 4 (.int .u64 (c : Int))).set 5 (.int .u32 (at_ : Int))).set 6 (.int .u32 ((n : Int) + (a : Int) + (b : Int) + 4))
              exact ⟨hset.drew, below_drew_ (bl7 hRx'.out.bl _ _ _ _ _ _ _)⟩
            case rest =>
            obtain ⟨hE, hbl⟩ := hcut
            clear e0 e1 e2 e3 e4 e5 e6 g0 g1 g2 g3 g4 g5 g6 n2 hck hcv i0 i1
            have e0 := hE.cell 0
            have e1 := hE.cell 1
            have e2 := hE.cell 2
            have e3 := hE.cell 3
            have e4 := hE.cell 4
            have e5 := hE.cell 5
            have e6 := hE.cell 6
            have g0 := hE.free 0
            have g1 := hE.free 1
            have g2 := hE.free 2
            have g3 := hE.free 3
            have g4 := hE.free 4
            have g5 := hE.free 5
            have g6 := hE.free 6
            simp at e0 e1 e2 e3 e4 e5 e6
            have hE' := Lib.hid hE
            have hbl' := Lib.hid hbl
            clear hbl hE
            by_cases ha0 : a = 0
            · have haI : ¬ (0 : Int) < (a : Int) := by omega
              have hans := hall'.out
              rw [if_pos ha0] at hans
              have hans' := Lib.hid hans
              have ha0' := Lib.hid ha0
              clear ha0 hans
              go_wp2_with fail
              refine bodyPost_ret (v := .tuple #[.agg (entCells ⟨K.toArray⟩ ⟨V.toArray⟩ x0.toNat x1.toNat c at_ (n + a + b + 4)), .bool false, .bool true]) (by unfold entCells; simp [results, Tryz.results18, go_sem, e0, e1, e2, e3, e4, e5, e6, ha0'.out]) rfl ?_
              rw [hans'.out]
              exact ⟨bl7 hbl'.out _ _ _ _ _ _ _, _, _, _, _, _, _, _, rfl⟩
            · have haI : (0 : Int) < (a : Int) := by omega
              have hans := hall'.out
              rw [if_neg ha0] at hans
              have hans' := Lib.hid hans
              have ha0' := Lib.hid ha0
              clear ha0 hans
              go_wp2_with fail
              refine bodyPost_ret (v := .tuple #[.agg (entCells ⟨K.toArray⟩ ⟨V.toArray⟩ x0.toNat x1.toNat c at_ (n + a + b + 4)), .bool true, .bool true]) (by unfold entCells; simp [results, Tryz.results18, go_sem, e0, e1, e2, e3, e4, e5, e6, Nat.pos_of_ne_zero ha0'.out]) rfl ?_
              rw [hans'.out]
              exact ⟨bl7 hbl'.out _ _ _ _ _ _ _, rfl⟩
  · have hlt : (h.length : Int) < 2 := by omega
    have hans : entryAt h at_ = .stop := by unfold entryAt; rw [if_pos (by omega)]
    have hans' := Lib.hid hans
    clear hans
    go_enter Tryz.func18, Tryz.ntmps18
    go_wp2_with fail
    refine bodyPost_ret (v := .tuple #[.agg #[.string { data := #[] }, .string { data := #[] }, .int .u8 0, .int .u8 0, .int .u64 0, .int .u32 0, .int .u32 0], .bool false, .bool true]) (by simp [results, Tryz.results18, go_sem]) rfl ?_
    rw [hans'.out]
    refine ⟨?_, ⟨#[]⟩, ⟨#[]⟩, 0, 0, 0, 0, 0, rfl⟩
    exact (Below.refl _ _).alloc (Nat.le_refl _) _
end Go.Proofs.YtpndlcjilgcfkaaGreatDoor
