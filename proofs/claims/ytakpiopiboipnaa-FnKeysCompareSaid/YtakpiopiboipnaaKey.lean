/-
  Contracts of the functions on keys with versions.
-/
import Derived.Test.YtakpiopiboipnaaRows
import Derived.Test.YtakpiopiboipnaaShelf
import Derived.Test.YtakpiopiboipnaaMem
import Derived.Test.YtakpiopiboipnaaKeyMath
import Derived.Deep.RegionWith
namespace Go.Proofs.Ytakpiopiboipnaa
open Go Go.RowKit
open Go.Proofs

theorem u8row : (Try.prog.info? 5).map (fun i => (i.zero, i.size, i.bytes)) = some (some (.int .u8 0), 1, 1) := by kernel_rfl

theorem made_bytes (n : Nat) : madeCells #[Value.int .u8 0] n = (List.replicate n (Value.int .u8 0)).toArray := by
  apply Array.ext'
  rw [toList_madeCells_one]

/-- binary.BigEndian.PutUint64 into a block that is known whole. -/
theorem putBE8_any (g o n c v : Nat) (t : TypeId) (L : List Value) (hv : v < 18446744073709551616) (w : World) (hb : Bk w g t L.toArray) (hn : 8 ≤ n) (ho : o + 8 ≤ L.length) :
    Calls Try.prog 39 #[.agg #[], .slice (some ⟨g, o, none⟩) n c, .int .u64 (v : Int)] w fun e w' => e = .returned (.tuple #[]) ∧
      Bk w' g t (splice L o (Lib.byteCells (Lib.beBytes 8 v))).toArray ∧ w.grownBy w' (some g) := by
  have hc : ∀ j, j < 8 → w.cell? ⟨g, o + j, none⟩ = some (L.getD (o + j) undef) := by
    intro j hj
    rw [hb.cell]
    have : o + j < L.length := by omega
    simp [List.getD, this]
  have hlt : g < w.heap.size := hb.lt
  refine (Try.binary_BE_PutUint64 g o n c v hv _ _ _ _ _ _ _ _ w hn (hc 0 (by omega)) (hc 1 (by omega)) (hc 2 (by omega)) (hc 3 (by omega)) (hc 4 (by omega)) (hc 5 (by omega)) (hc 6 (by omega)) (hc 7 (by omega))
    (hb.free _) (hb.free _) (hb.free _) (hb.free _) (hb.free _) (hb.free _) (hb.free _) (hb.free _)).mono ?_
  rintro e w' ⟨rfl, rfl⟩
  exact ⟨rfl, bk_setCells _ _ L o (hb.alloc _) (by simpa [Lib.byteCells, Lib.beBytes_length] using ho), grown_setCells g _ _ o (grown_alloc (World.grownBy.refl w _) _) (.inl rfl)⟩

/-- binary.BigEndian.Uint64 at bytes that are known. -/
theorem u64BE_any (g o n c : Nat) (l : List UInt8) (w : World) (h : Bs w g o l) (hl : 8 ≤ l.length) (hn : 8 ≤ n) :
    Calls Try.prog 40 #[.agg #[], .slice (some ⟨g, o, none⟩) n c] w fun e w' => e = .returned (.int .u64 (Lib.beNat (l.take 8) : Nat)) ∧ Below w.heap.size w w' := by
  match l, hl, h with
  | b0 :: b1 :: b2 :: b3 :: b4 :: b5 :: b6 :: b7 :: r, _, h =>
    exact Try.binary_BE_Uint64 g o n c b0 b1 b2 b3 b4 b5 b6 b7 w hn (h 0 (by simp)) (h 1 (by simp)) (h 2 (by simp)) (h 3 (by simp)) (h 4 (by simp)) (h 5 (by simp)) (h 6 (by simp)) (h 7 (by simp))

theorem u64BE_x (g o n c : Nat) (l : List UInt8) (x : Nat) (w : World) (h : Bs w g o l) (hl : l.length = 8) (hx : Lib.beNat l = x) (hn : 8 ≤ n) :
    Calls Try.prog 40 #[.agg #[], .slice (some ⟨g, o, none⟩) n c] w fun e w' => e = .returned (.int .u64 (x : Int)) ∧ Below w.heap.size w w' := by
  have h1 := u64BE_any g o n c l w h (by omega) hn
  rw [List.take_of_length_le (by omega), hx] at h1
  exact h1

set_option maxHeartbeats 1000000 in
/-- y.KeyWithTs: a new slice, the key and behind it its version. -/
theorem keyWithTs_any (A : Option Addr) (n c : Nat) (l : List UInt8) (ts : Nat) (w : World) (hs : Src w A n l) (hn : n ≤ 4294967296) (hts : ts < 18446744073709551616) :
    Calls Try.prog 27 #[.slice A n c, .int .u64 (ts : Int)] w fun e w' => e = .returned (.slice (some ⟨w.heap.size, 0, none⟩) (n + 8) (n + 8)) ∧
      Bk w' w.heap.size 5 (Lib.byteCells (keyTs l ts)).toArray ∧ Below w.heap.size w w' := by
  obtain ⟨i0, hi, hz0, hz1, hz2⟩ := info_parts u8row
  obtain ⟨rfl, hsrc⟩ := hs
  have hmk : ∀ W : World, (Instr.makeSlice 46 (.int .i64 ((l.length : Int) + 8)) (.int .i64 ((l.length : Int) + 8))).run Try.prog W = .ok (.slice (some ⟨W.heap.size, 0, none⟩) (l.length + 8) (l.length + 8)) (W.alloc (.cells (List.replicate (l.length + 8) (Value.int .u8 0)).toArray 5)) := by
    intro W
    have h := run_make_rowN (P := Try.prog) 46 5 i0 (.int .u8 0) Try.underlying46 hi hz0 .i64 .i64 (l.length + 8) (l.length + 8) (by omega) (by rw [hz2]; omega) (by omega) W
    rw [hz1, Nat.mul_one] at h
    rw [← made_bytes]
    exact h
  have hb0 : Bk (w.alloc (.cells (Array.replicate (l.length + 8) (Value.int .u8 0)) 5)) w.heap.size 5 (List.replicate (l.length + 8) (Value.int .u8 0)).toArray := by
    rw [List.toArray_replicate]
    exact Bk.new _ _ _
  go_enter Try.func27, Try.ntmps27
  go_wp2_with (refine wpList_copyB rfl _ _ 46 46 rfl 5 Try.underlying46 (by kernel_rfl) w.heap.size 0 (l.length + 8) _ rfl A l.length c rfl l ⟨rfl, ?hsrc⟩ _ 5 hb0 ?hfit ?_)
  case hsrc =>
    intro h
    obtain ⟨b, o, e, hbs⟩ := hsrc h
    exact ⟨b, o, e, hbs.alloc _⟩
  case hfit => simp
  intro w1 hb1 hg1
  rw [List.take_of_length_le (by omega)] at hb1
  have hb1' := Lib.hid hb1
  clear hb1 hb0
  go_wp2_with fail
  obtain ⟨m, hm⟩ : ∃ m : Nat, m = 18446744073709551615 - ts := ⟨_, rfl⟩
  have hw1 : IntKind.u64.wrap (18446744073709551615 - (ts : Int)) = (m : Int) := by rw [IntKind.wrap_u64]; omega
  have hm64 : m < 18446744073709551616 := by omega
  have hm' := Lib.hid hm
  clear hm
  have hlen : (splice (List.replicate (l.length + 8) (Value.int .u8 0)) 0 (Lib.byteCells l)).length = l.length + 8 := by
    rw [length_splice] <;> simp [Lib.byteCells]
  have hlen' := Lib.hid hlen
  clear hlen
  have hle : (l.length : Int) ≤ (l.length : Int) + 8 := by omega
  go_region_with (go_at_call 39; refine (putBE8_any w.heap.size l.length _ _ m _ _ hm64 _ hb1'.out.drew (by omega) (Nat.le_of_eq hlen'.out.symm)).mono ?_; rintro e w2 ⟨rfl, hb2, hg2⟩)
  go_wp2_with fail
  go_ret
  have hbl1 := below_own ((Below.refl w.heap.size w).alloc (Nat.le_refl _) _) (by simp) hg1 (Nat.le_refl _)
  refine ⟨rfl, ?_, below_own hbl1.drew hbl1.size hg2 (Nat.le_refl _)⟩
  have e : splice (splice (List.replicate (l.length + 8) (Value.int .u8 0)) 0 (Lib.byteCells l)) l.length (Lib.byteCells (Lib.beBytes 8 m)) = Lib.byteCells (keyTs l ts) := by
    rw [keyTs, byteCells_append, ← hm'.out]
    have h8 : (Lib.byteCells (Lib.beBytes 8 m)).length = 8 := by simp [Lib.byteCells, Lib.beBytes_length]
    have hl : (Lib.byteCells l).length = l.length := by simp [Lib.byteCells]
    unfold splice
    rw [h8, hl]
    simp only [List.take_zero, List.nil_append, Nat.zero_add]
    rw [List.take_append_of_le_length (by omega), List.take_of_length_le (by omega), List.drop_append, List.drop_of_length_le (by omega)]
    simp [hl]
  rw [← e]
  exact hb2

theorem bs_of_bk {w : World} {g : Nat} {t : TypeId} {l : List UInt8} (h : Bk w g t (Lib.byteCells l).toArray) : Bs w g 0 l := by
  intro j hj
  rw [h.cell, Nat.zero_add]
  simp [Lib.byteCells, hj]

set_option maxHeartbeats 1000000 in
/-- impl.KeyTs, on strings. -/
theorem implKeyTs_any (s : ByteArray) (ts : Nat) (w : World) (hn : s.size ≤ 4294967296) (hts : ts < 18446744073709551616) :
    Calls Try.prog 11 #[.string s, .int .u64 (ts : Int)] w fun e w' => e = .returned (.string ⟨(keyTs s.data.toList ts).toArray⟩) ∧ Below w.heap.size w w' := by
  have hsz : s.data.toList.length = s.size := Array.length_toList
  have hsz' := Lib.hid hsz
  clear hsz
  go_enter Try.func11, Try.ntmps11
  go_wp2_with (refine wpList_s2b rfl 9 46 5 _ rfl Try.underlying9 Try.underlying46 Try.underlying5 s rfl ?_)
  intro w1 c hb1 hs1 hbs hsc
  have hs1' := Lib.hid hs1
  clear hs1
  go_wp2_with fail
  refine (keyWithTs_any _ _ c s.data.toList ts w1 ⟨hsz'.out, fun _ => ⟨_, _, rfl, hbs⟩⟩ hn hts).mono ?_
  rintro e w2 ⟨rfl, hbk, hb2⟩
  have hbs2 := bs_of_bk hbk
  clear hbk
  go_wp2_with (refine wpList_b2s rfl 46 9 5 _ rfl Try.underlying46 Try.underlying5 Try.underlying9 _ 0 _ _ rfl (keyTs s.data.toList ts) (by rw [keyTs_length, hsz'.out]) hbs2 ?_)
  go_ret
  exact ⟨rfl, below_step hb1 hb1.size hb2⟩

/-- y.ParseKey: the slice without its last eight bytes. -/
theorem parseKey_any (a : Addr) (m c : Nat) (w : World) (hc : m + 8 ≤ c) (h63 : m ≤ 4294967296) :
    Calls Try.prog 28 #[.slice (some a) (m + 8) c] w fun e w' => e = .returned (.slice (some a) m c) ∧ w = w' := by
  obtain ⟨b, o, sp⟩ := a
  go_enter Try.func28, Try.ntmps28
  go_wp2_with fail
  go_ret
  exact ⟨rfl, rfl⟩

set_option maxHeartbeats 1000000 in
/-- y.ParseTs: the version of a key; 0 of a short one. -/
theorem parseTs_any (g o n c : Nat) (l : List UInt8) (w : World) (h : Bs w g o l) (hl : l.length = n) (hc : n ≤ c) (h63 : n ≤ 4294967296) :
    Calls Try.prog 30 #[.slice (some ⟨g, o, none⟩) n c] w fun e w' => e = .returned (.int .u64 (tsOf l : Nat)) ∧ Below w.heap.size w w' := by
  by_cases h8 : n ≤ 8
  · have e : tsOf l = 0 := by unfold tsOf; rw [if_pos (by omega)]
    have e' := Lib.hid e
    clear e
    go_enter Try.func30, Try.ntmps30
    go_wp2_with fail
    go_ret
    exact ⟨by rw [e'.out]; rfl, Below.refl _ _⟩
  · obtain ⟨m, rfl⟩ : ∃ m, n = m + 8 := ⟨n - 8, by omega⟩
    have hm : 0 < m := by omega
    have hlt := beNat_lt (l.drop m)
    have hd8 : (l.drop m).length = 8 := by simp; omega
    rw [hd8] at hlt
    obtain ⟨x, hx⟩ : ∃ x, x = Lib.beNat (l.drop m) := ⟨_, rfl⟩
    have hx' := Lib.hid hx
    have e : tsOf l = 18446744073709551615 - x := by unfold tsOf; rw [if_neg (by omega), hl, hx]; rfl
    have e' := Lib.hid e
    have ht : (l.drop m).take 8 = l.drop m := List.take_of_length_le (by omega)
    have ht' := Lib.hid ht
    have hbd := h.drop m
    have hx64 : x ≤ 18446744073709551615 := by omega
    have hw1 : IntKind.u64.wrap (18446744073709551615 - (x : Int)) = ((18446744073709551615 - x : Nat) : Int) := by rw [IntKind.wrap_u64]; omega
    have hw1' := Lib.hid hw1
    have hd8' := Lib.hid hd8
    have hl' := Lib.hid hl
    clear hx e ht hw1 hd8 hl hlt
    have hle : (m : Int) ≤ (m : Int) + 8 := by omega
    have hcm : ¬ c = m := by omega
    have hwm : IntKind.i64.wrap (m : Int) = (m : Int) := IntWalk.i64_in _ (by omega)
    go_enter Try.func30, Try.ntmps30
    go_wp2_with fail
    go_region_with (go_at_call 40; refine (u64BE_x g (o + m) _ _ (l.drop m) x _ hbd.drew hd8'.out hx'.out.symm (by omega)).mono ?_; rintro e w2 ⟨rfl, hb2⟩)
    have hb2' := Lib.hid hb2
    clear hb2
    go_wp2_with fail
    go_ret
    refine ⟨?_, (Below.refl _ w).drew.trans hb2'.out⟩
    show Ending.returned (.int .u64 (IntKind.u64.wrap (18446744073709551615 - (x : Int)))) = _
    rw [hw1'.out, e'.out]
end Go.Proofs.Ytakpiopiboipnaa
