/-
  The specification's numbers and head: Uvarint, big, bigOf, Long, ManifestHead.
-/
import Derived.Test.YtkjgkjmaoebeoaaDoorSpecW
import Derived.Test.YtkjgkjmaoebeoaaDoorRows
import Derived.Test.YtkjgkjmaoebeoaaDoorMem
import Derived.Test.YtkjgkjmaoebeoaaDoorHdrMath
import Derived.Lib.VarintMem
import Derived.Deep.RegionWith
import Derived.Deep.QuietTactic
import Derived.WalkSpells
import Derived.Test.YtkjgkjmaoebeoaaDoorMfm
import Derived.Test.YtkjgkjmaoebeoaaDoorBits
import Derived.Test.YtkjgkjmaoebeoaaDoorCh
import Derived.Test.YtkjgkjmaoebeoaaDoorCrc
import Derived.Lib.EndianMore
import Derived.Lib.EndianBits
import Derived.BigQuiet
import Derived.IntWalk
import Derived.Deep.DeepCutAuto
import Derived.Deep.RegionHeld3
namespace Go.Proofs.YtkjgkjmaoebeoaaDoor
open Go Go.RowKit
open Go.Proofs
open Go.Lib (uvarint uvarintDec)

theorem u8hdr : (Tryd.prog.info? 5).map (fun i => (i.zero, i.size, i.bytes)) = some (some (.int .u8 0), 1, 1) := by kernel_rfl

theorem src_one {w : World} {b : Nat} {a : Nat} (ha : a < 256) (h : w.cell? ⟨b, 0, none⟩ = some (.int .u8 (a : Int))) : Src w (some ⟨b, 0, none⟩) 1 [a.toUInt8] := by
  refine ⟨rfl, fun _ => ⟨b, 0, rfl, ?_⟩⟩
  intro j hj
  obtain rfl : j = 0 := by simpa using hj
  rw [h]
  simp only [List.getElem_cons_zero, toU8 ha]

set_option maxHeartbeats 2000000 in
set_option maxRecDepth 20000 in
theorem specUvarint_any (x : Nat) (hx : x < 18446744073709551616) (w : World) :
    Calls Tryd.prog 14 #[.int .u64 (x : Int)] w fun e w' => e = .returned (.string ⟨(uvarint x).toArray⟩) ∧ Below w.heap.size w w' := by
  obtain ⟨i0, hi, hz0, hz1, hz2⟩ := info_parts u8hdr
  have hlen := Lib.uvarint_length64 hx
  go_enter Tryd.func14, Tryd.ntmps14
  go_wp2_with fail
  go_loopw [0, 3] (fun n v wr => ∃ (y : Nat) (pre : List UInt8), n = .int .u64 (y : Int) ∧ OwnB wr w.heap.size 5 v pre ∧ y ≤ x ∧ uvarint x = pre ++ uvarint y ∧ Below w.heap.size w wr)
    (fun n _ _ => (intOf n).toNat)
  case atStart => exact ⟨x, [], rfl, OwnB.nil _ _ _, Nat.le_refl _, rfl, Below.refl _ _⟩
  case round =>
    obtain ⟨y, pre, rfl, hown, hy, hsplit, hbl⟩ := hrel
    have hpl : pre.length + (uvarint y).length = (uvarint x).length := by rw [hsplit, List.length_append]
    have hpos := Lib.uvarint_pos y
    have hsplit' := Lib.hid hsplit
    clear hsplit
    by_cases h128 : 128 ≤ y
    · have hor : bits .or .u8 ((y : Int) % 256) 128 = ((y % 128 + 128 : Nat) : Int) := by
        rw [Lib.u8_or128_any _ (by omega) (by omega)]
        omega
      obtain ⟨q, hq⟩ : ∃ q, pre ++ [(y % 128 + 128).toUInt8] = q := ⟨_, rfl⟩
      have hq' := Lib.hid hq
      clear hq
      go_wp2_with (first | (at_builtin; refine wpList_appendB rfl (.tmp 6) (.tmp 10) 42 rfl 5 i0 Tryd.underlying42 hi hz0 hz1 hz2 w.heap.size _ pre rfl (hown.alloc _) _ _ _ rfl [(y % 128 + 128).toUInt8] (src_one (by omega) (by simp)) ?hlen ?hb q hq'.out ?_) | fail)
      case hlen => simp; omega
      case hb => have := hbl.size; simp; omega
      intro v' w1 hown1 hg1 _
      have hpl' := Lib.hid hpl
      clear hpl hor
      go_wp2_with fail
      go_roundw
      case rel =>
        refine ⟨y / 128, q, by go_num, hown1, by omega, by rw [hsplit'.out, Lib.uvarint_big h128, ← hq'.out]; simp, ?_⟩
        exact (hbl.alloc hbl.size _).grown hg1 (by have := hbl.size; simp; omega) (fun k hk => (hown.lt k hk).1)
      case measure => simp [intOf]; omega
    · have e : pre ++ [y.toUInt8] = uvarint x := by rw [hsplit'.out, Lib.uvarint_small (x := y) (by omega)]
      have e' := Lib.hid e
      clear e
      have hpl' := Lib.hid hpl
      clear hpl
      go_wp2_with (first | (at_builtin; refine wpList_appendB rfl (.tmp 14) (.tmp 17) 42 rfl 5 i0 Tryd.underlying42 hi hz0 hz1 hz2 w.heap.size _ pre rfl (hown.alloc _) _ _ _ rfl [y.toUInt8] (src_one (by omega) (by simp)) ?hlen ?hb (uvarint x) e'.out ?_) | fail)
      case hlen => have := hpl'.out; simp; omega
      case hb => have := hbl.size; simp; omega
      intro v' w1 hown1 hg1 _
      obtain ⟨g, cap, rfl, _, _, hbs⟩ := hown1.form (by have := hpl'.out; omega)
      have hbl1 := (hbl.alloc hbl.size _).grown hg1 (by have := hbl.size; simp; omega) (fun k hk => (hown.lt k hk).1)
      have hbl1' := Lib.hid hbl1
      clear hown1 hbl1 hown
      go_wp2_with (refine wpList_b2s rfl 42 9 5 (.tmp 18) rfl Tryd.underlying42 Tryd.underlying5 Tryd.underlying9 g 0 _ _ rfl (uvarint x) rfl hbs ?_)
      go_ret
      exact ⟨rfl, hbl1'.out⟩

theorem run_b2s {P : Program} (w : World) (src dst e : TypeId) (hs : P.underlying src = some (.slice e)) (he : P.underlying e = some (.int .u8)) (hd : P.underlying dst = some .string)
    (b off n c : Nat) (l : List UInt8) (hl : l.length = n) (hc : Bs w b off l) : (convert src dst (.slice (some ⟨b, off, none⟩) n c)).run P w = .ok (.string ⟨l.toArray⟩) w := by
  have hrun := run_convert_bytes_arg (P := P) w src e hs he b off n c (l.map fun u => (u.toNat : Int)) (by simpa using hl)
    (fun i hi => by subst hl; rw [hc i hi]; simp [List.getD, hi]) dst hd
  rw [foldl_eq_strOf] at hrun
  exact hrun

theorem be4_cells (n : Nat) (hn : n < 4294967296) : Lib.byteCells (Lib.beBytes 4 n) = [Value.int .u8 ((n : Int) / 16777216), Value.int .u8 ((n : Int) / 65536 % 256), Value.int .u8 ((n : Int) / 256 % 256), Value.int .u8 ((n : Int) % 256)] := by
  have e0 : ((n % 256 : Nat) : Int) = (n : Int) % 256 := by omega
  have e1 : ((n / 256 % 256 : Nat) : Int) = (n : Int) / 256 % 256 := by omega
  have e2 : ((n / 256 / 256 % 256 : Nat) : Int) = (n : Int) / 65536 % 256 := by omega
  have e3 : ((n / 256 / 256 / 256 % 256 : Nat) : Int) = (n : Int) / 16777216 := by omega
  simp only [Lib.byteCells, Lib.beBytes, Lib.leBytes, List.reverse_cons, List.reverse_nil, List.nil_append, List.cons_append, List.map, Lib.toUInt8_mod, e0, e1, e2, e3]

theorem bs_of_cells4 {w : World} {b o : Nat} {l : List UInt8} (h : ∀ j u, (Lib.byteCells l)[j]? = some u → w.cell? ⟨b, o + j, none⟩ = some u) : Bs w b o l := by
  intro j hj
  exact h j _ (by simp [Lib.byteCells, hj])

set_option maxHeartbeats 400000 in
theorem big_any (n : Nat) (hn : n < 4294967296) (w : World) :
    Calls Tryd.prog 15 #[.int .u32 (n : Int)] w fun e w' => e = .returned (.string ⟨(Lib.beBytes 4 n).toArray⟩) ∧ Below w.heap.size w w' := by
  have hc := Lib.hid (be4_cells n hn)
  go_enter Tryd.func15, Tryd.ntmps15
  go_wp2_with (refine wpList_b2s rfl 42 9 5 _ rfl Tryd.underlying42 Tryd.underlying5 Tryd.underlying9 w.heap.size 0 4 4 rfl (Lib.beBytes 4 n) (Lib.beBytes_length 4 n) ?hc ?_)
  case hc =>
    apply bs_of_cells4
    rw [hc.out]
    intro j u hj
    match j, hj with
    | 0, hj => simp at hj; subst hj; simp
    | 1, hj => simp at hj; subst hj; simp
    | 2, hj => simp at hj; subst hj; simp
    | 3, hj => simp at hj; subst hj; simp
  go_ret
  exact ⟨rfl, (Below.refl _ _).alloc (Nat.le_refl _) _⟩


theorem or_hi (a b k : Nat) (h : b < 2 ^ k) : a * 2 ^ k ||| b = a * 2 ^ k + b := by rw [Nat.mul_comm, ← Nat.two_pow_add_eq_or_of_lt h]
theorem be4_val (b0 b1 b2 b3 : UInt8) : bits .or .u32 (bits .or .u32 (bits .or .u32 ((b0.toNat : Int) % 4294967296 * 16777216 % 4294967296) ((b1.toNat : Int) % 4294967296 * 65536 % 4294967296)) ((b2.toNat : Int) % 4294967296 * 256 % 4294967296)) ((b3.toNat : Int) % 4294967296) = ((Lib.beNat [b0, b1, b2, b3] : Nat) : Int) := by
  have h0 : b0.toNat < 256 := b0.toNat_lt
  have h1 : b1.toNat < 256 := b1.toNat_lt
  have h2 : b2.toNat < 256 := b2.toNat_lt
  have h3 : b3.toNat < 256 := b3.toNat_lt
  have e : Lib.beNat [b0, b1, b2, b3] = ((b0.toNat * 256 + b1.toNat) * 256 + b2.toNat) * 256 + b3.toNat := by simp [Lib.beNat, Lib.beFrom]
  rw [e]
  generalize b0.toNat = x0 at *
  generalize b1.toNat = x1 at *
  generalize b2.toNat = x2 at *
  generalize b3.toNat = x3 at *
  rw [show (x0 : Int) % 4294967296 * 16777216 % 4294967296 = ((x0 * 2 ^ 24 : Nat) : Int) by omega, show (x1 : Int) % 4294967296 * 65536 % 4294967296 = ((x1 * 65536 : Nat) : Int) by omega,
    show (x2 : Int) % 4294967296 * 256 % 4294967296 = ((x2 * 256 : Nat) : Int) by omega, show (x3 : Int) % 4294967296 = (x3 : Int) by omega]
  rw [u32_or_nat _ _ (by omega) (by omega), or_hi _ _ _ (by omega), show x0 * 2 ^ 24 + x1 * 65536 = (x0 * 256 + x1) * 2 ^ 16 by omega,
    u32_or_nat _ _ (by omega) (by omega), or_hi _ _ _ (by omega), show (x0 * 256 + x1) * 2 ^ 16 + x2 * 256 = ((x0 * 256 + x1) * 256 + x2) * 2 ^ 8 by omega,
    u32_or_nat _ _ (by omega) (by omega), or_hi _ _ _ (by omega)]

set_option maxHeartbeats 2000000 in
theorem bigOf_any (b0 b1 b2 b3 : UInt8) (r : List UInt8) (w : World) :
    Calls Tryd.prog 17 #[.string ⟨(b0 :: b1 :: b2 :: b3 :: r).toArray⟩] w fun e w' => e = .returned (.int .u32 ((Lib.beNat [b0, b1, b2, b3] : Nat) : Int)) ∧ ∃ n, w' = w.drewN n := by
  have i0 : ∀ W : World, (Instr.index 9 (.string ⟨(b0 :: b1 :: b2 :: b3 :: r).toArray⟩) (.int .i64 0)).run Tryd.prog W = .ok (.int .u8 (b0.toNat : Int)) W := run_index_mk _ Tryd.underlying9 _ .i64 0 b0 rfl
  have i1 : ∀ W : World, (Instr.index 9 (.string ⟨(b0 :: b1 :: b2 :: b3 :: r).toArray⟩) (.int .i64 1)).run Tryd.prog W = .ok (.int .u8 (b1.toNat : Int)) W := run_index_mk _ Tryd.underlying9 _ .i64 1 b1 rfl
  have i2 : ∀ W : World, (Instr.index 9 (.string ⟨(b0 :: b1 :: b2 :: b3 :: r).toArray⟩) (.int .i64 2)).run Tryd.prog W = .ok (.int .u8 (b2.toNat : Int)) W := run_index_mk _ Tryd.underlying9 _ .i64 2 b2 rfl
  have i3 : ∀ W : World, (Instr.index 9 (.string ⟨(b0 :: b1 :: b2 :: b3 :: r).toArray⟩) (.int .i64 3)).run Tryd.prog W = .ok (.int .u8 (b3.toNat : Int)) W := run_index_mk _ Tryd.underlying9 _ .i64 3 b3 rfl
  go_enter Tryd.func17, Tryd.ntmps17
  go_wp2_with fail
  go_quiet (fail)
  go_wp2_with fail
  go_ret
  exact ⟨congrArg (fun v => Ending.returned (Value.int .u32 v)) (be4_val b0 b1 b2 b3), _, rfl⟩


theorem head_cells (m : Nat) (hm : m < 65536) : Lib.byteCells (Lib.beBytes 2 m ++ [0, 8]) = [Value.int .u8 ((m : Int) / 256), Value.int .u8 ((m : Int) % 256), Value.int .u8 0, Value.int .u8 8] := by
  have e0 : ((m % 256 : Nat) : Int) = (m : Int) % 256 := by omega
  have e1 : ((m / 256 % 256 : Nat) : Int) = (m : Int) / 256 := by omega
  simp only [Lib.byteCells, Lib.beBytes, Lib.leBytes, List.reverse_cons, List.reverse_nil, List.nil_append, List.cons_append, List.map, Lib.toUInt8_mod, e0, e1]
  rfl

set_option maxHeartbeats 1000000 in
theorem manifestHead_any (m : Nat) (hm : m < 65536) (w : World) :
    Calls Tryd.prog 6 #[.int .u16 (m : Int)] w fun e w' => e = .returned (.string ⟨(headB m).toArray⟩) ∧ Below w.heap.size w w' := by
  have hlb : (Lib.beBytes 2 m).length = 2 := Lib.beBytes_length 2 m
  go_enter Tryd.func6, Tryd.ntmps6
  go_wp2_with (refine wpList_b2s rfl 42 9 5 _ rfl Tryd.underlying42 Tryd.underlying5 Tryd.underlying9 w.heap.size 0 4 4 rfl (Lib.beBytes 2 m ++ [0, 8]) (by simp [Lib.beBytes_length]) ?hc ?_)
  case hc =>
    apply bs_of_cells4
    rw [head_cells m hm]
    intro j u hj
    match j, hj with
    | 0, hj => simp at hj; subst hj; simp
    | 1, hj => simp at hj; subst hj; simp
    | 2, hj => simp at hj; subst hj; simp
    | 3, hj => simp at hj; subst hj; simp
  all_goals (try omega)
  go_ret
  refine ⟨?_, (Below.refl _ _).alloc (Nat.le_refl _) _⟩
  show Ending.returned (Value.string _) = _
  congr 2

theorem list4 (q : List UInt8) (h : q.length = 4) : ∃ b0 b1 b2 b3, q = [b0, b1, b2, b3] := by
  match q, h with
  | [b0, b1, b2, b3], _ => exact ⟨b0, b1, b2, b3, rfl⟩

set_option maxHeartbeats 1000000 in
theorem long_any (q : List UInt8) (l : List UInt8) (hq : q.length = 4) (w : World) :
    Calls Tryd.prog 10 #[.string ⟨(q ++ l).toArray⟩] w fun e w' => e = .returned (.int .i64 (Lib.beNat q : Nat)) ∧ Ch [] w w' := by
  obtain ⟨b0, b1, b2, b3, rfl⟩ := list4 q hq
  have hb := Lib.hid (bigOf_any b0 b1 b2 b3 l w)
  have hlt : Lib.beNat [b0, b1, b2, b3] < 4294967296 := by
    have h0 : b0.toNat < 256 := b0.toNat_lt
    have h1 : b1.toNat < 256 := b1.toNat_lt
    have h2 : b2.toNat < 256 := b2.toNat_lt
    have h3 : b3.toNat < 256 := b3.toNat_lt
    simp [Lib.beNat, Lib.beFrom]
    omega
  obtain ⟨N, hN⟩ : ∃ N, Lib.beNat [b0, b1, b2, b3] = N := ⟨_, rfl⟩
  rw [hN] at hlt hb ⊢
  have hw : IntKind.i64.wrap (N : Int) = (N : Int) := IntWalk.i64_in _ (by omega)
  go_enter Tryd.func10, Tryd.ntmps10
  go_wp2_with fail
  refine hb.out.mono ?_
  rintro e w1 ⟨rfl, nq, rfl⟩
  go_wp2_with fail
  go_ret
  exact ⟨rfl, (Ch.refl [] w).drewN _⟩

theorem zcall_ {W W' : World} {b o : Nat} {l : List UInt8} (hb : Below W.heap.size W W') (h : Bs W b o l) : Bs W' b o l := h.ch (S := []) (Ch.of_below hb) (by simp)
theorem one_bs {W : World} {n : Nat} {x : UInt8} (hn : n = W.heap.size) : Bs (W.alloc (.cells #[.int .u8 (x.toNat : Int)] 5)) n 0 [x] := by
  subst hn
  intro j hj
  obtain rfl : j = 0 := by simpa using hj
  simp

set_option maxHeartbeats 2000000 in
set_option maxRecDepth 20000 in
theorem field1_any (n : Nat) (hn : n < 18446744073709551616) (w : World) :
    Calls Tryd.prog 13 #[.int .u8 1, .int .u64 (n : Int)] w fun e w' => e = .returned (.string ⟨(fldB 8 n).toArray⟩) ∧ Below w.heap.size w w' := by
  by_cases h0 : n = 0
  · subst h0
    go_enter Tryd.func13, Tryd.ntmps13
    go_wp2_with fail
    go_ret
    exact ⟨rfl, Below.refl _ _⟩
  · have h0I : ¬ (n : Int) = 0 := by omega
    have hul := Lib.uvarint_length64 hn
    have hf : fldB 8 n = [8] ++ uvarint n := by unfold fldB; rw [if_neg h0]; rfl
    obtain ⟨U, hU⟩ : ∃ U, uvarint n = U := ⟨_, rfl⟩
    have huv : ∀ W, Hid (Calls Tryd.prog 14 #[.int .u64 (n : Int)] W fun e w' => e = .returned (.string ⟨U.toArray⟩) ∧ Below W.heap.size W w') := fun W => Lib.hid (by rw [← hU]; exact specUvarint_any n hn W)
    rw [hU] at hul hf
    rw [hf]
    have hs2 : (ByteArray.mk U.toArray).size = U.length := by simp [ByteArray.size]
    have hcat : ByteArray.mk #[8] ++ ByteArray.mk U.toArray = ⟨([8] ++ U).toArray⟩ := by
      apply ByteArray.ext
      simp [ByteArray.data_append]
    have hsum : ¬ 9223372036854775807 < 1 + U.length := by omega
    have hconv : ∀ (W : World) (b : Nat), Bs W b 0 [8] → (convert 42 9 (.slice (some ⟨b, 0, none⟩) 1 1)).run Tryd.prog W = .ok (.string ⟨#[8]⟩) W :=
      fun W b h => run_b2s W _ _ 5 Tryd.underlying42 Tryd.underlying5 Tryd.underlying9 _ _ _ _ _ rfl h
    have zb : ∀ (W : World) (n : Nat), n = W.heap.size → Bs (W.alloc (.cells #[.int .u8 8] 5)) n 0 [8] := fun W n hn => one_bs (x := 8) hn
    clear hf hU
    go_enter Tryd.func13, Tryd.ntmps13
    go_wp2_with fail
    go_region_with (first | (go_at_call 14; with_reducible refine (huv _).out.mono ?_; rintro e w1 ⟨rfl, hb1⟩) | (rw [hconv _ _ (by first | exact zb _ _ rfl | exact Bs.drew (zb _ _ rfl) | exact zcall_ (by assumption) (zb _ _ rfl) | exact zcall_ (by assumption) (Bs.drew (zb _ _ rfl)))]; go_simp))
    all_goals
      go_wp2_with fail
      go_ret
      refine ⟨rfl, by repeat (first | exact Below.refl _ _ | refine below_drew_ ?_ | refine below_alloc_ ?_ _ | refine below_call_ (by assumption) ?_)⟩
set_option maxHeartbeats 2000000 in
set_option maxRecDepth 20000 in
theorem field2_any (n : Nat) (hn : n < 18446744073709551616) (w : World) :
    Calls Tryd.prog 13 #[.int .u8 2, .int .u64 (n : Int)] w fun e w' => e = .returned (.string ⟨(fldB 16 n).toArray⟩) ∧ Below w.heap.size w w' := by
  by_cases h0 : n = 0
  · subst h0
    go_enter Tryd.func13, Tryd.ntmps13
    go_wp2_with fail
    go_ret
    exact ⟨rfl, Below.refl _ _⟩
  · have h0I : ¬ (n : Int) = 0 := by omega
    have hul := Lib.uvarint_length64 hn
    have hf : fldB 16 n = [16] ++ uvarint n := by unfold fldB; rw [if_neg h0]; rfl
    obtain ⟨U, hU⟩ : ∃ U, uvarint n = U := ⟨_, rfl⟩
    have huv : ∀ W, Hid (Calls Tryd.prog 14 #[.int .u64 (n : Int)] W fun e w' => e = .returned (.string ⟨U.toArray⟩) ∧ Below W.heap.size W w') := fun W => Lib.hid (by rw [← hU]; exact specUvarint_any n hn W)
    rw [hU] at hul hf
    rw [hf]
    have hs2 : (ByteArray.mk U.toArray).size = U.length := by simp [ByteArray.size]
    have hcat : ByteArray.mk #[16] ++ ByteArray.mk U.toArray = ⟨([16] ++ U).toArray⟩ := by
      apply ByteArray.ext
      simp [ByteArray.data_append]
    have hsum : ¬ 9223372036854775807 < 1 + U.length := by omega
    have hconv : ∀ (W : World) (b : Nat), Bs W b 0 [16] → (convert 42 9 (.slice (some ⟨b, 0, none⟩) 1 1)).run Tryd.prog W = .ok (.string ⟨#[16]⟩) W :=
      fun W b h => run_b2s W _ _ 5 Tryd.underlying42 Tryd.underlying5 Tryd.underlying9 _ _ _ _ _ rfl h
    have zb : ∀ (W : World) (n : Nat), n = W.heap.size → Bs (W.alloc (.cells #[.int .u8 16] 5)) n 0 [16] := fun W n hn => one_bs (x := 16) hn
    clear hf hU
    go_enter Tryd.func13, Tryd.ntmps13
    go_wp2_with fail
    go_region_with (first | (go_at_call 14; with_reducible refine (huv _).out.mono ?_; rintro e w1 ⟨rfl, hb1⟩) | (rw [hconv _ _ (by first | exact zb _ _ rfl | exact Bs.drew (zb _ _ rfl) | exact zcall_ (by assumption) (zb _ _ rfl) | exact zcall_ (by assumption) (Bs.drew (zb _ _ rfl)))]; go_simp))
    all_goals
      go_wp2_with fail
      go_ret
      refine ⟨rfl, by repeat (first | exact Below.refl _ _ | refine below_drew_ ?_ | refine below_alloc_ ?_ _ | refine below_call_ (by assumption) ?_)⟩
set_option maxHeartbeats 2000000 in
set_option maxRecDepth 20000 in
theorem field3_any (n : Nat) (hn : n < 18446744073709551616) (w : World) :
    Calls Tryd.prog 13 #[.int .u8 3, .int .u64 (n : Int)] w fun e w' => e = .returned (.string ⟨(fldB 24 n).toArray⟩) ∧ Below w.heap.size w w' := by
  by_cases h0 : n = 0
  · subst h0
    go_enter Tryd.func13, Tryd.ntmps13
    go_wp2_with fail
    go_ret
    exact ⟨rfl, Below.refl _ _⟩
  · have h0I : ¬ (n : Int) = 0 := by omega
    have hul := Lib.uvarint_length64 hn
    have hf : fldB 24 n = [24] ++ uvarint n := by unfold fldB; rw [if_neg h0]; rfl
    obtain ⟨U, hU⟩ : ∃ U, uvarint n = U := ⟨_, rfl⟩
    have huv : ∀ W, Hid (Calls Tryd.prog 14 #[.int .u64 (n : Int)] W fun e w' => e = .returned (.string ⟨U.toArray⟩) ∧ Below W.heap.size W w') := fun W => Lib.hid (by rw [← hU]; exact specUvarint_any n hn W)
    rw [hU] at hul hf
    rw [hf]
    have hs2 : (ByteArray.mk U.toArray).size = U.length := by simp [ByteArray.size]
    have hcat : ByteArray.mk #[24] ++ ByteArray.mk U.toArray = ⟨([24] ++ U).toArray⟩ := by
      apply ByteArray.ext
      simp [ByteArray.data_append]
    have hsum : ¬ 9223372036854775807 < 1 + U.length := by omega
    have hconv : ∀ (W : World) (b : Nat), Bs W b 0 [24] → (convert 42 9 (.slice (some ⟨b, 0, none⟩) 1 1)).run Tryd.prog W = .ok (.string ⟨#[24]⟩) W :=
      fun W b h => run_b2s W _ _ 5 Tryd.underlying42 Tryd.underlying5 Tryd.underlying9 _ _ _ _ _ rfl h
    have zb : ∀ (W : World) (n : Nat), n = W.heap.size → Bs (W.alloc (.cells #[.int .u8 24] 5)) n 0 [24] := fun W n hn => one_bs (x := 24) hn
    clear hf hU
    go_enter Tryd.func13, Tryd.ntmps13
    go_wp2_with fail
    go_region_with (first | (go_at_call 14; with_reducible refine (huv _).out.mono ?_; rintro e w1 ⟨rfl, hb1⟩) | (rw [hconv _ _ (by first | exact zb _ _ rfl | exact Bs.drew (zb _ _ rfl) | exact zcall_ (by assumption) (zb _ _ rfl) | exact zcall_ (by assumption) (Bs.drew (zb _ _ rfl)))]; go_simp))
    all_goals
      go_wp2_with fail
      go_ret
      refine ⟨rfl, by repeat (first | exact Below.refl _ _ | refine below_drew_ ?_ | refine below_alloc_ ?_ _ | refine below_call_ (by assumption) ?_)⟩
end Go.Proofs.YtkjgkjmaoebeoaaDoor
