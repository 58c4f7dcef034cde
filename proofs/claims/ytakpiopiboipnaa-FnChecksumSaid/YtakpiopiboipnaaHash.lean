/-
  Contracts of y.Hash, impl.KeyHash, spec.KeyHash; the walk of FnChecksum.
-/
import Derived.Test.YtakpiopiboipnaaCrc
import Derived.Test.YtakpiopiboipnaaHashMath
import Derived.Lib.EndianBits
namespace Go.Proofs.Ytakpiopiboipnaa
open Go Go.RowKit
open Go.Proofs

theorem bits_word (b0 b1 b2 b3 : UInt8) : bits .or .u32 (bits .or .u32 (bits .or .u32 (b0.toNat : Int) ((b1.toNat : Int) * 256)) ((b2.toNat : Int) * 65536)) ((b3.toNat : Int) * 16777216) = ((Lib.leNat [b0, b1, b2, b3] : Nat) : Int) := by
  have l0 := b0.toNat_lt
  have l1 := b1.toNat_lt
  have l2 := b2.toNat_lt
  have l3 := b3.toNat_lt
  rw [u32_or8 (b0.toNat : Int) ((b1.toNat : Int) * 256) (by omega) (by omega) (by omega) (by omega) (by omega),
    u32_or16 ((b0.toNat : Int) + (b1.toNat : Int) * 256) ((b2.toNat : Int) * 65536) (by omega) (by omega) (by omega) (by omega) (by omega),
    u32_or24 ((b0.toNat : Int) + (b1.toNat : Int) * 256 + (b2.toNat : Int) * 65536) ((b3.toNat : Int) * 16777216) (by omega) (by omega) (by omega) (by omega) (by omega)]
  simp only [Lib.leNat]
  omega

theorem bits_hashWord (y x : Nat) : bits .xor .u32 (((y : Int) + (x : Int)) % 4294967296 * 3332679571 % 4294967296) (((y : Int) + (x : Int)) % 4294967296 * 3332679571 % 4294967296 / 65536) = ((hashWord y x : Nat) : Int) := by
  have h := u32_xor_nat ((y + x) % 4294967296 * 3332679571 % 4294967296) ((y + x) % 4294967296 * 3332679571 % 4294967296 / 65536) (by omega) (by omega)
  rw [hashWord, ← h]
  congr 1

theorem bits_hashFin (y : Nat) : bits .xor .u32 ((y : Int) * 3332679571 % 4294967296) ((y : Int) * 3332679571 % 4294967296 / 16777216) = ((hashFin y : Nat) : Int) := by
  have h := u32_xor_nat (y * 3332679571 % 4294967296) (y * 3332679571 % 4294967296 / 16777216) (by omega) (by omega)
  rw [hashFin, ← h]
  congr 1

theorem bits_seed (n : Nat) : bits .xor .u32 3164544308 ((n : Int) % 4294967296 * 3332679571 % 4294967296) = ((hashSeed n : Nat) : Int) := by
  have h := u32_xor_nat 3164544308 (n % 4294967296 * 3332679571 % 4294967296) (by omega) (by omega)
  rw [hashSeed, ← h]
  congr 1

set_option maxHeartbeats 4000000 in
set_option maxRecDepth 10000 in
theorem hash_any (A : Option Addr) (n c : Nat) (l : List UInt8) (w : World) (hs : Src w A n l) (hn : n ≤ 4294967296) (hc : n ≤ c) :
    Calls Try.prog 32 #[.slice A n c] w fun e w' => e = .returned (.int .u32 (keyHash l : Nat)) ∧ Below w.heap.size w w' := by
  have hseed := bits_seed n
  have hsd := hashSeed_lt n
  go_enter Try.func32, Try.ntmps32
  go_wp2_with fail
  go_loopw [0, 3] (fun b h wr => ∃ (A' : Option Addr) (n' c' y : Nat) (r : List UInt8), b = .slice A' n' c' ∧ h = .int .u32 (y : Int) ∧ y < 4294967296 ∧ n' ≤ c' ∧ n' ≤ 4294967296 ∧ Src wr A' n' r ∧ hashAll y r = hashAll (hashSeed l.length) l ∧ Below w.heap.size w wr)
    (fun b _ _ => match b with | .slice _ n _ => n | _ => 0)
  case atStart => exact ⟨A, n, c, hashSeed n, l, rfl, rfl, hsd, hc, hn, hs, by rw [hs.1], Below.refl _ _⟩
  case round =>
    clear hseed
    obtain ⟨A', n', c', y, r, rfl, rfl, hy, hnc, hn', hsr, hall, hbl⟩ := hrel
    obtain ⟨rfl, hsrc⟩ := hsr
    have hall' := Lib.hid hall
    clear hall
    by_cases h4 : 4 ≤ r.length
    · match r, h4 with
      | b0 :: b1 :: b2 :: b3 :: r', _ =>
        obtain ⟨b, o, rfl, hbs⟩ := hsrc (by simp)
        have c0 : wr.cell? ⟨b, o, none⟩ = _ := hbs 0 (by simp)
        have c1 : wr.cell? ⟨b, o + 1, none⟩ = _ := hbs 1 (by simp)
        have c2 : wr.cell? ⟨b, o + 2, none⟩ = _ := hbs 2 (by simp)
        have c3 : wr.cell? ⟨b, o + 3, none⟩ = _ := hbs 3 (by simp)
        have l0 := b0.toNat_lt
        have l1 := b1.toNat_lt
        have l2 := b2.toNat_lt
        have l3 := b3.toNat_lt
        simp only [List.getElem_cons_zero, List.getElem_cons_succ] at c0 c1 c2 c3
        have hbs' := Lib.hid hbs
        clear hsrc hbs
        go_wp2_with fail
        go_quiet (fail)
        go_wp2_with fail
        go_roundw
        case rel =>
          simp only [List.length_cons] at hnc hn'
          refine ⟨_, _, _, hashWord y (Lib.leNat [b0, b1, b2, b3]), r', rfl, ?_, hashWord_lt _ _, by omega, by omega, ⟨rfl, fun h0 => ?_⟩, hall'.out, ⟨hbl.os, hbl.tape, hbl.output, hbl.size, hbl.block⟩⟩
          · rw [bits_word, bits_hashWord]
          · rw [if_neg (by omega)]
            exact ⟨b, o + 4, rfl, (hbs'.out.drop 4).drewN nq⟩
        case measure =>
          show r'.length < (b0 :: b1 :: b2 :: b3 :: r').length
          simp only [List.length_cons]
          omega
    · have hsh := hashAll_short y r (by omega)
      have hk : keyHash l = hashTail y r := by
        unfold keyHash
        rw [← hall'.out, hsh]
      have hk' := Lib.hid hk
      clear hsh hall' hk
      match r, h4 with
      | [], _ =>
        clear hsrc
        go_wp2_with fail
        go_ret
        exact ⟨by rw [hk'.out]; rfl, hbl⟩
      | [b0], _ =>
        obtain ⟨b, o, rfl, hbs⟩ := hsrc (by simp)
        have c0 : wr.cell? ⟨b, o, none⟩ = _ := hbs 0 (by simp)
        have l0 := b0.toNat_lt
        simp only [List.getElem_cons_zero] at c0
        clear hsrc hbs
        go_wp2_with fail
        go_ret
        refine ⟨?_, hbl⟩
        rw [hk'.out, hashTail, ← bits_hashFin]
        rfl
      | [b0, b1], _ =>
        obtain ⟨b, o, rfl, hbs⟩ := hsrc (by simp)
        have c0 : wr.cell? ⟨b, o, none⟩ = _ := hbs 0 (by simp)
        have c1 : wr.cell? ⟨b, o + 1, none⟩ = _ := hbs 1 (by simp)
        have l0 := b0.toNat_lt
        have l1 := b1.toNat_lt
        simp only [List.getElem_cons_zero, List.getElem_cons_succ] at c0 c1
        clear hsrc hbs
        go_wp2_with fail
        go_ret
        refine ⟨?_, hbl⟩
        rw [hk'.out, hashTail, ← bits_hashFin]
        rfl
      | [b0, b1, b2], _ =>
        obtain ⟨b, o, rfl, hbs⟩ := hsrc (by simp)
        have c0 : wr.cell? ⟨b, o, none⟩ = _ := hbs 0 (by simp)
        have c1 : wr.cell? ⟨b, o + 1, none⟩ = _ := hbs 1 (by simp)
        have c2 : wr.cell? ⟨b, o + 2, none⟩ = _ := hbs 2 (by simp)
        have l0 := b0.toNat_lt
        have l1 := b1.toNat_lt
        have l2 := b2.toNat_lt
        simp only [List.getElem_cons_zero, List.getElem_cons_succ] at c0 c1 c2
        clear hsrc hbs
        go_wp2_with fail
        go_ret
        refine ⟨?_, hbl⟩
        rw [hk'.out, hashTail, ← bits_hashFin]
        rfl
      | _ :: _ :: _ :: _ :: _, h => exact absurd (by simp) h

set_option maxHeartbeats 1000000 in
theorem implKeyHash_any (l : List UInt8) (w : World) (hn : l.length ≤ 4294967296) :
    Calls Try.prog 17 #[.string ⟨l.toArray⟩] w fun e w' => e = .returned (.int .u32 (keyHash l : Nat)) ∧ Below w.heap.size w w' := by
  go_enter Try.func17, Try.ntmps17
  go_wp2_with (refine wpList_s2b rfl 9 46 5 _ rfl Try.underlying9 Try.underlying46 Try.underlying5 ⟨l.toArray⟩ rfl ?_)
  intro w1 c hb1 hs1 hbs hsc
  have hs1' := Lib.hid hs1
  clear hs1
  go_wp2_with fail
  refine (hash_any _ l.length c l _ (Src.at_ hbs) hn hsc).mono ?_
  rintro e w2 ⟨rfl, hb2⟩
  go_wp2_with fail
  go_ret
  exact ⟨rfl, below_step hb1 hb1.size hb2⟩

set_option maxHeartbeats 4000000 in
set_option maxRecDepth 10000 in
theorem specKeyHash_any (l : List UInt8) (w : World) (hn : l.length ≤ 4294967296) :
    Calls Try.prog 18 #[.string ⟨l.toArray⟩] w fun e w' => e = .returned (.int .u32 (keyHash l : Nat)) ∧ Below w.heap.size w w' := by
  have hseed := bits_seed l.length
  have hsd := hashSeed_lt l.length
  go_enter Try.func18, Try.ntmps18
  go_wp2_with fail
  go_loopw [0, 3] (fun b h wr => ∃ (y : Nat) (r : List UInt8), b = .string ⟨r.toArray⟩ ∧ h = .int .u32 (y : Int) ∧ y < 4294967296 ∧ r.length ≤ 4294967296 ∧ hashAll y r = hashAll (hashSeed l.length) l ∧ Below w.heap.size w wr)
    (fun b _ _ => match b with | .string s => s.size | _ => 0)
  case atStart => exact ⟨hashSeed l.length, l, rfl, rfl, hsd, hn, rfl, Below.refl _ _⟩
  case round =>
    clear hseed
    obtain ⟨y, r, rfl, rfl, hy, hn', hall, hbl⟩ := hrel
    have hall' := Lib.hid hall
    clear hall
    by_cases h4 : 4 ≤ r.length
    · match r, h4 with
      | b0 :: b1 :: b2 :: b3 :: r', _ =>
        have l0 := b0.toNat_lt
        have l1 := b1.toNat_lt
        have l2 := b2.toNat_lt
        have l3 := b3.toNat_lt
        have i0 : ∀ W : World, (Instr.index 9 (.string ⟨(b0 :: b1 :: b2 :: b3 :: r').toArray⟩) (.int .i64 0)).run Try.prog W = .ok (.int .u8 (b0.toNat : Int)) W := run_index_mk _ Try.underlying9 _ .i64 0 b0 rfl
        have i1 : ∀ W : World, (Instr.index 9 (.string ⟨(b0 :: b1 :: b2 :: b3 :: r').toArray⟩) (.int .i64 1)).run Try.prog W = .ok (.int .u8 (b1.toNat : Int)) W := run_index_mk _ Try.underlying9 _ .i64 1 b1 rfl
        have i2 : ∀ W : World, (Instr.index 9 (.string ⟨(b0 :: b1 :: b2 :: b3 :: r').toArray⟩) (.int .i64 2)).run Try.prog W = .ok (.int .u8 (b2.toNat : Int)) W := run_index_mk _ Try.underlying9 _ .i64 2 b2 rfl
        have i3 : ∀ W : World, (Instr.index 9 (.string ⟨(b0 :: b1 :: b2 :: b3 :: r').toArray⟩) (.int .i64 3)).run Try.prog W = .ok (.int .u8 (b3.toNat : Int)) W := run_index_mk _ Try.underlying9 _ .i64 3 b3 rfl
        go_wp2_with fail
        go_quiet (fail)
        go_wp2_with fail
        go_roundw
        case rel =>
          simp only [List.length_cons] at hn'
          refine ⟨hashWord y (Lib.leNat [b0, b1, b2, b3]), r', ?_, ?_, hashWord_lt _ _, by omega, hall'.out, ⟨hbl.os, hbl.tape, hbl.output, hbl.size, hbl.block⟩⟩
          · congr 1
            apply ByteArray.ext
            simp [ByteArray.data_extract]
          · rw [bits_word, bits_hashWord]
        case measure =>
          show (ByteArray.extract ⟨(b0 :: b1 :: b2 :: b3 :: r').toArray⟩ 4 (r'.length + 1 + 1 + 1 + 1)).size < (ByteArray.mk (b0 :: b1 :: b2 :: b3 :: r').toArray).size
          simp [ByteArray.size, ByteArray.data_extract]
          omega
    · have hsh := hashAll_short y r (by omega)
      have hk : keyHash l = hashTail y r := by
        unfold keyHash
        rw [← hall'.out, hsh]
      have hk' := Lib.hid hk
      clear hsh hall' hk
      match r, h4 with
      | [], _ =>
        go_wp2_with fail
        refine wp_loop_rounds 1 ?_
        rw [rounds_succ]
        go_wp2_with fail
        go_ret
        exact ⟨by rw [hk'.out]; rfl, hbl⟩
      | [b0], _ =>
        have l0 := b0.toNat_lt
        have i0 : ∀ W : World, (Instr.index 9 (.string ⟨#[b0]⟩) (.int .i64 0)).run Try.prog W = .ok (.int .u8 (b0.toNat : Int)) W := run_index_mk _ Try.underlying9 [b0] .i64 0 b0 rfl
        go_wp2_with fail
        refine wp_loop_rounds 2 ?_
        iterate 2 (rw [rounds_succ]; go_wp2_with fail)
        go_ret
        refine ⟨?_, hbl⟩
        rw [hk'.out, hashTail, ← bits_hashFin]
        rfl
      | [b0, b1], _ =>
        have l0 := b0.toNat_lt
        have l1 := b1.toNat_lt
        have i0 : ∀ W : World, (Instr.index 9 (.string ⟨#[b0, b1]⟩) (.int .i64 0)).run Try.prog W = .ok (.int .u8 (b0.toNat : Int)) W := run_index_mk _ Try.underlying9 [b0, b1] .i64 0 b0 rfl
        have i1 : ∀ W : World, (Instr.index 9 (.string ⟨#[b0, b1]⟩) (.int .i64 1)).run Try.prog W = .ok (.int .u8 (b1.toNat : Int)) W := run_index_mk _ Try.underlying9 [b0, b1] .i64 1 b1 rfl
        go_wp2_with fail
        refine wp_loop_rounds 3 ?_
        iterate 3 (rw [rounds_succ]; go_wp2_with fail)
        go_ret
        refine ⟨?_, hbl⟩
        rw [hk'.out, hashTail, ← bits_hashFin]
        rfl
      | [b0, b1, b2], _ =>
        have l0 := b0.toNat_lt
        have l1 := b1.toNat_lt
        have l2 := b2.toNat_lt
        have i0 : ∀ W : World, (Instr.index 9 (.string ⟨#[b0, b1, b2]⟩) (.int .i64 0)).run Try.prog W = .ok (.int .u8 (b0.toNat : Int)) W := run_index_mk _ Try.underlying9 [b0, b1, b2] .i64 0 b0 rfl
        have i1 : ∀ W : World, (Instr.index 9 (.string ⟨#[b0, b1, b2]⟩) (.int .i64 1)).run Try.prog W = .ok (.int .u8 (b1.toNat : Int)) W := run_index_mk _ Try.underlying9 [b0, b1, b2] .i64 1 b1 rfl
        have i2 : ∀ W : World, (Instr.index 9 (.string ⟨#[b0, b1, b2]⟩) (.int .i64 2)).run Try.prog W = .ok (.int .u8 (b2.toNat : Int)) W := run_index_mk _ Try.underlying9 [b0, b1, b2] .i64 2 b2 rfl
        go_wp2_with fail
        refine wp_loop_rounds 4 ?_
        iterate 4 (rw [rounds_succ]; go_wp2_with fail)
        go_ret
        refine ⟨?_, hbl⟩
        rw [hk'.out, hashTail, ← bits_hashFin]
        rfl
      | _ :: _ :: _ :: _ :: _, h => exact absurd (by simp) h

theorem crc_nine : crc32 [49, 50, 51, 52, 53, 54, 55, 56, 57] = 3808858755 := by decide +kernel

theorem implChecksum_nine (w : World) :
    Calls Try.prog 15 #[.string ⟨#[49, 50, 51, 52, 53, 54, 55, 56, 57]⟩] w fun e w' => e = .returned (.int .u32 3808858755) ∧ Below w.heap.size w w' := by
  have h := implChecksum_any [49, 50, 51, 52, 53, 54, 55, 56, 57] w (by simp)
  rw [crc_nine] at h
  exact h

set_option maxHeartbeats 1000000 in
/-- THE WALK of FnChecksum: it returns true. -/
theorem fnChecksum_walk (l : List UInt8) (w : World) :
    Calls Try.prog 5 #[.string ⟨l.toArray⟩] w fun e w' => e = .returned (.bool true) ∧ Below w.heap.size w w' := by
  by_cases h1 : 2000 < l.length
  · go_enter Try.func5, Try.ntmps5
    by_cases h2 : 2147483647 < l.length
    all_goals
      go_wp2_with fail
      go_ret
      exact ⟨rfl, Below.refl _ _⟩
  · go_enter Try.func5, Try.ntmps5
    go_wp2_with fail
    refine (implChecksum_any l _ (by omega)).mono ?_
    rintro e w1 ⟨rfl, hb1⟩
    go_wp2_with fail
    refine (specCrc_any l _ (by omega)).mono ?_
    rintro e w2 ⟨rfl, hb2⟩
    go_wp2_with fail
    refine (implChecksum_nine _).mono ?_
    rintro e w3 ⟨rfl, hb3⟩
    go_wp2_with fail
    refine (implKeyHash_any l _ (by omega)).mono ?_
    rintro e w4 ⟨rfl, hb4⟩
    go_wp2_with fail
    refine (specKeyHash_any l _ (by omega)).mono ?_
    rintro e w5 ⟨rfl, hb5⟩
    go_wp2_with fail
    go_ret
    exact ⟨rfl, below_step (below_step (below_step (below_step hb1 hb1.size hb2) (Nat.le_trans hb1.size hb2.size) hb3) (Nat.le_trans (Nat.le_trans hb1.size hb2.size) hb3.size) hb4) (Nat.le_trans (Nat.le_trans (Nat.le_trans hb1.size hb2.size) hb3.size) hb4.size) hb5⟩
end Go.Proofs.Ytakpiopiboipnaa
