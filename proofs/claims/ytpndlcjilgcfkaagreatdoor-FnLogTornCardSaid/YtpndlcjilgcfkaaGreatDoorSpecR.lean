/-
  Contracts of the reference's small readers: spec.uvarint, spec.bigOf, spec.TsOf, spec.Decimal.
-/
import Derived.Test.YtpndlcjilgcfkaaGreatDoorLogQ
import Derived.Test.YtpndlcjilgcfkaaGreatDoorCrc
import Derived.Deep.DeepCutAuto
import Derived.BigQuiet
import Derived.IntWalk
import Derived.Test.YtpndlcjilgcfkaaGreatDoorBits
import Derived.Lib.EndianMore
import Derived.Lib.EndianBits
namespace Go.Proofs.YtpndlcjilgcfkaaGreatDoor
open Go Go.RowKit
open Go.Proofs

theorem u64_and127 (x : Nat) (h : x < 256) : bits .and .u64 (x : Int) 127 = ((x % 128 : Nat) : Int) := by
  have := u64_and_nat x 127 (by omega) (by omega)
  rw [show ((127 : Nat) : Int) = 127 from rfl] at this
  rw [this]
  congr 1
  exact Nat.and_two_pow_sub_one_eq_mod x 7
theorem u64_shOr (acc x s : Nat) (ha : acc < 2 ^ s) (hx : x * 2 ^ s < 18446744073709551616) (hs : s < 64) : bits .or .u64 (acc : Int) (((x * 2 ^ s : Nat)) : Int) = ((acc + x * 2 ^ s : Nat) : Int) := by
  have h2 : (2 : Nat) ^ s < 2 ^ 64 := Nat.pow_lt_pow_right (by omega) hs
  rw [u64_or_nat acc (x * 2 ^ s) (by omega) hx]
  congr 1
  rw [Nat.mul_comm, Nat.or_comm, ← Nat.two_pow_add_eq_or_of_lt ha, Nat.add_comm]

theorem uvOr (acc v i K : Nat) (hK : K = 2 ^ (7 * i)) (ha : acc < 2 ^ (7 * i)) (hv : v < 128) (h9 : i ≤ 9) (hv9 : i = 9 → v ≤ 1) :
    bits .or .u64 (acc : Int) ((v : Int) * (K : Int)) = ((acc + v * 2 ^ (7 * i) : Nat) : Int) := by
  have hx : v * 2 ^ (7 * i) < 18446744073709551616 := by
    rcases Nat.lt_or_ge i 9 with h | h
    · have h1 : v * 2 ^ (7 * i) ≤ 127 * 2 ^ (7 * 8) := Nat.mul_le_mul (by omega) (Nat.pow_le_pow_right (by omega) (by omega))
      exact Nat.lt_of_le_of_lt h1 (by decide)
    · obtain rfl : i = 9 := by omega
      have h1 : v * 2 ^ (7 * 9) ≤ 1 * 2 ^ (7 * 9) := Nat.mul_le_mul (hv9 rfl) (Nat.le_refl _)
      exact Nat.lt_of_le_of_lt h1 (by decide)
  have e : (v : Int) * (K : Int) = ((v * 2 ^ (7 * i) : Nat) : Int) := by rw [hK]; simp
  rw [e]
  exact u64_shOr acc v (7 * i) ha hx (by omega)

theorem uvGo_done {i acc : Nat} {b : UInt8} {r : List UInt8} (h : b.toNat < 128) (h9 : i = 9 → b.toNat ≤ 1) : uvGo i acc (b :: r) = (acc + b.toNat % 128 * 2 ^ (7 * i), ((i + 1 : Nat) : Int)) := by
  rw [Nat.mod_eq_of_lt h]
  unfold uvGo
  rw [if_neg (by omega), if_pos h]
theorem uvGo_more {i acc : Nat} {b : UInt8} {r : List UInt8} (h : 128 ≤ b.toNat) (h9 : i < 9) : uvGo i acc (b :: r) = uvGo (i + 1) (acc + b.toNat % 128 * 2 ^ (7 * i)) r := by
  conv => lhs; unfold uvGo
  rw [if_neg (by omega), if_neg (by omega)]
theorem uvGo_great {acc : Nat} {b : UInt8} {r : List UInt8} (h : 1 < b.toNat) : uvGo 9 acc (b :: r) = (0, -1) := by
  unfold uvGo
  rw [if_pos ⟨rfl, h⟩]
theorem uv_acc {acc v i : Nat} (ha : acc < 2 ^ (7 * i)) (hv : v < 128) : acc + v * 2 ^ (7 * i) < 2 ^ (7 * (i + 1)) := by
  have hp : (2 : Nat) ^ (7 * (i + 1)) = 2 ^ (7 * i) * 128 := by rw [Nat.mul_add, Nat.pow_add]
  have : v * 2 ^ (7 * i) ≤ 127 * 2 ^ (7 * i) := Nat.mul_le_mul_right _ (by omega)
  omega

set_option maxHeartbeats 8000000 in
set_option maxRecDepth 20000 in
theorem specUv_any (l : List UInt8) (w : World) (hl : l.length ≤ 1000000000) :
    Calls Tryz.prog 32 #[.string ⟨l.toArray⟩] w fun e w' => e = .returned (.tuple #[.int .u64 ((uvOf l).1 : Int), .int .i64 (uvOf l).2]) ∧ w = w' := by
  have hsz : (ByteArray.mk l.toArray).size = l.length := by simp [ByteArray.size]
  go_enter Tryz.func32, Tryz.ntmps32
  go_wp2_with fail
  go_loop [2, 4] (fun s2 s4 => ∃ i acc : Nat, i ≤ l.length ∧ i ≤ 9 ∧ s4 = .int .i64 (i : Int) ∧ s2 = .int .u64 (acc : Int) ∧ acc < 2 ^ (7 * i) ∧ uvOf l = uvGo i acc (l.drop i)) (fun _ s4 => l.length - (intOf s4).toNat)
  case atStart => exact ⟨0, 0, Nat.zero_le _, by omega, rfl, rfl, by decide, rfl⟩
  case round =>
    obtain ⟨i, acc, hi, hi9, rfl, rfl, hacc, huv⟩ := hrel
    by_cases hlt : i < l.length
    · obtain ⟨b, hb⟩ : ∃ b, l[i] = b := ⟨_, rfl⟩
      have hxb : (ByteArray.mk l.toArray)[i]'(by simp [ByteArray.size]; omega) = b := by rw [← hb]; rfl
      have hbl : b.toNat < 256 := b.toNat_lt
      have hltI : (i : Int) < (l.length : Int) := by omega
      have hwb : IntKind.u64.wrap (b.toNat : Int) = (b.toNat : Int) := IntWalk.u64_in _ (by omega)
      obtain ⟨v, hv1⟩ : ∃ v, b.toNat % 128 = v := ⟨_, rfl⟩
      have hand := u64_and127 b.toNat hbl
      rw [hv1] at hand
      have hv : v < 128 := by omega
      rw [List.drop_eq_getElem_cons hlt, hb] at huv
      have hacc' := Lib.hid hacc
      have huv' := Lib.hid huv
      have hb' := Lib.hid hb
      have hv1' := Lib.hid hv1
      clear hv1 hb huv hacc
      rcases (show i = 0 ∨ i = 1 ∨ i = 2 ∨ i = 3 ∨ i = 4 ∨ i = 5 ∨ i = 6 ∨ i = 7 ∨ i = 8 ∨ i = 9 by omega) with rfl | rfl | rfl | rfl | rfl | rfl | rfl | rfl | rfl | rfl
      · have hor : bits .or .u64 (acc : Int) (v : Int) = ((acc + v * 2 ^ (7 * 0) : Nat) : Int) := by simpa using uvOr acc v 0 1 (by decide) hacc'.out hv (by omega) (by omega)
        obtain ⟨A, hA⟩ : ∃ A, acc + v * 2 ^ (7 * 0) = A := ⟨_, rfl⟩
        have hA2 := uv_acc hacc'.out hv
        rw [hA] at hor hA2
        have hA' := Lib.hid hA
        have hA2' := Lib.hid hA2
        clear hA2 hA
        rcases Nat.lt_or_ge b.toNat 128 with h128 | h128
        · have h128I : (b.toNat : Int) < 128 := by omega
          have hres := huv'.out.trans (uvGo_done (i := 0) h128 (by omega))
          rw [hv1'.out, hA'.out] at hres
          have hres' := Lib.hid hres
          clear hres
          go_wp2_with fail
          go_ret2
          exact ⟨by rw [hres'.out]; rfl, rfl⟩
        · have h128I : ¬ (b.toNat : Int) < 128 := by omega
          have hres := huv'.out.trans (uvGo_more (i := 0) h128 (by omega))
          rw [hv1'.out, hA'.out] at hres
          have hres' := Lib.hid hres
          clear hres
          go_wp2_with fail
          go_round
          case rel => exact ⟨1, A, hlt, by omega, rfl, rfl, hA2'.out, hres'.out⟩
          case measure => simp [intOf]; omega
      · have hor : bits .or .u64 (acc : Int) ((v : Int) * 128) = ((acc + v * 2 ^ (7 * 1) : Nat) : Int) := by simpa using uvOr acc v 1 128 (by decide) hacc'.out hv (by omega) (by omega)
        obtain ⟨A, hA⟩ : ∃ A, acc + v * 2 ^ (7 * 1) = A := ⟨_, rfl⟩
        have hA2 := uv_acc hacc'.out hv
        rw [hA] at hor hA2
        have hA' := Lib.hid hA
        have hA2' := Lib.hid hA2
        clear hA2 hA
        rcases Nat.lt_or_ge b.toNat 128 with h128 | h128
        · have h128I : (b.toNat : Int) < 128 := by omega
          have hres := huv'.out.trans (uvGo_done (i := 1) h128 (by omega))
          rw [hv1'.out, hA'.out] at hres
          have hres' := Lib.hid hres
          clear hres
          go_wp2_with fail
          go_ret2
          exact ⟨by rw [hres'.out]; rfl, rfl⟩
        · have h128I : ¬ (b.toNat : Int) < 128 := by omega
          have hres := huv'.out.trans (uvGo_more (i := 1) h128 (by omega))
          rw [hv1'.out, hA'.out] at hres
          have hres' := Lib.hid hres
          clear hres
          go_wp2_with fail
          go_round
          case rel => exact ⟨2, A, hlt, by omega, rfl, rfl, hA2'.out, hres'.out⟩
          case measure => simp [intOf]; omega
      · have hor : bits .or .u64 (acc : Int) ((v : Int) * 16384) = ((acc + v * 2 ^ (7 * 2) : Nat) : Int) := by simpa using uvOr acc v 2 16384 (by decide) hacc'.out hv (by omega) (by omega)
        obtain ⟨A, hA⟩ : ∃ A, acc + v * 2 ^ (7 * 2) = A := ⟨_, rfl⟩
        have hA2 := uv_acc hacc'.out hv
        rw [hA] at hor hA2
        have hA' := Lib.hid hA
        have hA2' := Lib.hid hA2
        clear hA2 hA
        rcases Nat.lt_or_ge b.toNat 128 with h128 | h128
        · have h128I : (b.toNat : Int) < 128 := by omega
          have hres := huv'.out.trans (uvGo_done (i := 2) h128 (by omega))
          rw [hv1'.out, hA'.out] at hres
          have hres' := Lib.hid hres
          clear hres
          go_wp2_with fail
          go_ret2
          exact ⟨by rw [hres'.out]; rfl, rfl⟩
        · have h128I : ¬ (b.toNat : Int) < 128 := by omega
          have hres := huv'.out.trans (uvGo_more (i := 2) h128 (by omega))
          rw [hv1'.out, hA'.out] at hres
          have hres' := Lib.hid hres
          clear hres
          go_wp2_with fail
          go_round
          case rel => exact ⟨3, A, hlt, by omega, rfl, rfl, hA2'.out, hres'.out⟩
          case measure => simp [intOf]; omega
      · have hor : bits .or .u64 (acc : Int) ((v : Int) * 2097152) = ((acc + v * 2 ^ (7 * 3) : Nat) : Int) := by simpa using uvOr acc v 3 2097152 (by decide) hacc'.out hv (by omega) (by omega)
        obtain ⟨A, hA⟩ : ∃ A, acc + v * 2 ^ (7 * 3) = A := ⟨_, rfl⟩
        have hA2 := uv_acc hacc'.out hv
        rw [hA] at hor hA2
        have hA' := Lib.hid hA
        have hA2' := Lib.hid hA2
        clear hA2 hA
        rcases Nat.lt_or_ge b.toNat 128 with h128 | h128
        · have h128I : (b.toNat : Int) < 128 := by omega
          have hres := huv'.out.trans (uvGo_done (i := 3) h128 (by omega))
          rw [hv1'.out, hA'.out] at hres
          have hres' := Lib.hid hres
          clear hres
          go_wp2_with fail
          go_ret2
          exact ⟨by rw [hres'.out]; rfl, rfl⟩
        · have h128I : ¬ (b.toNat : Int) < 128 := by omega
          have hres := huv'.out.trans (uvGo_more (i := 3) h128 (by omega))
          rw [hv1'.out, hA'.out] at hres
          have hres' := Lib.hid hres
          clear hres
          go_wp2_with fail
          go_round
          case rel => exact ⟨4, A, hlt, by omega, rfl, rfl, hA2'.out, hres'.out⟩
          case measure => simp [intOf]; omega
      · have hor : bits .or .u64 (acc : Int) ((v : Int) * 268435456) = ((acc + v * 2 ^ (7 * 4) : Nat) : Int) := by simpa using uvOr acc v 4 268435456 (by decide) hacc'.out hv (by omega) (by omega)
        obtain ⟨A, hA⟩ : ∃ A, acc + v * 2 ^ (7 * 4) = A := ⟨_, rfl⟩
        have hA2 := uv_acc hacc'.out hv
        rw [hA] at hor hA2
        have hA' := Lib.hid hA
        have hA2' := Lib.hid hA2
        clear hA2 hA
        rcases Nat.lt_or_ge b.toNat 128 with h128 | h128
        · have h128I : (b.toNat : Int) < 128 := by omega
          have hres := huv'.out.trans (uvGo_done (i := 4) h128 (by omega))
          rw [hv1'.out, hA'.out] at hres
          have hres' := Lib.hid hres
          clear hres
          go_wp2_with fail
          go_ret2
          exact ⟨by rw [hres'.out]; rfl, rfl⟩
        · have h128I : ¬ (b.toNat : Int) < 128 := by omega
          have hres := huv'.out.trans (uvGo_more (i := 4) h128 (by omega))
          rw [hv1'.out, hA'.out] at hres
          have hres' := Lib.hid hres
          clear hres
          go_wp2_with fail
          go_round
          case rel => exact ⟨5, A, hlt, by omega, rfl, rfl, hA2'.out, hres'.out⟩
          case measure => simp [intOf]; omega
      · have hor : bits .or .u64 (acc : Int) ((v : Int) * 34359738368) = ((acc + v * 2 ^ (7 * 5) : Nat) : Int) := by simpa using uvOr acc v 5 34359738368 (by decide) hacc'.out hv (by omega) (by omega)
        obtain ⟨A, hA⟩ : ∃ A, acc + v * 2 ^ (7 * 5) = A := ⟨_, rfl⟩
        have hA2 := uv_acc hacc'.out hv
        rw [hA] at hor hA2
        have hA' := Lib.hid hA
        have hA2' := Lib.hid hA2
        clear hA2 hA
        rcases Nat.lt_or_ge b.toNat 128 with h128 | h128
        · have h128I : (b.toNat : Int) < 128 := by omega
          have hres := huv'.out.trans (uvGo_done (i := 5) h128 (by omega))
          rw [hv1'.out, hA'.out] at hres
          have hres' := Lib.hid hres
          clear hres
          go_wp2_with fail
          go_ret2
          exact ⟨by rw [hres'.out]; rfl, rfl⟩
        · have h128I : ¬ (b.toNat : Int) < 128 := by omega
          have hres := huv'.out.trans (uvGo_more (i := 5) h128 (by omega))
          rw [hv1'.out, hA'.out] at hres
          have hres' := Lib.hid hres
          clear hres
          go_wp2_with fail
          go_round
          case rel => exact ⟨6, A, hlt, by omega, rfl, rfl, hA2'.out, hres'.out⟩
          case measure => simp [intOf]; omega
      · have hor : bits .or .u64 (acc : Int) ((v : Int) * 4398046511104) = ((acc + v * 2 ^ (7 * 6) : Nat) : Int) := by simpa using uvOr acc v 6 4398046511104 (by decide) hacc'.out hv (by omega) (by omega)
        obtain ⟨A, hA⟩ : ∃ A, acc + v * 2 ^ (7 * 6) = A := ⟨_, rfl⟩
        have hA2 := uv_acc hacc'.out hv
        rw [hA] at hor hA2
        have hA' := Lib.hid hA
        have hA2' := Lib.hid hA2
        clear hA2 hA
        rcases Nat.lt_or_ge b.toNat 128 with h128 | h128
        · have h128I : (b.toNat : Int) < 128 := by omega
          have hres := huv'.out.trans (uvGo_done (i := 6) h128 (by omega))
          rw [hv1'.out, hA'.out] at hres
          have hres' := Lib.hid hres
          clear hres
          go_wp2_with fail
          go_ret2
          exact ⟨by rw [hres'.out]; rfl, rfl⟩
        · have h128I : ¬ (b.toNat : Int) < 128 := by omega
          have hres := huv'.out.trans (uvGo_more (i := 6) h128 (by omega))
          rw [hv1'.out, hA'.out] at hres
          have hres' := Lib.hid hres
          clear hres
          go_wp2_with fail
          go_round
          case rel => exact ⟨7, A, hlt, by omega, rfl, rfl, hA2'.out, hres'.out⟩
          case measure => simp [intOf]; omega
      · have hor : bits .or .u64 (acc : Int) ((v : Int) * 562949953421312) = ((acc + v * 2 ^ (7 * 7) : Nat) : Int) := by simpa using uvOr acc v 7 562949953421312 (by decide) hacc'.out hv (by omega) (by omega)
        obtain ⟨A, hA⟩ : ∃ A, acc + v * 2 ^ (7 * 7) = A := ⟨_, rfl⟩
        have hA2 := uv_acc hacc'.out hv
        rw [hA] at hor hA2
        have hA' := Lib.hid hA
        have hA2' := Lib.hid hA2
        clear hA2 hA
        rcases Nat.lt_or_ge b.toNat 128 with h128 | h128
        · have h128I : (b.toNat : Int) < 128 := by omega
          have hres := huv'.out.trans (uvGo_done (i := 7) h128 (by omega))
          rw [hv1'.out, hA'.out] at hres
          have hres' := Lib.hid hres
          clear hres
          go_wp2_with fail
          go_ret2
          exact ⟨by rw [hres'.out]; rfl, rfl⟩
        · have h128I : ¬ (b.toNat : Int) < 128 := by omega
          have hres := huv'.out.trans (uvGo_more (i := 7) h128 (by omega))
          rw [hv1'.out, hA'.out] at hres
          have hres' := Lib.hid hres
          clear hres
          go_wp2_with fail
          go_round
          case rel => exact ⟨8, A, hlt, by omega, rfl, rfl, hA2'.out, hres'.out⟩
          case measure => simp [intOf]; omega
      · have hor : bits .or .u64 (acc : Int) ((v : Int) * 72057594037927936) = ((acc + v * 2 ^ (7 * 8) : Nat) : Int) := by simpa using uvOr acc v 8 72057594037927936 (by decide) hacc'.out hv (by omega) (by omega)
        obtain ⟨A, hA⟩ : ∃ A, acc + v * 2 ^ (7 * 8) = A := ⟨_, rfl⟩
        have hA2 := uv_acc hacc'.out hv
        rw [hA] at hor hA2
        have hA' := Lib.hid hA
        have hA2' := Lib.hid hA2
        clear hA2 hA
        rcases Nat.lt_or_ge b.toNat 128 with h128 | h128
        · have h128I : (b.toNat : Int) < 128 := by omega
          have hres := huv'.out.trans (uvGo_done (i := 8) h128 (by omega))
          rw [hv1'.out, hA'.out] at hres
          have hres' := Lib.hid hres
          clear hres
          go_wp2_with fail
          go_ret2
          exact ⟨by rw [hres'.out]; rfl, rfl⟩
        · have h128I : ¬ (b.toNat : Int) < 128 := by omega
          have hres := huv'.out.trans (uvGo_more (i := 8) h128 (by omega))
          rw [hv1'.out, hA'.out] at hres
          have hres' := Lib.hid hres
          clear hres
          go_wp2_with fail
          go_round
          case rel => exact ⟨9, A, hlt, by omega, rfl, rfl, hA2'.out, hres'.out⟩
          case measure => simp [intOf]; omega
      · rcases Nat.lt_or_ge 1 b.toNat with h1 | h1
        · have hres := huv'.out.trans (uvGo_great h1)
          have h1I : (1 : Int) < (b.toNat : Int) := by omega
          have hres' := Lib.hid hres
          clear hres
          go_wp2_with fail
          go_ret2
          exact ⟨by rw [hres'.out]; rfl, rfl⟩
        · have h1I : ¬ (1 : Int) < (b.toNat : Int) := by omega
          have h128I : (b.toNat : Int) < 128 := by omega
          have hor : bits .or .u64 (acc : Int) ((v : Int) * 9223372036854775808) = ((acc + v * 2 ^ (7 * 9) : Nat) : Int) := by simpa using uvOr acc v 9 9223372036854775808 (by decide) hacc'.out hv (by omega) (by have := hv1'.out; omega)
          obtain ⟨A, hA⟩ : ∃ A, acc + v * 2 ^ (7 * 9) = A := ⟨_, rfl⟩
          rw [hA] at hor
          have hv9 : v ≤ 1 := by have := hv1'.out; omega
          have hres := huv'.out.trans (uvGo_done (i := 9) (by omega) (by omega))
          rw [hv1'.out, hA] at hres
          have hres' := Lib.hid hres
          have hA' := Lib.hid hA
          clear hA hres
          go_wp2_with fail
          go_ret2
          exact ⟨by rw [hres'.out]; rfl, rfl⟩
    · obtain rfl : i = l.length := by omega
      have hres : uvOf l = (0, 0) := by rw [huv, List.drop_length]; rfl
      have hltI : ¬ (l.length : Int) < (l.length : Int) := by omega
      have hres' := Lib.hid hres
      have huv' := Lib.hid huv
      have hacc' := Lib.hid hacc
      clear hacc huv hres
      go_wp2_with fail
      go_ret2
      exact ⟨by rw [hres'.out]; rfl, rfl⟩

theorem or_hi (a b k : Nat) (h : b < 2 ^ k) : a * 2 ^ k ||| b = a * 2 ^ k + b := by rw [Nat.mul_comm, ← Nat.two_pow_add_eq_or_of_lt h]
theorem be4_val (b0 b1 b2 b3 : UInt8) : bits .or .u32 (bits .or .u32 (bits .or .u32 ((b0.toNat : Int) % 4294967296 * 16777216 % 4294967296) ((b1.toNat : Int) % 4294967296 * 65536 % 4294967296)) ((b2.toNat : Int) % 4294967296 * 256 % 4294967296)) ((b3.toNat : Int) % 4294967296) = ((Lib.beNat [b0, b1, b2, b3] : Nat) : Int) := by
  have h0 : b0.toNat < 256 := b0.toNat_lt
  have h1 : b1.toNat < 256 := b1.toNat_lt
  have h2 : b2.toNat < 256 := b2.toNat_lt
  have h3 : b3.toNat < 256 := b3.toNat_lt
  have e : Lib.beNat [b0, b1, b2, b3] = ((b0.toNat * 256 + b1.toNat) * 256 + b2.toNat) * 256 + b3.toNat := by simp [Lib.beNat, Lib.beFrom]
  rw [e]
  generalize b0.toNat = x0 at *
  generalize b1.toNat = x1 at *
  generalize b2.toNat = x2 at *
  generalize b3.toNat = x3 at *
  rw [show (x0 : Int) % 4294967296 * 16777216 % 4294967296 = ((x0 * 2 ^ 24 : Nat) : Int) by omega, show (x1 : Int) % 4294967296 * 65536 % 4294967296 = ((x1 * 65536 : Nat) : Int) by omega,
    show (x2 : Int) % 4294967296 * 256 % 4294967296 = ((x2 * 256 : Nat) : Int) by omega, show (x3 : Int) % 4294967296 = (x3 : Int) by omega]
  rw [u32_or_nat _ _ (by omega) (by omega), or_hi _ _ _ (by omega), show x0 * 2 ^ 24 + x1 * 65536 = (x0 * 256 + x1) * 2 ^ 16 by omega,
    u32_or_nat _ _ (by omega) (by omega), or_hi _ _ _ (by omega), show (x0 * 256 + x1) * 2 ^ 16 + x2 * 256 = ((x0 * 256 + x1) * 256 + x2) * 2 ^ 8 by omega,
    u32_or_nat _ _ (by omega) (by omega), or_hi _ _ _ (by omega)]

set_option maxHeartbeats 2000000 in
theorem bigOf_any (b0 b1 b2 b3 : UInt8) (r : List UInt8) (w : World) :
    Calls Tryz.prog 33 #[.string ⟨(b0 :: b1 :: b2 :: b3 :: r).toArray⟩] w fun e w' => e = .returned (.int .u32 ((Lib.beNat [b0, b1, b2, b3] : Nat) : Int)) ∧ ∃ n, w' = w.drewN n := by
  have i0 : ∀ W : World, (Instr.index 9 (.string ⟨(b0 :: b1 :: b2 :: b3 :: r).toArray⟩) (.int .i64 0)).run Tryz.prog W = .ok (.int .u8 (b0.toNat : Int)) W := run_index_mk _ Tryz.underlying9 _ .i64 0 b0 rfl
  have i1 : ∀ W : World, (Instr.index 9 (.string ⟨(b0 :: b1 :: b2 :: b3 :: r).toArray⟩) (.int .i64 1)).run Tryz.prog W = .ok (.int .u8 (b1.toNat : Int)) W := run_index_mk _ Tryz.underlying9 _ .i64 1 b1 rfl
  have i2 : ∀ W : World, (Instr.index 9 (.string ⟨(b0 :: b1 :: b2 :: b3 :: r).toArray⟩) (.int .i64 2)).run Tryz.prog W = .ok (.int .u8 (b2.toNat : Int)) W := run_index_mk _ Tryz.underlying9 _ .i64 2 b2 rfl
  have i3 : ∀ W : World, (Instr.index 9 (.string ⟨(b0 :: b1 :: b2 :: b3 :: r).toArray⟩) (.int .i64 3)).run Tryz.prog W = .ok (.int .u8 (b3.toNat : Int)) W := run_index_mk _ Tryz.underlying9 _ .i64 3 b3 rfl
  go_enter Tryz.func33, Tryz.ntmps33
  go_wp2_with fail
  go_quiet (fail)
  go_wp2_with fail
  go_ret
  exact ⟨congrArg (fun v => Ending.returned (Value.int .u32 v)) (be4_val b0 b1 b2 b3), _, rfl⟩

theorem beNat_snoc (l : List UInt8) (b : UInt8) : Lib.beNat (l ++ [b]) = Lib.beNat l * 256 + b.toNat := by
  rw [Lib.beNat_eq, Lib.beNat_eq, List.reverse_append]
  simp [Lib.leNat]
  omega
theorem tsRun_step (x b : Nat) (hx : x < 72057594037927936) (hb : b < 256) : bits .or .u64 ((x : Int) * 256) (b : Int) = ((x * 256 + b : Nat) : Int) := by
  rw [show (x : Int) * 256 = ((x * 2 ^ 8 : Nat) : Int) by omega, u64_or_nat _ _ (by omega) (by omega), or_hi _ _ _ (by omega)]

set_option maxHeartbeats 4000000 in
theorem specTsOf_any (l : List UInt8) (w : World) (hl : l.length ≤ 1000000000) :
    Calls Tryz.prog 19 #[.string ⟨l.toArray⟩] w fun e w' => e = .returned (.int .u64 ((tsOf l : Nat) : Int)) ∧ Below w.heap.size w w' := by
  have hsz : (ByteArray.mk l.toArray).size = l.length := by simp [ByteArray.size]
  by_cases h8 : l.length ≤ 8
  · have hT : tsOf l = 0 := by unfold tsOf; rw [if_pos h8]
    rw [hT]
    clear hT
    go_enter Tryz.func19, Tryz.ntmps19
    go_wp2_with fail
    go_ret
    exact ⟨rfl, Below.refl _ _⟩
  · obtain ⟨r, hr⟩ : ∃ r, l.drop (l.length - 8) = r := ⟨_, rfl⟩
    have hrl : r.length = 8 := by rw [← hr, List.length_drop]; omega
    have hT : tsOf l = 18446744073709551615 - Lib.beNat r := by unfold tsOf; rw [if_neg h8, hr]
    have hsl : ∀ W : World, (Instr.slice 9 (.string ⟨l.toArray⟩) (some (.int .i64 ((l.length : Int) - 8))) none none).run Tryz.prog W = .ok (.string ⟨r.toArray⟩) W := fun W => by
      have := run_sliceFrom_mk 9 Tryz.underlying9 l .i64 (l.length - 8) (by omega) W
      rw [hr, show ((l.length - 8 : Nat) : Int) = (l.length : Int) - 8 by omega] at this
      exact this
    have hsr : (ByteArray.mk r.toArray).size = r.length := by simp [ByteArray.size]
    rw [hT]
    have hT' := Lib.hid hT
    have hr' := Lib.hid hr
    clear hr hT
    go_enter Tryz.func19, Tryz.ntmps19
    go_wp2_with (refine wpList_s2b rfl 9 22 5 _ rfl Tryz.underlying9 Tryz.underlying22 Tryz.underlying5 ⟨r.toArray⟩ rfl ?_)
    intro w1 c hb1 hs1 hbs hsc
    have hs1' := Lib.hid hs1
    have hsc' := Lib.hid hsc
    clear hsc hs1
    go_wp2_with fail
    go_loop [3, 16] (fun s3 s16 => ∃ k : Nat, k ≤ 8 ∧ s16 = .int .i64 (k : Int) ∧ s3 = .int .u64 ((Lib.beNat (r.take k) : Nat) : Int)) (fun _ s16 => 8 - (intOf s16).toNat)
    case atStart => exact ⟨0, by omega, rfl, rfl⟩
    case round =>
      obtain ⟨k, hk, rfl, rfl⟩ := hrel
      by_cases hlt : k < 8
      · have hkr : k < r.length := by omega
        have hcell := hbs k hkr
        rw [Nat.zero_add] at hcell
        have hn : Lib.beNat (r.take (k + 1)) = Lib.beNat (r.take k) * 256 + r[k].toNat := by rw [List.take_succ_eq_append_getElem hkr, beNat_snoc]
        have hx : Lib.beNat (r.take k) < 72057594037927936 := by
          have h1 := beNat_lt (r.take k)
          rw [List.length_take] at h1
          have h2 : (256 : Nat) ^ (min k r.length) ≤ 256 ^ 7 := Nat.pow_le_pow_right (by omega) (by omega)
          exact Nat.lt_of_lt_of_le h1 h2
        obtain ⟨X, hX⟩ : ∃ X, Lib.beNat (r.take k) = X := ⟨_, rfl⟩
        obtain ⟨b, hb⟩ : ∃ b, r[k] = b := ⟨_, rfl⟩
        rw [hX] at hx hn ⊢
        rw [hb] at hn hcell
        have hbl : b.toNat < 256 := b.toNat_lt
        have hst := tsRun_step X b.toNat hx hbl
        have hwb : IntKind.u64.wrap (b.toNat : Int) = (b.toNat : Int) := IntWalk.u64_in _ (by omega)
        clear hbs
        have hX' := Lib.hid hX
        have hb' := Lib.hid hb
        have hn' := Lib.hid hn
        clear hn hb hX
        go_wp2_with fail
        go_round
        case rel => exact ⟨k + 1, by omega, by go_num, by rw [hn'.out]; go_num⟩
        case measure => simp [intOf]; omega
      · obtain rfl : k = 8 := by omega
        have hx : Lib.beNat (r.take 8) < 18446744073709551616 := by
          have h1 := beNat_lt (r.take 8)
          rw [List.length_take] at h1
          have h2 : (256 : Nat) ^ (min 8 r.length) ≤ 256 ^ 8 := Nat.pow_le_pow_right (by omega) (by omega)
          exact Nat.lt_of_lt_of_le h1 h2
        have hr8 : r.take 8 = r := List.take_of_length_le (by omega)
        rw [hr8] at hx ⊢
        have hnot := u64_not (Lib.beNat r) hx
        clear hbs
        have hr8' := Lib.hid hr8
        clear hr8
        go_wp2_with fail
        go_ret
        exact ⟨rfl, hb1⟩

theorem dec_small {n : Nat} (h : n < 10) : dec n = [(48 + n).toUInt8] := by unfold dec; rw [dif_pos h]
theorem dec_big {n : Nat} (h : ¬ n < 10) : dec n = dec (n / 10) ++ [(48 + n % 10).toUInt8] := by
  conv => lhs; unfold dec
  rw [dif_neg h]
/-- What stands of a number's digits. -/
def DecRel (n y : Nat) (s : List UInt8) : Prop := if y = 0 then dec n = s else dec n = dec y ++ s
theorem DecRel.start (n : Nat) : DecRel n (n / 10) [(48 + n % 10).toUInt8] := by
  unfold DecRel
  by_cases h : n < 10
  · rw [if_pos (by omega), dec_small h, Nat.mod_eq_of_lt h]
  · rw [if_neg (by omega), dec_big h]
theorem DecRel.next {n y : Nat} {s : List UInt8} (h : DecRel n y s) (hy : 0 < y) : DecRel n (y / 10) ((48 + y % 10).toUInt8 :: s) := by
  unfold DecRel at *
  rw [if_neg (by omega)] at h
  by_cases h1 : y < 10
  · rw [if_pos (by omega), h, dec_small h1, Nat.mod_eq_of_lt h1]; rfl
  · rw [if_neg (by omega), h, dec_big h1]; simp
theorem bs_cell1 {w : World} {b : Nat} {d : UInt8} {x : Int} (hx : x = (d.toNat : Int)) (h : w.cell? ⟨b, 0, none⟩ = some (.int .u8 x)) : Bs w b 0 [d] := by
  intro j hj
  obtain rfl : j = 0 := by simpa using hj
  rw [h, hx]
  rfl
theorem DecRel.len {n y : Nat} {s : List UInt8} (h : DecRel n y s) (hn : n < 18446744073709551616) : s.length ≤ 20 := by
  have h1 := dec_len n hn
  unfold DecRel at h
  split at h
  · rwa [h] at h1
  · rw [h, List.length_append] at h1
    omega

set_option maxHeartbeats 4000000 in
theorem specDecimal_any (n : Nat) (hn : n < 18446744073709551616) (w : World) :
    Calls Tryz.prog 20 #[.int .u64 (n : Int)] w fun e w' => e = .returned (.string ⟨(dec n).toArray⟩) ∧ Below w.heap.size w w' := by
  obtain ⟨d, hd⟩ : ∃ d, (48 + n % 10).toUInt8 = d := ⟨_, rfl⟩
  have hst := DecRel.start n
  rw [hd] at hst
  have hdn : 48 + (n : Int) % 10 = (d.toNat : Int) := by rw [← hd, toU8 (by omega)]; omega
  have hd' := Lib.hid hd
  have hst' := Lib.hid hst
  have hdn' := Lib.hid hdn
  clear hdn hst hd
  go_enter Tryz.func20, Tryz.ntmps20
  go_wp2_with (refine wpList_b2s rfl 22 9 5 (.tmp 8) rfl Tryz.underlying22 Tryz.underlying5 Tryz.underlying9 w.heap.size 0 1 1 rfl [d] rfl (bs_cell1 hdn'.out (by simp)) ?_)
  go_loopw [0, 3] (fun s0 s3 wx => ∃ (y : Nat) (s : List UInt8), s0 = .int .u64 (y : Int) ∧ s3 = .string ⟨s.toArray⟩ ∧ y ≤ n ∧ DecRel n y s ∧ Below w.heap.size w wx) (fun s0 _ _ => (intOf s0).toNat)
  case atStart => exact ⟨n / 10, [d], by go_num, rfl, by omega, hst'.out, (Below.refl _ _).alloc (Nat.le_refl _) _⟩
  case round =>
    obtain ⟨y, s, rfl, rfl, hy, hrel, hbl⟩ := hrel
    have hsz : (ByteArray.mk s.toArray).size = s.length := by simp [ByteArray.size]
    by_cases hy0 : 0 < y
    · have hyI : (0 : Int) < (y : Int) := by omega
      obtain ⟨d2, hd2⟩ : ∃ d, (48 + y % 10).toUInt8 = d := ⟨_, rfl⟩
      have hnx := hrel.next hy0
      rw [hd2] at hnx
      have hdn2 : 48 + (y : Int) % 10 = (d2.toNat : Int) := by rw [← hd2, toU8 (by omega)]; omega
      have hsl := hrel.len hn
      have hsum : ¬ 9223372036854775807 < 1 + s.length := by omega
      have hnx' := Lib.hid hnx
      have hbl' := Lib.hid hbl
      have hrel' := Lib.hid hrel
      have hd2' := Lib.hid hd2
      have hdn2' := Lib.hid hdn2
      clear hdn2 hd2 hrel hbl hnx
      go_wp2_with (refine wpList_b2s rfl 22 9 5 (.tmp 20) rfl Tryz.underlying22 Tryz.underlying5 Tryz.underlying9 wr.heap.size 0 1 1 rfl [d2] rfl (bs_cell1 hdn2'.out (by simp)) ?_)
      go_roundw
      case rel => exact ⟨y / 10, d2 :: s, by go_num, congrArg Value.string (ByteArray.mk_append_mk [d2] s), by omega, hnx'.out, hbl'.out.alloc hbl'.out.size _⟩
      case measure => simp [intOf]; omega
    · obtain rfl : y = 0 := by omega
      have he : dec n = s := by
        unfold DecRel at hrel
        rwa [if_pos rfl] at hrel
      have he' := Lib.hid he
      have hbl' := Lib.hid hbl
      have hrel' := Lib.hid hrel
      clear hrel hbl he
      go_wp2_with fail
      go_ret
      exact ⟨(congrArg (fun l : List UInt8 => Ending.returned (Value.string ⟨l.toArray⟩)) he'.out).symm, hbl'.out⟩
end Go.Proofs.YtpndlcjilgcfkaaGreatDoor
