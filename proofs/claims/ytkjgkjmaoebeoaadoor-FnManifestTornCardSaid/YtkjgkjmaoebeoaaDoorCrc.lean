/-
  Contracts of the checksum: zz.CRC.Write, zz.Checksum, impl.Checksum, spec.CRC32C.
-/
import Derived.Test.YtkjgkjmaoebeoaaDoorRows
import Derived.Test.YtkjgkjmaoebeoaaDoorMem
import Derived.Test.YtkjgkjmaoebeoaaDoorBits
import Derived.Test.YtkjgkjmaoebeoaaDoorCrcMath
namespace Go.Proofs.YtkjgkjmaoebeoaaDoor
open Go Go.RowKit
open Go.Proofs

theorem u32_xor_poly (y : Nat) (h : y < 4294967296) : bits .xor .u32 ((y : Int) / 2) 2197175160 = ((y / 2 ^^^ 2197175160 : Nat) : Int) := by
  have := u32_xor_nat (y / 2) 2197175160 (by omega) (by omega)
  rw [← this]
  congr 1
theorem u32_and_one (y : Nat) (h : y < 4294967296) : bits .and .u32 (y : Int) 1 = ((y % 2 : Nat) : Int) := by
  have := u32_and_nat y 1 h (by omega)
  rw [nat_mask1] at this
  exact this

set_option maxHeartbeats 2000000 in
set_option maxRecDepth 10000 in
/-- (*CRC).Write: the sum goes on over the bytes. -/
theorem crcWrite_any (bp x : Nat) (A : Option Addr) (n c : Nat) (l : List UInt8) (w : World) (hp : Bk w bp 123 #[.int .u32 (x : Int)]) (hx : x < 4294967296) (hs : Src w A n l) (hn : n ≤ 4294967296) :
    Calls Tryd.prog 45 #[.pointer (some ⟨bp, 0, none⟩), .slice A n c] w fun e w' => e = .returned (.tuple #[.int .i64 (n : Int), .nilIface]) ∧
      Bk w' bp 123 #[.int .u32 (crcMore x l : Nat)] ∧ w.grownBy w' (some bp) := by
  obtain ⟨rfl, hsrc⟩ := hs
  have c0 := hp.cell 0
  have f0 := hp.free 0
  simp at c0
  have hsg : IntKind.u32.signed = false := rfl
  have hnot := u32_not x hx
  have hp' := Lib.hid hp
  clear hp
  go_enter Tryd.func45, Tryd.ntmps45
  go_wp2_with fail
  have hz : 4294967295 - x < 4294967296 := by omega
  obtain ⟨z, hzz⟩ : ∃ z, z = 4294967295 - x := ⟨_, rfl⟩
  rw [← hzz] at hz ⊢
  have hzz' := Lib.hid hzz
  clear hnot hzz
  go_loop [6, 17] (fun s i => ∃ k : Nat, k ≤ l.length ∧ i = .int .i64 k ∧ s = .int .u32 (crcRun z (l.take k) : Nat)) (fun _ i => l.length - (intOf i).toNat)
  case atStart => exact ⟨0, Nat.zero_le _, rfl, rfl⟩
  case round =>
    obtain ⟨k, hk, rfl, rfl⟩ := hrel
    have hy := crcRun_lt (l.take k) z hz
    by_cases hlt : k < l.length
    · obtain ⟨b, o, rfl, hbs⟩ := hsrc (by omega)
      have hcell := hbs k hlt
      have hT := Lib.hid (crcRun_take z l k hlt)
      obtain ⟨y, hyy⟩ : ∃ y, y = crcRun z (l.take k) := ⟨_, rfl⟩
      rw [← hyy] at hy ⊢
      have hyy' := Lib.hid hyy
      clear hyy hsrc hbs
      obtain ⟨v, hv⟩ : ∃ v, v = l[k] := ⟨_, rfl⟩
      rw [← hv] at hcell
      have hv' := Lib.hid hv
      clear hv
      have hvl := v.toNat_lt
      have hxor := u32_xor_nat y v.toNat hy (by omega)
      have hy0 := crcXor_lt y v hy
      go_wp2_with fail
      obtain ⟨s0, hs0⟩ : ∃ s0, s0 = y ^^^ v.toNat := ⟨_, rfl⟩
      rw [← hs0] at hy0 ⊢
      have hs0' := Lib.hid hs0
      clear hs0 hxor
      go_loop [6, 9] (fun s j => ∃ q : Nat, q ≤ 8 ∧ j = .int .i64 q ∧ s = .int .u32 (crcBits q s0 : Nat)) (fun _ j => 8 - (intOf j).toNat)
      case atStart => exact ⟨0, by omega, rfl, rfl⟩
      case round =>
        obtain ⟨q, hq, rfl, rfl⟩ := hrel
        have ht := crcBits_lt q s0 hy0
        have hB : crcBits (q + 1) s0 = crcBit (crcBits q s0) := rfl
        obtain ⟨t, htt⟩ : ∃ t, t = crcBits q s0 := ⟨_, rfl⟩
        rw [← htt] at ht hB ⊢
        have htt' := Lib.hid htt
        have hB' := Lib.hid hB
        clear htt hB
        have hand := u32_and_one t ht
        have hpoly := u32_xor_poly t ht
        by_cases hq8 : q < 8
        · by_cases hodd : t % 2 = 1
          · have hbit : crcBit t = t / 2 ^^^ 2197175160 := by unfold crcBit; rw [if_pos hodd]
            have hbit' := Lib.hid hbit
            clear hbit
            go_wp2_with fail
            go_round
            case rel => exact ⟨q + 1, by omega, by go_num, by rw [hB'.out, hbit'.out]⟩
            case measure => simp [intOf]; omega
          · have hbit : crcBit t = t / 2 := by unfold crcBit; rw [if_neg hodd]
            have hbit' := Lib.hid hbit
            clear hbit
            go_wp2_with fail
            go_round
            case rel => exact ⟨q + 1, by omega, by go_num, by rw [hB'.out, hbit'.out]; go_num⟩
            case measure => simp [intOf]; omega
        · obtain rfl : q = 8 := by omega
          go_wp2_with fail
          go_round
          case rel => exact ⟨k + 1, by omega, by go_num, by rw [hT.out, ← hv'.out, ← hyy'.out]; show _ = Value.int IntKind.u32 ((crcBits 8 (y ^^^ v.toNat) : Nat) : Int); rw [← hs0'.out, ← htt'.out]⟩
          case measure => simp [intOf]; omega
    · obtain rfl : k = l.length := by omega
      have hT := Lib.hid (List.take_length (l := l))
      obtain ⟨y, hyy⟩ : ∃ y, y = crcRun z (l.take l.length) := ⟨_, rfl⟩
      rw [← hyy] at hy ⊢
      have hyy' := Lib.hid hyy
      clear hyy
      have hnot := u32_not y hy
      go_wp2_with fail
      go_ret2
      have e : crcMore x l = 4294967295 - y := by
        unfold crcMore
        rw [hyy'.out, hT.out, hzz'.out]
      refine ⟨rfl, ?_, grown_setCell (World.grownBy.refl w _) (.inl rfl) _⟩
      rw [e]
      exact hp'.out.set 0 _

set_option maxHeartbeats 1000000 in
theorem zzChecksum_any (A : Option Addr) (n c : Nat) (l : List UInt8) (w : World) (hs : Src w A n l) (hn : n ≤ 4294967296) :
    Calls Tryd.prog 36 #[.slice A n c] w fun e w' => e = .returned (.int .u32 (crc32 l : Nat)) ∧ Below w.heap.size w w' := by
  go_enter Tryd.func36, Tryd.ntmps36
  go_wp2_with fail
  refine (crcWrite_any w.heap.size 0 A n c l _ (Bk.at_ _ _ _ _ rfl) (by omega) (hs.alloc _) hn).mono ?_
  rintro e w1 ⟨rfl, hp, hg⟩
  have hbl := below_own ((Below.refl w.heap.size w).alloc (Nat.le_refl _) _) (by simp) hg (Nat.le_refl _)
  have c0 := hp.cell 0
  simp at c0
  clear hp
  go_wp2_with fail
  go_ret
  exact ⟨rfl, hbl⟩

set_option maxHeartbeats 2000000 in
theorem specCrc_any (l : List UInt8) (w : World) (hn : l.length ≤ 4294967296) :
    Calls Tryd.prog 16 #[.string ⟨l.toArray⟩] w fun e w' => e = .returned (.int .u32 (crc32 l : Nat)) ∧ Below w.heap.size w w' := by
  have hsg : IntKind.u32.signed = false := rfl
  go_enter Tryd.func16, Tryd.ntmps16
  go_wp2_with (refine wpList_s2b rfl 9 42 5 _ rfl Tryd.underlying9 Tryd.underlying42 Tryd.underlying5 ⟨l.toArray⟩ rfl ?_)
  intro w1 c hb1 hs1 hbs hsc
  have hs1' := Lib.hid hs1
  clear hs1
  go_wp2_with fail
  obtain ⟨z, hzz⟩ : ∃ z, z = 4294967295 := ⟨_, rfl⟩
  have hz : z < 4294967296 := by omega
  go_loop [3, 11] (fun s i => ∃ k : Nat, k ≤ l.length ∧ i = .int .i64 k ∧ s = .int .u32 (crcRun z (l.take k) : Nat)) (fun _ i => l.length - (intOf i).toNat)
  case atStart => exact ⟨0, Nat.zero_le _, rfl, by rw [hzz]; rfl⟩
  case round =>
    have hzz' := Lib.hid hzz
    clear hzz
    obtain ⟨k, hk, rfl, rfl⟩ := hrel
    have hy := crcRun_lt (l.take k) z hz
    by_cases hlt : k < l.length
    · have hcell := hbs k hlt
      rw [Nat.zero_add] at hcell
      have hT := Lib.hid (crcRun_take z l k hlt)
      obtain ⟨y, hyy⟩ : ∃ y, y = crcRun z (l.take k) := ⟨_, rfl⟩
      rw [← hyy] at hy ⊢
      have hyy' := Lib.hid hyy
      clear hyy hbs
      obtain ⟨v, hv⟩ : ∃ v, v = l[k] := ⟨_, rfl⟩
      rw [← hv] at hcell
      have hv' := Lib.hid hv
      clear hv
      have hvl := v.toNat_lt
      have hxor := u32_xor_nat y v.toNat hy (by omega)
      have hy0 := crcXor_lt y v hy
      go_wp2_with fail
      obtain ⟨s0, hs0⟩ : ∃ s0, s0 = y ^^^ v.toNat := ⟨_, rfl⟩
      rw [← hs0] at hy0 ⊢
      have hs0' := Lib.hid hs0
      clear hs0 hxor
      go_loop [3, 6] (fun s j => ∃ q : Nat, q ≤ 8 ∧ j = .int .i64 q ∧ s = .int .u32 (crcBits q s0 : Nat)) (fun _ j => 8 - (intOf j).toNat)
      case atStart => exact ⟨0, by omega, rfl, rfl⟩
      case round =>
        obtain ⟨q, hq, rfl, rfl⟩ := hrel
        have ht := crcBits_lt q s0 hy0
        have hB : crcBits (q + 1) s0 = crcBit (crcBits q s0) := rfl
        obtain ⟨t, htt⟩ : ∃ t, t = crcBits q s0 := ⟨_, rfl⟩
        rw [← htt] at ht hB ⊢
        have htt' := Lib.hid htt
        have hB' := Lib.hid hB
        clear htt hB
        have hand := u32_and_one t ht
        have hpoly := u32_xor_poly t ht
        by_cases hq8 : q < 8
        · by_cases hodd : t % 2 = 1
          · have hbit : crcBit t = t / 2 ^^^ 2197175160 := by unfold crcBit; rw [if_pos hodd]
            have hbit' := Lib.hid hbit
            clear hbit
            go_wp2_with fail
            go_round
            case rel => exact ⟨q + 1, by omega, by go_num, by rw [hB'.out, hbit'.out]⟩
            case measure => simp [intOf]; omega
          · have hbit : crcBit t = t / 2 := by unfold crcBit; rw [if_neg hodd]
            have hbit' := Lib.hid hbit
            clear hbit
            go_wp2_with fail
            go_round
            case rel => exact ⟨q + 1, by omega, by go_num, by rw [hB'.out, hbit'.out]; go_num⟩
            case measure => simp [intOf]; omega
        · obtain rfl : q = 8 := by omega
          go_wp2_with fail
          go_round
          case rel => exact ⟨k + 1, by omega, by go_num, by rw [hT.out, ← hv'.out, ← hyy'.out]; show _ = Value.int IntKind.u32 ((crcBits 8 (y ^^^ v.toNat) : Nat) : Int); rw [← hs0'.out, ← htt'.out]⟩
          case measure => simp [intOf]; omega
    · obtain rfl : k = l.length := by omega
      have hT := Lib.hid (List.take_length (l := l))
      obtain ⟨y, hyy⟩ : ∃ y, y = crcRun z (l.take l.length) := ⟨_, rfl⟩
      rw [← hyy] at hy ⊢
      have hyy' := Lib.hid hyy
      clear hyy
      have hnot := u32_not y hy
      go_wp2_with fail
      go_ret
      have e : crc32 l = 4294967295 - y := by
        unfold crc32
        rw [hyy'.out, hT.out, hzz'.out]
      refine ⟨by rw [e]; rfl, hb1⟩
end Go.Proofs.YtkjgkjmaoebeoaaDoor
