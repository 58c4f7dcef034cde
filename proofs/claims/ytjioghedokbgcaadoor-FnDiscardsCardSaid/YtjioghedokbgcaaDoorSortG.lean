/-
  sort.Sort over a relation: breakPatterns and what it asks: xorshift.Next, bits.Len, nextPowerOfTwo.
-/
import Derived.Test.YtjioghedokbgcaaDoorSortC
import Derived.Sort.LotD5
import Derived.Laws.Bits64
import Derived.Laws.Bits64b
import Derived.Deep.DeepCutAuto
import Derived.Deep.CutBlock
import Derived.RegionTactic
namespace Go.Proofs.YtjioghedokbgcaaDoor
open Go Go.RowKit
open Go.Proofs
open Go.Sort (swp xorNextN xorNextN_lt xorNext_toNat bitsLen bitsLen_le_iff two_pow_bitsLen_le breakStep xorNext)


set_option maxHeartbeats 2000000 in
set_option maxRecDepth 20000 in
theorem xorNext_any (rb X : Nat) (hX : X < 18446744073709551616) (w : World) (hB : Bk w rb 118 #[.int .u64 (X : Int)]) (S : World → Prop) (hS : S w) (hd : ∀ W, S W → S W.drew) (hs : ∀ W v, S W → S (W.setCell ⟨rb, 0, none⟩ v)) :
    Calls Tryd.prog 52 #[.pointer (some ⟨rb, 0, none⟩)] w fun e w' => e = .returned (.int .u64 (xorNextN X : Nat)) ∧ Bk w' rb 118 #[.int .u64 (xorNextN X : Nat)] ∧ S w' := by
  obtain ⟨A, hA⟩ : ∃ A : Nat, A = X ^^^ (X * 8192 % 18446744073709551616) := ⟨_, rfl⟩
  obtain ⟨B, hBB⟩ : ∃ B : Nat, B = A ^^^ (A / 128) := ⟨_, rfl⟩
  obtain ⟨C, hC⟩ : ∃ C : Nat, C = B ^^^ (B * 131072 % 18446744073709551616) := ⟨_, rfl⟩
  have lA : A < 18446744073709551616 := by rw [hA]; exact Nat.xor_lt_two_pow (n := 64) (by omega) (by omega)
  have lB : B < 18446744073709551616 := by rw [hBB]; exact Nat.xor_lt_two_pow (n := 64) (by omega) (by omega)
  have e1 : bits .xor .u64 (X : Int) (IntKind.u64.wrap ((X : Int) * 8192)) = (A : Int) := by
    rw [IntKind.wrap_u64, show ((X : Int) * 8192 % 18446744073709551616) = ((X * 8192 % 18446744073709551616 : Nat) : Int) by omega, bits_xor_u64_nat _ _ hX (by omega), hA]
  have e2 : bits .xor .u64 (A : Int) ((A : Int) / 128) = (B : Int) := by
    rw [show ((A : Int) / 128) = ((A / 128 : Nat) : Int) by omega, bits_xor_u64_nat _ _ lA (by omega), hBB]
  have e3 : bits .xor .u64 (B : Int) (IntKind.u64.wrap ((B : Int) * 131072)) = (C : Int) := by
    rw [IntKind.wrap_u64, show ((B : Int) * 131072 % 18446744073709551616) = ((B * 131072 % 18446744073709551616 : Nat) : Int) by omega, bits_xor_u64_nat _ _ lB (by omega), hC]
  have hv : xorNextN X = C := by unfold xorNextN; simp only []; rw [← hA, ← hBB, ← hC]
  rw [hv]
  clear hA hBB hC hv
  have c0 := hB.cell 0
  have f0 := hB.free 0
  simp at c0
  have hB' := Lib.hid hB
  have hS' := Lib.hid hS
  clear hS hB
  go_enter Tryd.func52, Tryd.ntmps52
  go_wp2_with fail
  go_cut [] (fun wx => Bk wx rb 118 #[.int .u64 (A : Int)] ∧ S wx)
  case first =>
    go_region
    all_goals
      go_wp2_with fail
      go_meet
      exact ⟨by first | exact hB'.out.set 0 (.int .u64 (A : Int)) | exact hB'.out.drew.set 0 (.int .u64 (A : Int)), by repeat (first | exact hS'.out | refine hd _ ?_ | refine hs _ _ ?_)⟩
  case rest =>
    obtain ⟨hB1, hS1⟩ := hcut
    clear c0 f0
    have c0 := hB1.cell 0
    have f0 := hB1.free 0
    simp at c0
    have hB1' := Lib.hid hB1
    have hS1' := Lib.hid hS1
    clear hS1 hB1
    go_upto_region 2 with fail
    go_cut [] (fun wx => Bk wx rb 118 #[.int .u64 (B : Int)] ∧ S wx)
    case first =>
      go_region
      all_goals
        go_wp2_with fail
        go_meet
        exact ⟨by first | exact hB1'.out.set 0 (.int .u64 (B : Int)) | exact hB1'.out.drew.set 0 (.int .u64 (B : Int)), by repeat (first | exact hS1'.out | refine hd _ ?_ | refine hs _ _ ?_)⟩
    case rest =>
      obtain ⟨hB2, hS2⟩ := hcut
      clear c0 f0
      have c0 := hB2.cell 0
      have f0 := hB2.free 0
      simp at c0
      have hB2' := Lib.hid hB2
      have hS2' := Lib.hid hS2
      clear hS2 hB2
      go_upto_region 3 with fail
      go_cut [] (fun wx => Bk wx rb 118 #[.int .u64 (C : Int)] ∧ S wx)
      case first =>
        go_region
        all_goals
          go_wp2_with fail
          go_meet
          exact ⟨by first | exact hB2'.out.set 0 (.int .u64 (C : Int)) | exact hB2'.out.drew.set 0 (.int .u64 (C : Int)), by repeat (first | exact hS2'.out | refine hd _ ?_ | refine hs _ _ ?_)⟩
      case rest =>
        obtain ⟨hB3, hS3⟩ := hcut
        clear c0 f0
        have c0 := hB3.cell 0
        simp at c0
        have hB3' := Lib.hid hB3
        have hS3' := Lib.hid hS3
        clear hS3 hB3
        go_wp2_with fail
        go_ret
        exact ⟨rfl, hB3'.out, hS3'.out⟩

theorem wrap_two_pow_ (k : Nat) (hk : k ≤ 62) : IntKind.u64.wrap ((2 : Int) ^ k) = ((1 <<< k : Nat) : Int) := by
  have h : (2 : Nat) ^ k ≤ 2 ^ 62 := Nat.pow_le_pow_right (by decide) hk
  rw [IntKind.wrap_u64, Nat.one_shiftLeft, show ((2 : Int) ^ k) = ((2 ^ k : Nat) : Int) by push_cast; rfl]
  generalize (2 : Nat) ^ k = p at h
  omega

set_option maxHeartbeats 2000000 in
set_option maxRecDepth 20000 in
theorem len64_any (x : Nat) (hx : x < 256) (w : World) : Calls Tryd.prog 39 #[.int .u64 (x : Int)] w fun e w' => e = .returned (.int .i64 (bitsLen x : Nat)) ∧ w' = w := by
  have h1 : ¬ (4294967296 : Int) ≤ (x : Int) := by omega
  have h2 : ¬ (65536 : Int) ≤ (x : Int) := by omega
  have h3 : ¬ (256 : Int) ≤ (x : Int) := by omega
  have wx : IntKind.u8.wrap (x : Int) = (x : Int) := by rw [IntKind.wrap_u8]; omega
  go_enter Tryd.func39, Tryd.ntmps39
  go_wp2_with fail
  go_ret
  refine ⟨congrArg (fun z => Ending.returned (Value.int .i64 z)) ?_, rfl⟩
  simp only [← getElem!_pos]
  clear h1 h2 h3 wx
  revert x
  decide +kernel

theorem bitsLen_any (x : Nat) (hx : x < 256) (w : World) : Calls Tryd.prog 30 #[.int .u64 (x : Int)] w fun e w' => e = .returned (.int .i64 (bitsLen x : Nat)) ∧ w' = w := by
  have hcall := fun W => len64_any x hx W
  go_enter Tryd.func30, Tryd.ntmps30
  go_wp2_with fail
  refine (hcall _).mono ?_
  rintro e w' ⟨rfl, rfl⟩
  go_wp2_with fail
  go_ret
  exact ⟨rfl, rfl⟩

theorem nextPow_any (x : Nat) (hx : x < 256) (w : World) : Calls Tryd.prog 51 #[.int .i64 (x : Int)] w fun e w' => e = .returned (.int .u64 ((1 <<< bitsLen x : Nat) : Int)) ∧ w' = w := by
  have hcall := fun W => bitsLen_any x hx W
  have hk : bitsLen x ≤ 62 := (bitsLen_le_iff x 62).2 (Nat.lt_of_lt_of_le hx (by decide))
  have hp := wrap_two_pow_ (bitsLen x) hk
  obtain ⟨k, hkk⟩ : ∃ k, bitsLen x = k := ⟨_, rfl⟩
  simp only [hkk] at hcall
  rw [hkk] at hk hp
  rw [hkk]
  clear hkk
  have wx : IntKind.u64.wrap (x : Int) = (x : Int) := IntWalk.u64_in _ (by omega)
  have wk : IntKind.u64.wrap (k : Int) = (k : Int) := IntWalk.u64_in _ (by omega)
  go_enter Tryd.func51, Tryd.ntmps51
  go_wp2_with fail
  refine (hcall _).mono ?_
  rintro e w' ⟨rfl, rfl⟩
  go_wp2_with fail
  go_ret
  exact ⟨rfl, rfl⟩

section
variable {α : Type} [Inhabited α]
/-- So many rounds are left; t have been made. -/
def bpRest_ (a L M i0 : Nat) : Nat → Nat → UInt64 × Array α → Array α
  | 0, _, st => st.2
  | k + 1, t, st => bpRest_ a L M i0 k (t + 1) (breakStep a L M st (i0 + t))
theorem breakPatterns_eq_ (d : Array α) (a L : Nat) (h8 : 8 ≤ L) : Sort.breakPatterns d a (a + L) = bpRest_ a L (1 <<< bitsLen L) (a + L / 4 * 2 - 1) 3 0 (UInt64.ofNat L, d) := by
  unfold Sort.breakPatterns
  simp only [Nat.add_sub_cancel_left]
  rw [if_pos h8]
  rfl
theorem bp_step_ (a L M i0 t : Nat) (r : UInt64) (d : Array α) (o : Nat) (ht : t < 3) (ho : (if (xorNext r).toNat &&& (M - 1) ≥ L then ((xorNext r).toNat &&& (M - 1)) - L else (xorNext r).toNat &&& (M - 1)) = o) :
    bpRest_ a L M i0 (3 - t) t (r, d) = bpRest_ a L M i0 (3 - (t + 1)) (t + 1) (xorNext r, swp d (i0 + t) (a + o)) := by
  rw [show 3 - t = (3 - (t + 1)) + 1 by omega, bpRest_]
  unfold breakStep
  simp only [ho]
end

variable {α : Type} [Inhabited α] {rv : Addr} {lt : α → α → Bool} {n base : Nat} {R : World → Array α → Prop}

theorem wrapS (x : Nat) (e : Int) (h : e = (x : Int)) (hx : x ≤ 4611686018427387904) : IntKind.i64.wrap e = (x : Int) := by subst h; exact IntWalk.i64_in _ (by omega)
theorem wrapU (x : Nat) (e : Int) (h : e = (x : Int)) (hx : x < 18446744073709551616) : IntKind.u64.wrap e = (x : Int) := by subst h; exact IntWalk.u64_in _ (by omega)

theorem bp_nums (a b L q s i0 z n : Nat) (hn : n ≤ 4611686018427387904) (hb : b ≤ n) (hbb : a + L = b) (hq : L / 4 = q) (hs : a + q * 2 = s) (h8 : 8 ≤ L) (hi : s - 1 = i0) (hz : i0 + 2 = z) :
    IntKind.i64.wrap ((b : Int) - (a : Int)) = (L : Int) ∧ IntKind.u64.wrap (L : Int) = (L : Int) ∧ (L : Int).tdiv 4 = (q : Int) ∧ IntKind.i64.wrap (q : Int) = (q : Int) ∧ IntKind.i64.wrap ((q : Int) * 2) = (q : Int) * 2 ∧ wrap64 (q : Int) = (q : Int) ∧ wrap64 ((q : Int) * 2) = (q : Int) * 2 ∧
    IntKind.i64.wrap ((a : Int) + (q : Int) * 2) = (s : Int) ∧ wrap64 ((a : Int) + (q : Int) * 2) = (s : Int) ∧ IntKind.i64.wrap ((s : Int) - 1) = (i0 : Int) ∧ wrap64 ((s : Int) - 1) = (i0 : Int) ∧ IntKind.i64.wrap ((s : Int) + 1) = (z : Int) ∧ wrap64 ((s : Int) + 1) = (z : Int) := by
  have g : ∀ x : Nat, x ≤ n → IntKind.i64.wrap (x : Int) = (x : Int) := fun x hx => IntWalk.i64_in _ (by omega)
  have g' : ∀ x : Nat, x ≤ n → wrap64 (x : Int) = (x : Int) := fun x hx => by unfold wrap64; omega
  have gL : IntKind.u64.wrap (L : Int) = (L : Int) := IntWalk.u64_in _ (by omega)
  have e1 : (b : Int) - (a : Int) = (L : Int) := by omega
  have e3 : (a : Int) + (q : Int) * 2 = (s : Int) := by omega
  have e4 : (s : Int) - 1 = (i0 : Int) := by omega
  have e5 : (s : Int) + 1 = (z : Int) := by omega
  have eq : (L : Int).tdiv 4 = (q : Int) := by rw [Int.tdiv_eq_ediv_of_nonneg (by omega)]; omega
  have bL : L ≤ n := by omega
  have bs : s ≤ n := by omega
  have bi : i0 ≤ n := by omega
  have bi2 : z ≤ n := by omega
  have bq : q * 2 ≤ n := by omega
  rw [e1, e3, e4, e5]
  have g2 := g (q * 2) bq
  have g2' := g' (q * 2) bq
  rw [Int.natCast_mul] at g2 g2'
  exact ⟨g L bL, gL, eq, g q (by omega), g2, g' q (by omega), g2', g s bs, g' s bs, g i0 bi, g' i0 bi, g z bi2, g' z bi2⟩

set_option maxHeartbeats 4000000 in
set_option maxRecDepth 20000 in
theorem breakPatterns_go_ (E : SortEnv rv lt n base R) (a L : Nat) (d : Array α) (w : World) (hR : R w d) (hd : d.size = n) (hb : a + L ≤ n) (hn8 : n < 256) (h8 : 8 ≤ L) :
    Calls Tryd.prog 42 #[.iface 38 (.pointer (some rv)), .int .i64 (a : Int), .int .i64 ((a + L : Nat) : Int)] w fun e w' => e = .returned (.tuple #[]) ∧ R w' (Sort.breakPatterns d a (a + L)) := by
  rw [breakPatterns_eq_ d a L h8]
  have hn := E.small
  obtain ⟨M, hM⟩ : ∃ M : Nat, M = 1 <<< bitsLen L := ⟨_, rfl⟩
  have hM1 : 1 ≤ M := by rw [hM, Nat.one_shiftLeft]; exact Nat.two_pow_pos _
  have hM2 : M ≤ 2 * L := by rw [hM, Nat.one_shiftLeft]; exact two_pow_bitsLen_le (by omega)
  have hNP : ∀ w, Calls Tryd.prog 51 #[.int .i64 (L : Int)] w fun e w' => e = .returned (.int .u64 (M : Int)) ∧ w' = w := by rw [hM]; exact fun w => nextPow_any L (by omega) w
  rw [← hM]
  clear hM
  obtain ⟨b, hbb⟩ : ∃ b, a + L = b := ⟨_, rfl⟩
  obtain ⟨q, hq⟩ : ∃ q, L / 4 = q := ⟨_, rfl⟩
  obtain ⟨s, hs⟩ : ∃ s, a + q * 2 = s := ⟨_, rfl⟩
  obtain ⟨i0, hi0⟩ : ∃ i, s - 1 = i := ⟨_, rfl⟩
  obtain ⟨z, hz⟩ : ∃ z, i0 + 2 = z := ⟨_, rfl⟩
  rw [hq, hs, hi0]
  obtain ⟨r0, hr0⟩ : ∃ r, bpRest_ a L M i0 3 0 (UInt64.ofNat L, d) = r := ⟨_, rfl⟩
  rw [hr0]
  rw [hbb]
  have hLr : (UInt64.ofNat L).toNat = L := by simp; omega
  have i1 : i0 + 2 < b := by omega
  have i2 : a ≤ i0 := by omega
  have L8 : (8 : Int) ≤ (L : Int) := by omega
  have sI : s + 1 = i0 + 2 := by omega
  have hR' := Lib.hid hR
  have hNP' := fun W => Lib.hid (hNP W)
  have hnums := Lib.hid (bp_nums a b L q s i0 z n (Nat.le_of_lt hn) (by rw [← hbb]; exact hb) hbb hq hs h8 hi0 hz)
  clear hR hNP
  have hr0' := Lib.hid hr0
  have hq' := Lib.hid hq
  have hs' := Lib.hid hs
  have hi0' := Lib.hid hi0
  have hbb' := Lib.hid hbb
  clear hbb hi0 hs hq hr0
  go_enter Tryd.func42, Tryd.ntmps42
  obtain ⟨wl, wL, eq, u1, u2, v1, v2, u3, v3, u4, v4, u5, v5⟩ := hnums.out
  go_upto_block 0 with (go_at_call 51; refine (hNP' _).out.mono ?_; rintro e w' ⟨rfl, rfl⟩)
  go_wp2_with fail
  clear wl wL eq u1 u2 v1 v2 u3 v3 u4 v4 u5 v5
  go_loopw [9] (fun vi wx => ∃ (t : Nat) (r : UInt64) (dk : Array α), vi = .int .i64 ((i0 + t : Nat) : Int) ∧ t ≤ 3 ∧ dk.size = n ∧ R wx dk ∧ Bk wx w.heap.size 118 #[.int .u64 (r.toNat : Int)] ∧ bpRest_ a L M i0 (3 - t) t (r, dk) = r0) (fun vi _ => i0 + 4 - (intOf vi).toNat)
  case atStart => exact ⟨0, UInt64.ofNat L, d, rfl, by omega, hd, E.alloc _ _ _ hR'.out, by rw [hLr]; exact Bk.at_ _ _ _ _ rfl, hr0'.out⟩
  case round =>
    obtain ⟨t, r, dk, rfl, ht, hds, hRk, hBr, hrest⟩ := hrel
    by_cases ht3 : t < 3
    · obtain ⟨X, hX⟩ : ∃ X, i0 + t = X := ⟨_, rfl⟩
      rw [hX]
      have hbn := hbb'.out
      have hXn : X < n := by omega
      have hXI : (X : Int) ≤ (z : Int) := by omega
      have hX1 : i0 + (t + 1) = X + 1 := by omega
      have ht1 : t + 1 ≤ 3 := by omega
      have hXm : i0 + 4 - (X + 1) < i0 + 4 - X := by omega
      have hXs : X + 1 ≤ n := by omega
      have hbase := E.size _ _ hR'.out
      have hnext := xorNext_any w.heap.size r.toNat r.toNat_lt wr hBr (fun W => R W dk) hRk (fun W h => E.drew W dk h) (fun W v h => E.store W dk ⟨w.heap.size, 0, none⟩ v h hbase)
      obtain ⟨O, hO⟩ : ∃ O : Nat, O = xorNextN r.toNat &&& (M - 1) := ⟨_, rfl⟩
      have lO : O ≤ M - 1 := by rw [hO]; exact Nat.and_le_right
      have lN := xorNextN_lt r.toNat r.toNat_lt
      obtain ⟨N, hN⟩ : ∃ N, xorNextN r.toNat = N := ⟨_, rfl⟩
      have hN2 : (xorNext r).toNat = N := by rw [xorNext_toNat, hN]
      rw [hN] at hnext hO lN
      obtain ⟨M1, hM1'⟩ : ∃ x, M - 1 = x := ⟨_, rfl⟩
      have hMI : (M : Int) - 1 = (M1 : Int) := by omega
      have hM1n : M1 < 18446744073709551616 := by omega
      have hOs : O ≤ 1000 := by omega
      have eAnd : bits .and .u64 (N : Int) (M1 : Int) = (O : Int) := by rw [bits_and_u64_nat _ _ lN hM1n, hO, hM1']
      by_cases hLO : L ≤ O
      · have hLOI : (L : Int) ≤ (O : Int) := by omega
        obtain ⟨p, hp⟩ : ∃ p, O - L = p := ⟨_, rfl⟩
        obtain ⟨y, hy⟩ : ∃ y, a + p = y := ⟨_, rfl⟩
        have hpI : (O : Int) - (L : Int) = (p : Int) := by omega
        have hyI : (a : Int) + (p : Int) = (y : Int) := by omega
        have hyn : y < n := by have := hbb'.out; omega
        have hstep := bp_step_ a L M i0 t r dk p ht3 (by rw [hN2, ← hO, if_pos hLO, hp])
        rw [hrest, hX, hy] at hstep
        obtain ⟨wl, wL, eq, u1, u2, v1, v2, u3, v3, u4, v4, u5, v5⟩ := hnums.out
        have wX := wrapS (X + 1) ((X : Int) + 1) (by simp) (Nat.le_trans hXs (Nat.le_of_lt hn))
        have wM := wrapU M1 _ hMI hM1n
        have wO := wrapS O _ rfl (Nat.le_trans hOs (by decide))
        have wp := wrapS p _ hpI (by rw [← hp]; exact Nat.le_trans (Nat.sub_le _ _) (Nat.le_trans hOs (by decide)))
        have wy := wrapS y _ hyI (Nat.le_trans (Nat.le_of_lt hyn) (Nat.le_of_lt hn))
        have hRk' := Lib.hid hRk
        have hBr' := Lib.hid hBr
        have hrest' := Lib.hid hrest
        have hnext' := Lib.hid hnext
        have hO' := Lib.hid hO
        have hN' := Lib.hid hN
        have hN2' := Lib.hid hN2
        have hX' := Lib.hid hX
        have hp' := Lib.hid hp
        have hy' := Lib.hid hy
        have hstep' := Lib.hid hstep
        clear hstep hy hp hX hN2 hN hO hnext hrest hBr hRk
        go_wp2_with fail
        refine hnext'.out.mono ?_
        rintro e w3 ⟨rfl, hB3, hR3⟩
        have hB3' := Lib.hid hB3
        have hR3' := Lib.hid hR3
        clear hR3 hB3
        go_wp2_with fail
        refine (E.swap _ dk X y hR3'.out hds hXn hyn).mono ?_
        rintro e w4 ⟨rfl, hR4, hk4⟩
        have hB4 : Bk w4 w.heap.size 118 #[.int .u64 (N : Int)] := (hk4 w.heap.size hbase hB3'.out.lt).trans hB3'.out
        have hR4' := Lib.hid hR4
        have hB4' := Lib.hid hB4
        have hk4' := Lib.hid hk4
        clear hk4 hB4 hR4
        go_wp2_with fail
        go_roundw
        case rel => exact ⟨t + 1, xorNext r, swp dk X y, by rw [hX1]; rfl, ht1, by rw [swp_size_, hds], hR4'.out, by rw [hN2'.out]; exact hB4'.out, hstep'.out.symm⟩
        case measure => clear wl wL eq u1 u2 v1 v2 u3 v3 u4 v4 u5 v5 wX wM wO wp wy; simp [intOf]; omega
      · have hLOI : ¬ (L : Int) ≤ (O : Int) := by omega
        obtain ⟨y, hy⟩ : ∃ y, a + O = y := ⟨_, rfl⟩
        have hyI : (a : Int) + (O : Int) = (y : Int) := by omega
        have hyn : y < n := by have := hbb'.out; omega
        have hstep := bp_step_ a L M i0 t r dk O ht3 (by rw [hN2, ← hO, if_neg hLO])
        rw [hrest, hX, hy] at hstep
        obtain ⟨wl, wL, eq, u1, u2, v1, v2, u3, v3, u4, v4, u5, v5⟩ := hnums.out
        have wX := wrapS (X + 1) ((X : Int) + 1) (by simp) (Nat.le_trans hXs (Nat.le_of_lt hn))
        have wM := wrapU M1 _ hMI hM1n
        have wO := wrapS O _ rfl (Nat.le_trans hOs (by decide))
        have wy := wrapS y _ hyI (Nat.le_trans (Nat.le_of_lt hyn) (Nat.le_of_lt hn))
        have hRk' := Lib.hid hRk
        have hBr' := Lib.hid hBr
        have hrest' := Lib.hid hrest
        have hnext' := Lib.hid hnext
        have hO' := Lib.hid hO
        have hN' := Lib.hid hN
        have hN2' := Lib.hid hN2
        have hX' := Lib.hid hX
        have hy' := Lib.hid hy
        have hstep' := Lib.hid hstep
        clear hstep hy hX hN2 hN hO hnext hrest hBr hRk
        go_wp2_with fail
        refine hnext'.out.mono ?_
        rintro e w3 ⟨rfl, hB3, hR3⟩
        have hB3' := Lib.hid hB3
        have hR3' := Lib.hid hR3
        clear hR3 hB3
        go_wp2_with fail
        refine (E.swap _ dk X y hR3'.out hds hXn hyn).mono ?_
        rintro e w4 ⟨rfl, hR4, hk4⟩
        have hB4 : Bk w4 w.heap.size 118 #[.int .u64 (N : Int)] := (hk4 w.heap.size hbase hB3'.out.lt).trans hB3'.out
        have hR4' := Lib.hid hR4
        have hB4' := Lib.hid hB4
        have hk4' := Lib.hid hk4
        clear hk4 hB4 hR4
        go_wp2_with fail
        go_roundw
        case rel => exact ⟨t + 1, xorNext r, swp dk X y, by rw [hX1]; rfl, ht1, by rw [swp_size_, hds], hR4'.out, by rw [hN2'.out]; exact hB4'.out, hstep'.out.symm⟩
        case measure => clear wl wL eq u1 u2 v1 v2 u3 v3 u4 v4 u5 v5 wX wM wO wy; simp [intOf]; omega
    · obtain rfl : t = 3 := by omega
      obtain ⟨X, hX⟩ : ∃ X, i0 + 3 = X := ⟨_, rfl⟩
      have hXI : ¬ (X : Int) ≤ (z : Int) := by omega
      rw [hX]
      obtain ⟨wl, wL, eq, u1, u2, v1, v2, u3, v3, u4, v4, u5, v5⟩ := hnums.out
      have hRk' := Lib.hid hRk
      have hBr' := Lib.hid hBr
      have hrest' := Lib.hid hrest
      clear hrest hBr hRk
      go_wp2_with fail
      go_end0
      have e := hrest'.out
      rw [show bpRest_ a L M i0 (3 - 3) 3 (r, dk) = dk from rfl] at e
      rw [← e]
      exact ⟨rfl, hRk'.out⟩
end Go.Proofs.YtjioghedokbgcaaDoor
