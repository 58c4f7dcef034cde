/-
  sort.Sort over a relation: partition, partitionEqual.
-/
import Derived.Test.YtjioghedokbgcaaDoorSortC
import Derived.Sort.LotC
import Derived.Deep.CutBlock
import Derived.Deep.DeepCutAuto
namespace Go.Proofs.YtjioghedokbgcaaDoor
open Go Go.RowKit
open Go.Proofs
open Go.Sort (swp)

section
variable {α : Type} [Inhabited α]
theorem scanUp_go_ (p : α → Bool) (d : Array α) (j i : Nat) (h : i ≤ j) (hp : p d[i]! = true) : Sort.scanUp p d j i = Sort.scanUp p d j (i + 1) := by
  rw [Sort.scanUp, if_pos (by simp [h, hp])]
theorem scanUp_end_ (p : α → Bool) (d : Array α) (j i : Nat) (h : ¬ i ≤ j ∨ p d[i]! = false) : Sort.scanUp p d j i = i := by
  rw [Sort.scanUp, if_neg (by rcases h with h | h <;> simp [h])]
theorem scanDown_go_ (p : α → Bool) (d : Array α) (i j : Nat) (h : i ≤ j) (h0 : 0 < j) (hp : p d[j]! = true) : Sort.scanDown p d i j = Sort.scanDown p d i (j - 1) := by
  obtain ⟨k, rfl⟩ : ∃ k, j = k + 1 := ⟨j - 1, by omega⟩
  rw [Sort.scanDown, if_pos (by simp [h, hp])]
  rfl
theorem scanDown_end_ (p : α → Bool) (d : Array α) (i j : Nat) (h : ¬ i ≤ j ∨ p d[j]! = false) : Sort.scanDown p d i j = j := by
  cases j with
  | zero => rfl
  | succ k => rw [Sort.scanDown, if_neg (by rcases h with h | h <;> simp [h])]
theorem scan_facts (p q : α → Bool) (hq : ∀ x, q x = !p x) (d : Array α) (i j i2 j2 : Nat) (h0 : 0 < i) (hij : i ≤ j + 1) (hi2 : Sort.scanUp p d j i = i2) (hj2 : Sort.scanDown q d i2 j = j2) :
    i ≤ i2 ∧ i2 ≤ j + 1 ∧ j2 ≤ j ∧ i2 ≤ j2 + 1 ∧ (¬ i2 > j2 → i2 < j2) := by
  obtain ⟨h1, h2, h3, h4, _, _, h7⟩ := Sort.round_facts p q hq d (i - 1) (j + 1) i j (by omega) hij (fun t h1 h2 => by omega) (fun t h1 h2 => by omega)
  rw [hi2, hj2] at h3 h4 h7
  rw [hi2] at h1 h2
  exact ⟨h1, h2, h3, h4, fun h => (h7 h).2.2⟩
theorem scanUp_le_ (p : α → Bool) (d : Array α) (i j i2 : Nat) (hij : i ≤ j + 1) (hi2 : Sort.scanUp p d j i = i2) : i ≤ i2 ∧ i2 ≤ j + 1 := by
  obtain ⟨h1, h2, _, _⟩ := Sort.scanUp_spec p d j _ i rfl
  rw [hi2] at h1 h2
  exact ⟨h1, h2 hij⟩
end

variable {α : Type} [Inhabited α] {rv : Addr} {lt : α → α → Bool} {n base : Nat} {R : World → Array α → Prop}


set_option maxHeartbeats 4000000 in
set_option maxRecDepth 20000 in
theorem partitionEqual_any (E : SortEnv rv lt n base R) (a b pivot : Nat) (d : Array α) (w : World) (hR : R w d) (hd : d.size = n) (hap : a ≤ pivot) (hpb : pivot < b) (hb : b ≤ n) :
    Calls Tryd.prog 46 #[.iface 38 (.pointer (some rv)), .int .i64 (a : Int), .int .i64 (b : Int), .int .i64 (pivot : Int)] w fun e w' =>
      e = .returned (.int .i64 ((Sort.partitionEqual lt d a b pivot).1 : Nat)) ∧ R w' (Sort.partitionEqual lt d a b pivot).2 := by
  have hn := E.small
  obtain ⟨j0, hj0⟩ : ∃ j, b - 1 = j := ⟨_, rfl⟩
  obtain ⟨i0, hi0⟩ : ∃ i, a + 1 = i := ⟨_, rfl⟩
  have w1 : IntKind.i64.wrap ((b : Int) - 1) = (j0 : Int) := (IntWalk.i64_in _ (by omega)).trans (by omega)
  have w2 : IntKind.i64.wrap ((a : Int) + 1) = (i0 : Int) := (IntWalk.i64_in _ (by omega)).trans (by omega)
  unfold Sort.partitionEqual
  rw [hj0, hi0]
  obtain ⟨r, hr⟩ : ∃ r, Sort.partEqLoop lt a i0 j0 (swp d a pivot) = r := ⟨_, rfl⟩
  rw [hr]
  have hR' := Lib.hid hR
  clear hR
  go_enter Tryd.func46, Tryd.ntmps46
  go_wp2_with fail
  refine (E.swap _ d a pivot hR'.out hd (by omega) (by omega)).mono ?_
  rintro e w3 ⟨rfl, hR3, _⟩
  have hR3' := Lib.hid hR3
  clear hR3
  go_wp2_with fail
  go_loopw [9, 10] (fun vi vj wx => ∃ (i j : Nat) (dk : Array α), vi = .int .i64 (i : Int) ∧ vj = .int .i64 (j : Int) ∧ a < i ∧ i ≤ j + 1 ∧ j < b ∧ R wx dk ∧ dk.size = n ∧ Sort.partEqLoop lt a i j dk = r) (fun vi vj _ => (intOf vj).toNat + 1 - (intOf vi).toNat)
  case atStart => exact ⟨i0, j0, swp d a pivot, rfl, rfl, by omega, by omega, by omega, hR3'.out, by rw [swp_size_, hd], hr⟩
  case round =>
    obtain ⟨i, j, dk, rfl, rfl, hai, hij, hjb, hRk, hds, heq⟩ := hrel
    have hRk' := Lib.hid hRk
    have heq' := Lib.hid heq
    clear heq hRk
    go_upto_block 2 with fail
    go_cut [9] (fun si wx => ∃ i2 : Nat, si = .int .i64 (i2 : Int) ∧ Sort.scanUp (fun x => !lt dk[a]! x) dk j i = i2 ∧ R wx dk)
    case first =>
      go_wp2_with fail
      go_loopw [9] (fun vi wx => ∃ i' : Nat, vi = .int .i64 (i' : Int) ∧ i ≤ i' ∧ i' ≤ j + 1 ∧ R wx dk ∧ Sort.scanUp (fun x => !lt dk[a]! x) dk j i' = Sort.scanUp (fun x => !lt dk[a]! x) dk j i) (fun vi _ => j + 1 - (intOf vi).toNat)
      case atStart => exact ⟨i, rfl, Nat.le_refl _, by omega, hRk'.out, rfl⟩
      case round =>
        obtain ⟨i', rfl, hi1, hi2, hRi, hsc⟩ := hrel
        by_cases hle : i' ≤ j
        · have hleI : (i' : Int) ≤ (j : Int) := by omega
          have wi : IntKind.i64.wrap ((i' : Int) + 1) = ((i' + 1 : Nat) : Int) := (IntWalk.i64_in _ (by omega)).trans (by omega)
          by_cases hp : (fun x => !lt dk[a]! x) dk[i']! = true
          · have hlt : lt dk[a]! dk[i']! = false := by simpa using hp
            have hRi' := Lib.hid hRi
            have hsc' := Lib.hid hsc
            clear hsc hRi
            go_wp2_with fail
            refine (E.less _ dk a i' hRi'.out hds (by omega) (by omega)).mono ?_
            rw [hlt]
            rintro e w1 ⟨rfl, hR1, _⟩
            have hR1' := Lib.hid hR1
            clear hR1
            go_wp2_with fail
            go_roundw
            case rel => exact ⟨i' + 1, by go_num, by omega, by omega, hR1'.out, (scanUp_go_ (fun x => !lt dk[a]! x) dk j i' hle hp).symm.trans hsc'.out⟩
            case measure => simp [intOf]; omega
          · have hlt : lt dk[a]! dk[i']! = true := by simpa using hp
            have hRi' := Lib.hid hRi
            have hsc' := Lib.hid hsc
            clear hsc hRi
            go_wp2_with fail
            refine (E.less _ dk a i' hRi'.out hds (by omega) (by omega)).mono ?_
            rw [hlt]
            rintro e w1 ⟨rfl, hR1, _⟩
            have hR1' := Lib.hid hR1
            clear hR1
            go_wp2_with fail
            go_meet
            exact ⟨i', rfl, by rw [← hsc'.out]; exact scanUp_end_ _ _ _ _ (.inr (by simpa using hp)), hR1'.out⟩
        · have hleI : ¬ (i' : Int) ≤ (j : Int) := by omega
          have hRi' := Lib.hid hRi
          have hsc' := Lib.hid hsc
          clear hsc hRi
          go_wp2_with fail
          go_meet
          exact ⟨i', rfl, by rw [← hsc'.out]; exact scanUp_end_ _ _ _ _ (.inl hle), hRi'.out⟩
    case rest =>
      obtain ⟨i2, rfl, hsu, hR2⟩ := hcut
      obtain ⟨hu1, hu2⟩ := scanUp_le_ _ dk i j i2 hij hsu
      have hR2' := Lib.hid hR2
      have hsu' := Lib.hid hsu
      clear hsu hR2
      go_upto_block 4 with fail
      go_cut [10] (fun sj wx => ∃ j2 : Nat, sj = .int .i64 (j2 : Int) ∧ Sort.scanDown (fun x => lt dk[a]! x) dk i2 j = j2 ∧ R wx dk)
      case first =>
        go_wp2_with fail
        go_loopw [10] (fun vj wx => ∃ j' : Nat, vj = .int .i64 (j' : Int) ∧ j' ≤ j ∧ i2 ≤ j' + 1 ∧ R wx dk ∧ Sort.scanDown (fun x => lt dk[a]! x) dk i2 j' = Sort.scanDown (fun x => lt dk[a]! x) dk i2 j) (fun vj _ => (intOf vj).toNat)
        case atStart => exact ⟨j, rfl, Nat.le_refl _, by omega, hR2'.out, rfl⟩
        case round =>
          obtain ⟨j', rfl, hj1, hj2, hRi, hsc⟩ := hrel
          by_cases hle : i2 ≤ j'
          · have hleI : (i2 : Int) ≤ (j' : Int) := by omega
            have wi : IntKind.i64.wrap ((j' : Int) - 1) = ((j' - 1 : Nat) : Int) := (IntWalk.i64_in _ (by omega)).trans (by omega)
            by_cases hp : (fun x => lt dk[a]! x) dk[j']! = true
            · have hlt : lt dk[a]! dk[j']! = true := by simpa using hp
              have hRi' := Lib.hid hRi
              have hsc' := Lib.hid hsc
              clear hsc hRi
              go_wp2_with fail
              refine (E.less _ dk a j' hRi'.out hds (by omega) (by omega)).mono ?_
              rw [hlt]
              rintro e w1 ⟨rfl, hR1, _⟩
              have hR1' := Lib.hid hR1
              clear hR1
              go_wp2_with fail
              go_roundw
              case rel => exact ⟨j' - 1, by go_num, by omega, by omega, hR1'.out, (scanDown_go_ (fun x => lt dk[a]! x) dk i2 j' hle (by omega) hp).symm.trans hsc'.out⟩
              case measure => simp [intOf]; omega
            · have hlt : lt dk[a]! dk[j']! = false := by simpa using hp
              have hRi' := Lib.hid hRi
              have hsc' := Lib.hid hsc
              clear hsc hRi
              go_wp2_with fail
              refine (E.less _ dk a j' hRi'.out hds (by omega) (by omega)).mono ?_
              rw [hlt]
              rintro e w1 ⟨rfl, hR1, _⟩
              have hR1' := Lib.hid hR1
              clear hR1
              go_wp2_with fail
              go_meet
              exact ⟨j', rfl, by rw [← hsc'.out]; exact scanDown_end_ _ _ _ _ (.inr (by simpa using hp)), hR1'.out⟩
          · have hleI : ¬ (i2 : Int) ≤ (j' : Int) := by omega
            have hRi' := Lib.hid hRi
            have hsc' := Lib.hid hsc
            clear hsc hRi
            go_wp2_with fail
            go_meet
            exact ⟨j', rfl, by rw [← hsc'.out]; exact scanDown_end_ _ _ _ _ (.inl hle), hRi'.out⟩
      case rest =>
        obtain ⟨j2, rfl, hsd, hR3⟩ := hcut
        obtain ⟨f1, f2, f3, f4, f5⟩ := scan_facts (fun x => !lt dk[a]! x) (fun x => lt dk[a]! x) (fun x => by simp) dk i j i2 j2 (by omega) hij hsu'.out hsd
        have heq2 := heq'.out
        rw [Sort.partEqLoop_eq, hsu'.out, hsd] at heq2
        by_cases hgt : i2 > j2
        · have hgtI : (j2 : Int) < (i2 : Int) := by omega
          rw [if_pos hgt] at heq2
          have hR3' := Lib.hid hR3
          have hsd' := Lib.hid hsd
          have heq2' := Lib.hid heq2
          clear heq2 hsd hR3
          go_wp2_with fail
          go_ret
          rw [← heq2'.out]
          exact ⟨rfl, hR3'.out⟩
        · have hgtI : ¬ (j2 : Int) < (i2 : Int) := by omega
          rw [if_neg hgt] at heq2
          have hlt2 := f5 hgt
          have wi : IntKind.i64.wrap ((i2 : Int) + 1) = ((i2 + 1 : Nat) : Int) := (IntWalk.i64_in _ (by omega)).trans (by omega)
          have wj : IntKind.i64.wrap ((j2 : Int) - 1) = ((j2 - 1 : Nat) : Int) := (IntWalk.i64_in _ (by omega)).trans (by omega)
          have hR3' := Lib.hid hR3
          have hsd' := Lib.hid hsd
          have heq2' := Lib.hid heq2
          clear heq2 hsd hR3
          go_wp2_with fail
          refine (E.swap _ dk i2 j2 hR3'.out hds (by omega) (by omega)).mono ?_
          rintro e w4 ⟨rfl, hR4, _⟩
          have hR4' := Lib.hid hR4
          clear hR4
          go_wp2_with fail
          go_roundw
          case rel => exact ⟨i2 + 1, j2 - 1, swp dk i2 j2, by go_num, by go_num, by omega, by omega, by omega, hR4'.out, by rw [swp_size_, hds], heq2'.out⟩
          case measure => simp [intOf]; omega

set_option maxHeartbeats 8000000 in
set_option maxRecDepth 20000 in
theorem partition_any (E : SortEnv rv lt n base R) (a b pivot : Nat) (d : Array α) (w : World) (hR : R w d) (hd : d.size = n) (hap : a ≤ pivot) (hpb : pivot < b) (hb : b ≤ n) :
    Calls Tryd.prog 47 #[.iface 38 (.pointer (some rv)), .int .i64 (a : Int), .int .i64 (b : Int), .int .i64 (pivot : Int)] w fun e w' =>
      e = .returned (.tuple #[.int .i64 ((Sort.partition lt d a b pivot).1 : Nat), .bool (Sort.partition lt d a b pivot).2.1]) ∧ R w' (Sort.partition lt d a b pivot).2.2 := by
  have hn := E.small
  obtain ⟨j0, hj0⟩ : ∃ j, b - 1 = j := ⟨_, rfl⟩
  obtain ⟨i0, hi0⟩ : ∃ i, a + 1 = i := ⟨_, rfl⟩
  have w1 : IntKind.i64.wrap ((b : Int) - 1) = (j0 : Int) := (IntWalk.i64_in _ (by omega)).trans (by omega)
  have w2 : IntKind.i64.wrap ((a : Int) + 1) = (i0 : Int) := (IntWalk.i64_in _ (by omega)).trans (by omega)
  obtain ⟨r, hr⟩ : ∃ r, Sort.partition lt d a b pivot = r := ⟨_, rfl⟩
  rw [hr]
  unfold Sort.partition at hr
  simp only [hj0, hi0] at hr
  obtain ⟨d1, hd1⟩ : ∃ d', swp d a pivot = d' := ⟨_, rfl⟩
  rw [hd1] at hr
  have hds : d1.size = n := by rw [← hd1, swp_size_, hd]
  have hR' := Lib.hid hR
  clear hR
  have hr' := Lib.hid hr
  clear hr
  go_enter Tryd.func47, Tryd.ntmps47
  go_wp2_with fail
  refine (E.swap _ d a pivot hR'.out hd (by omega) (by omega)).mono ?_
  rw [hd1]
  rintro e w3 ⟨rfl, hR3, _⟩
  have hR3' := Lib.hid hR3
  clear hR3
  go_upto_block 0 with fail
  go_cut [10] (fun si wx => ∃ i2 : Nat, si = .int .i64 (i2 : Int) ∧ Sort.scanUp (fun x => lt x d1[a]!) d1 j0 i0 = i2 ∧ R wx d1)
  case first =>
    go_wp2_with fail
    go_loopw [10] (fun vi wx => ∃ i' : Nat, vi = .int .i64 (i' : Int) ∧ i0 ≤ i' ∧ i' ≤ j0 + 1 ∧ R wx d1 ∧ Sort.scanUp (fun x => lt x d1[a]!) d1 j0 i' = Sort.scanUp (fun x => lt x d1[a]!) d1 j0 i0) (fun vi _ => j0 + 1 - (intOf vi).toNat)
    case atStart => exact ⟨i0, rfl, Nat.le_refl _, by omega, hR3'.out, rfl⟩
    case round =>
      obtain ⟨i', rfl, hi1, hi2, hRi, hsc⟩ := hrel
      by_cases hle : i' ≤ j0
      · have hleI : (i' : Int) ≤ (j0 : Int) := by omega
        have wi : IntKind.i64.wrap ((i' : Int) + 1) = ((i' + 1 : Nat) : Int) := (IntWalk.i64_in _ (by omega)).trans (by omega)
        by_cases hp : (fun x => lt x d1[a]!) d1[i']! = true
        · have hlt : lt d1[i']! d1[a]! = true := by simpa using hp
          have hRi' := Lib.hid hRi
          have hsc' := Lib.hid hsc
          clear hsc hRi
          go_wp2_with fail
          refine (E.less _ d1 i' a hRi'.out hds (by omega) (by omega)).mono ?_
          rw [hlt]
          rintro e w1 ⟨rfl, hR1, _⟩
          have hR1' := Lib.hid hR1
          clear hR1
          go_wp2_with fail
          go_roundw
          case rel => exact ⟨i' + 1, by go_num, by omega, by omega, hR1'.out, (scanUp_go_ (fun x => lt x d1[a]!) d1 j0 i' hle hp).symm.trans hsc'.out⟩
          case measure => simp [intOf]; omega
        · have hlt : lt d1[i']! d1[a]! = false := by simpa using hp
          have hRi' := Lib.hid hRi
          have hsc' := Lib.hid hsc
          clear hsc hRi
          go_wp2_with fail
          refine (E.less _ d1 i' a hRi'.out hds (by omega) (by omega)).mono ?_
          rw [hlt]
          rintro e w1 ⟨rfl, hR1, _⟩
          have hR1' := Lib.hid hR1
          clear hR1
          go_wp2_with fail
          go_meet
          exact ⟨i', rfl, by rw [← hsc'.out]; exact scanUp_end_ _ _ _ _ (.inr (by simpa using hp)), hR1'.out⟩
      · have hleI : ¬ (i' : Int) ≤ (j0 : Int) := by omega
        have hRi' := Lib.hid hRi
        have hsc' := Lib.hid hsc
        clear hsc hRi
        go_wp2_with fail
        go_meet
        exact ⟨i', rfl, by rw [← hsc'.out]; exact scanUp_end_ _ _ _ _ (.inl hle), hRi'.out⟩
  case rest =>
    obtain ⟨i2, rfl, hsu, hR2⟩ := hcut
    obtain ⟨hu1, hu2⟩ := scanUp_le_ _ d1 i0 j0 i2 (by omega) hsu
    have hR2' := Lib.hid hR2
    have hsu' := Lib.hid hsu
    clear hsu hR2
    go_upto_block 2 with fail
    go_cut [11] (fun sj wx => ∃ j2 : Nat, sj = .int .i64 (j2 : Int) ∧ Sort.scanDown (fun x => !lt x d1[a]!) d1 i2 j0 = j2 ∧ R wx d1)
    case first =>
      go_wp2_with fail
      go_loopw [11] (fun vj wx => ∃ j' : Nat, vj = .int .i64 (j' : Int) ∧ j' ≤ j0 ∧ i2 ≤ j' + 1 ∧ R wx d1 ∧ Sort.scanDown (fun x => !lt x d1[a]!) d1 i2 j' = Sort.scanDown (fun x => !lt x d1[a]!) d1 i2 j0) (fun vj _ => (intOf vj).toNat)
      case atStart => exact ⟨j0, rfl, Nat.le_refl _, by omega, hR2'.out, rfl⟩
      case round =>
        obtain ⟨j', rfl, hj1, hj2, hRi, hsc⟩ := hrel
        by_cases hle : i2 ≤ j'
        · have hleI : (i2 : Int) ≤ (j' : Int) := by omega
          have wi : IntKind.i64.wrap ((j' : Int) - 1) = ((j' - 1 : Nat) : Int) := (IntWalk.i64_in _ (by omega)).trans (by omega)
          by_cases hp : (fun x => !lt x d1[a]!) d1[j']! = true
          · have hlt : lt d1[j']! d1[a]! = false := by simpa using hp
            have hRi' := Lib.hid hRi
            have hsc' := Lib.hid hsc
            clear hsc hRi
            go_wp2_with fail
            refine (E.less _ d1 j' a hRi'.out hds (by omega) (by omega)).mono ?_
            rw [hlt]
            rintro e w1 ⟨rfl, hR1, _⟩
            have hR1' := Lib.hid hR1
            clear hR1
            go_wp2_with fail
            go_roundw
            case rel => exact ⟨j' - 1, by go_num, by omega, by omega, hR1'.out, (scanDown_go_ (fun x => !lt x d1[a]!) d1 i2 j' hle (by omega) hp).symm.trans hsc'.out⟩
            case measure => simp [intOf]; omega
          · have hlt : lt d1[j']! d1[a]! = true := by simpa using hp
            have hRi' := Lib.hid hRi
            have hsc' := Lib.hid hsc
            clear hsc hRi
            go_wp2_with fail
            refine (E.less _ d1 j' a hRi'.out hds (by omega) (by omega)).mono ?_
            rw [hlt]
            rintro e w1 ⟨rfl, hR1, _⟩
            have hR1' := Lib.hid hR1
            clear hR1
            go_wp2_with fail
            go_meet
            exact ⟨j', rfl, by rw [← hsc'.out]; exact scanDown_end_ _ _ _ _ (.inr (by simpa using hp)), hR1'.out⟩
        · have hleI : ¬ (i2 : Int) ≤ (j' : Int) := by omega
          have hRi' := Lib.hid hRi
          have hsc' := Lib.hid hsc
          clear hsc hRi
          go_wp2_with fail
          go_meet
          exact ⟨j', rfl, by rw [← hsc'.out]; exact scanDown_end_ _ _ _ _ (.inl hle), hRi'.out⟩
    case rest =>
      obtain ⟨j2, rfl, hsd, hR3⟩ := hcut
      obtain ⟨f1, f2, f3, f4, f5⟩ := scan_facts (fun x => lt x d1[a]!) (fun x => !lt x d1[a]!) (fun x => rfl) d1 i0 j0 i2 j2 (by omega) (by omega) hsu'.out hsd
      have hr2 := hr'.out
      rw [hsu'.out, hsd] at hr2
      by_cases hgt : i2 > j2
      · have hgtI : (j2 : Int) < (i2 : Int) := by omega
        rw [if_pos hgt] at hr2
        have hR3' := Lib.hid hR3
        have hsd' := Lib.hid hsd
        have hr2' := Lib.hid hr2
        clear hr2 hsd hR3
        go_wp2_with fail
        refine (E.swap _ d1 j2 a hR3'.out hds (by omega) (by omega)).mono ?_
        rintro e w4 ⟨rfl, hR4, _⟩
        have hR4' := Lib.hid hR4
        clear hR4
        go_wp2_with fail
        go_ret2
        rw [← hr2'.out]
        exact ⟨rfl, hR4'.out⟩
      · have hgtI : ¬ (j2 : Int) < (i2 : Int) := by omega
        rw [if_neg hgt] at hr2
        have hlt2 := f5 hgt
        have wi : IntKind.i64.wrap ((i2 : Int) + 1) = ((i2 + 1 : Nat) : Int) := (IntWalk.i64_in _ (by omega)).trans (by omega)
        have wj : IntKind.i64.wrap ((j2 : Int) - 1) = ((j2 - 1 : Nat) : Int) := (IntWalk.i64_in _ (by omega)).trans (by omega)
        obtain ⟨d2, hd2⟩ : ∃ d', swp d1 i2 j2 = d' := ⟨_, rfl⟩
        have hd2s : d2.size = n := by rw [← hd2, swp_size_, hds]
        rw [hd2] at hr2
        obtain ⟨⟨m, dr⟩, hm⟩ : ∃ q, Sort.partLoop lt a (i2 + 1) (j2 - 1) d2 = q := ⟨_, rfl⟩
        rw [hm] at hr2
        simp only at hr2
        obtain ⟨i3, hi3⟩ : ∃ i, i2 + 1 = i := ⟨_, rfl⟩
        obtain ⟨j3, hj3⟩ : ∃ j, j2 - 1 = j := ⟨_, rfl⟩
        rw [hi3] at wi hm
        rw [hj3] at wj hm
        have hR3' := Lib.hid hR3
        have hsd' := Lib.hid hsd
        have hr2' := Lib.hid hr2
        have hm' := Lib.hid hm
        clear hm hr2 hsd hR3
        go_wp2_with fail
        refine (E.swap _ d1 i2 j2 hR3'.out hds (by omega) (by omega)).mono ?_
        rw [hd2]
        rintro e w4 ⟨rfl, hR4, _⟩
        have hR4' := Lib.hid hR4
        clear hR4 hds
        go_wp2_with fail
        go_loopw [10, 11] (fun vi vj wx => ∃ (i j : Nat) (dk : Array α), vi = .int .i64 (i : Int) ∧ vj = .int .i64 (j : Int) ∧ a < i ∧ i ≤ j + 1 ∧ j < b ∧ R wx dk ∧ dk.size = n ∧ Sort.partLoop lt a i j dk = (m, dr)) (fun vi vj _ => (intOf vj).toNat + 1 - (intOf vi).toNat)
        case atStart => exact ⟨i3, j3, d2, rfl, rfl, by omega, by omega, by omega, hR4'.out, hd2s, hm'.out⟩
        case round =>
          obtain ⟨i, j, dk, rfl, rfl, hai, hij, hjb, hRk, hds, heq⟩ := hrel
          have hRk' := Lib.hid hRk
          have heq' := Lib.hid heq
          clear heq hRk
          go_upto_block 6 with fail
          go_cut [10] (fun si wx => ∃ i2 : Nat, si = .int .i64 (i2 : Int) ∧ Sort.scanUp (fun x => lt x dk[a]!) dk j i = i2 ∧ R wx dk)
          case first =>
            go_wp2_with fail
            go_loopw [10] (fun vi wx => ∃ i' : Nat, vi = .int .i64 (i' : Int) ∧ i ≤ i' ∧ i' ≤ j + 1 ∧ R wx dk ∧ Sort.scanUp (fun x => lt x dk[a]!) dk j i' = Sort.scanUp (fun x => lt x dk[a]!) dk j i) (fun vi _ => j + 1 - (intOf vi).toNat)
            case atStart => exact ⟨i, rfl, Nat.le_refl _, by omega, hRk'.out, rfl⟩
            case round =>
              obtain ⟨i', rfl, hi1, hi2, hRi, hsc⟩ := hrel
              by_cases hle : i' ≤ j
              · have hleI : (i' : Int) ≤ (j : Int) := by omega
                have wi : IntKind.i64.wrap ((i' : Int) + 1) = ((i' + 1 : Nat) : Int) := (IntWalk.i64_in _ (by omega)).trans (by omega)
                by_cases hp : (fun x => lt x dk[a]!) dk[i']! = true
                · have hlt : lt dk[i']! dk[a]! = true := by simpa using hp
                  have hRi' := Lib.hid hRi
                  have hsc' := Lib.hid hsc
                  clear hsc hRi
                  go_wp2_with fail
                  refine (E.less _ dk i' a hRi'.out hds (by omega) (by omega)).mono ?_
                  rw [hlt]
                  rintro e w1 ⟨rfl, hR1, _⟩
                  have hR1' := Lib.hid hR1
                  clear hR1
                  go_wp2_with fail
                  go_roundw
                  case rel => exact ⟨i' + 1, by go_num, by omega, by omega, hR1'.out, (scanUp_go_ (fun x => lt x dk[a]!) dk j i' hle hp).symm.trans hsc'.out⟩
                  case measure => simp [intOf]; omega
                · have hlt : lt dk[i']! dk[a]! = false := by simpa using hp
                  have hRi' := Lib.hid hRi
                  have hsc' := Lib.hid hsc
                  clear hsc hRi
                  go_wp2_with fail
                  refine (E.less _ dk i' a hRi'.out hds (by omega) (by omega)).mono ?_
                  rw [hlt]
                  rintro e w1 ⟨rfl, hR1, _⟩
                  have hR1' := Lib.hid hR1
                  clear hR1
                  go_wp2_with fail
                  go_meet
                  exact ⟨i', rfl, by rw [← hsc'.out]; exact scanUp_end_ _ _ _ _ (.inr (by simpa using hp)), hR1'.out⟩
              · have hleI : ¬ (i' : Int) ≤ (j : Int) := by omega
                have hRi' := Lib.hid hRi
                have hsc' := Lib.hid hsc
                clear hsc hRi
                go_wp2_with fail
                go_meet
                exact ⟨i', rfl, by rw [← hsc'.out]; exact scanUp_end_ _ _ _ _ (.inl hle), hRi'.out⟩
          case rest =>
            obtain ⟨i4, rfl, hsu2, hR5⟩ := hcut
            obtain ⟨hu3, hu4⟩ := scanUp_le_ _ dk i j i4 hij hsu2
            have hR5' := Lib.hid hR5
            have hsu2' := Lib.hid hsu2
            clear hsu2 hR5
            go_upto_block 8 with fail
            go_cut [11] (fun sj wx => ∃ j2 : Nat, sj = .int .i64 (j2 : Int) ∧ Sort.scanDown (fun x => !lt x dk[a]!) dk i4 j = j2 ∧ R wx dk)
            case first =>
              go_wp2_with fail
              go_loopw [11] (fun vj wx => ∃ j' : Nat, vj = .int .i64 (j' : Int) ∧ j' ≤ j ∧ i4 ≤ j' + 1 ∧ R wx dk ∧ Sort.scanDown (fun x => !lt x dk[a]!) dk i4 j' = Sort.scanDown (fun x => !lt x dk[a]!) dk i4 j) (fun vj _ => (intOf vj).toNat)
              case atStart => exact ⟨j, rfl, Nat.le_refl _, by omega, hR5'.out, rfl⟩
              case round =>
                obtain ⟨j', rfl, hj1, hj2, hRi, hsc⟩ := hrel
                by_cases hle : i4 ≤ j'
                · have hleI : (i4 : Int) ≤ (j' : Int) := by omega
                  have wi : IntKind.i64.wrap ((j' : Int) - 1) = ((j' - 1 : Nat) : Int) := (IntWalk.i64_in _ (by omega)).trans (by omega)
                  by_cases hp : (fun x => !lt x dk[a]!) dk[j']! = true
                  · have hlt : lt dk[j']! dk[a]! = false := by simpa using hp
                    have hRi' := Lib.hid hRi
                    have hsc' := Lib.hid hsc
                    clear hsc hRi
                    go_wp2_with fail
                    refine (E.less _ dk j' a hRi'.out hds (by omega) (by omega)).mono ?_
                    rw [hlt]
                    rintro e w1 ⟨rfl, hR1, _⟩
                    have hR1' := Lib.hid hR1
                    clear hR1
                    go_wp2_with fail
                    go_roundw
                    case rel => exact ⟨j' - 1, by go_num, by omega, by omega, hR1'.out, (scanDown_go_ (fun x => !lt x dk[a]!) dk i4 j' hle (by omega) hp).symm.trans hsc'.out⟩
                    case measure => simp [intOf]; omega
                  · have hlt : lt dk[j']! dk[a]! = true := by simpa using hp
                    have hRi' := Lib.hid hRi
                    have hsc' := Lib.hid hsc
                    clear hsc hRi
                    go_wp2_with fail
                    refine (E.less _ dk j' a hRi'.out hds (by omega) (by omega)).mono ?_
                    rw [hlt]
                    rintro e w1 ⟨rfl, hR1, _⟩
                    have hR1' := Lib.hid hR1
                    clear hR1
                    go_wp2_with fail
                    go_meet
                    exact ⟨j', rfl, by rw [← hsc'.out]; exact scanDown_end_ _ _ _ _ (.inr (by simpa using hp)), hR1'.out⟩
                · have hleI : ¬ (i4 : Int) ≤ (j' : Int) := by omega
                  have hRi' := Lib.hid hRi
                  have hsc' := Lib.hid hsc
                  clear hsc hRi
                  go_wp2_with fail
                  go_meet
                  exact ⟨j', rfl, by rw [← hsc'.out]; exact scanDown_end_ _ _ _ _ (.inl hle), hRi'.out⟩
            case rest =>
              obtain ⟨j4, rfl, hsd2, hR6⟩ := hcut
              obtain ⟨g1, g2, g3, g4, g5⟩ := scan_facts (fun x => lt x dk[a]!) (fun x => !lt x dk[a]!) (fun x => rfl) dk i j i4 j4 (by omega) hij hsu2'.out hsd2
              have heq2 := heq'.out
              rw [Sort.partLoop_eq, hsu2'.out, hsd2] at heq2
              by_cases hgt2 : i4 > j4
              · have hgtI2 : (j4 : Int) < (i4 : Int) := by omega
                rw [if_pos hgt2] at heq2
                obtain ⟨rfl, rfl⟩ := Prod.mk.inj heq2
                clear heq2
                have hR6' := Lib.hid hR6
                have hsd2' := Lib.hid hsd2
                clear hsd2 hR6
                go_wp2_with fail
                refine (E.swap _ _ j4 a hR6'.out hds (by omega) (by omega)).mono ?_
                rintro e w5 ⟨rfl, hR7, _⟩
                have hR7' := Lib.hid hR7
                clear hR7
                go_wp2_with fail
                go_ret2
                rw [← hr2'.out]
                exact ⟨rfl, hR7'.out⟩
              · have hgtI2 : ¬ (j4 : Int) < (i4 : Int) := by omega
                rw [if_neg hgt2] at heq2
                have hlt4 := g5 hgt2
                have wi4 : IntKind.i64.wrap ((i4 : Int) + 1) = ((i4 + 1 : Nat) : Int) := (IntWalk.i64_in _ (by omega)).trans (by omega)
                have wj4 : IntKind.i64.wrap ((j4 : Int) - 1) = ((j4 - 1 : Nat) : Int) := (IntWalk.i64_in _ (by omega)).trans (by omega)
                have hR6' := Lib.hid hR6
                have hsd2' := Lib.hid hsd2
                have heq2' := Lib.hid heq2
                clear heq2 hsd2 hR6
                go_wp2_with fail
                refine (E.swap _ dk i4 j4 hR6'.out hds (by omega) (by omega)).mono ?_
                rintro e w5 ⟨rfl, hR7, _⟩
                have hR7' := Lib.hid hR7
                clear hR7
                go_wp2_with fail
                go_roundw
                case rel => exact ⟨i4 + 1, j4 - 1, swp dk i4 j4, by go_num, by go_num, by omega, by omega, by omega, hR7'.out, by rw [swp_size_, hds], heq2'.out⟩
                case measure => simp [intOf]; omega
end Go.Proofs.YtjioghedokbgcaaDoor
