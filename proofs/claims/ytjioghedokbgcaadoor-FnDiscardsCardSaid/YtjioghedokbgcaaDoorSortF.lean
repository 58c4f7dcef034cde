/-
  sort.Sort over a relation: partialInsertionSort.
-/
import Derived.Test.YtjioghedokbgcaaDoorSortE
namespace Go.Proofs.YtjioghedokbgcaaDoor
open Go Go.RowKit
open Go.Proofs
open Go.Sort (swp)

variable {α : Type} [Inhabited α] {rv : Addr} {lt : α → α → Bool} {n base : Nat} {R : World → Array α → Prop}

theorem scanSorted_go_ (lt : α → α → Bool) (d : Array α) (b i : Nat) (h : i < b) (hp : lt d[i]! d[i - 1]! = false) : Sort.scanSorted lt d b i = Sort.scanSorted lt d b (i + 1) := by
  rw [Sort.scanSorted, if_pos (by simp [h, hp])]
theorem scanSorted_end_ (lt : α → α → Bool) (d : Array α) (b i : Nat) (h : ¬ i < b ∨ lt d[i]! d[i - 1]! = true) : Sort.scanSorted lt d b i = i := by
  rw [Sort.scanSorted, if_neg (by rcases h with h | h <;> simp [h])]
theorem shiftDown_size_ (lt : α → α → Bool) : ∀ (j : Nat) (d : Array α), (Sort.shiftDown lt j d).size = d.size := by
  intro j
  induction j with
  | zero => intro d; rfl
  | succ j ih =>
    intro d
    rw [Sort.shiftDown]
    split
    · rfl
    · rw [ih, swp_size_]
theorem shiftUp_size_ (lt : α → α → Bool) (b : Nat) : ∀ (k j : Nat) (d : Array α), b - j ≤ k → (Sort.shiftUp lt b j d).size = d.size := by
  intro k
  induction k with
  | zero =>
    intro j d h
    rw [Sort.shiftUp, if_neg (by omega)]
  | succ k ih =>
    intro j d h
    rw [Sort.shiftUp]
    split
    · split
      · rfl
      · rw [ih _ _ (by omega), swp_size_]
    · rfl
theorem partialIns_eq (lt : α → α → Bool) (a b s i i2 : Nat) (d d1 d2 d3 : Array α) (hs : Sort.scanSorted lt d b i = i2) (h1 : ¬ i2 = b) (h2 : ¬ b - a < 50) (hd1 : swp d i2 (i2 - 1) = d1) (hd2 : (if i2 - a ≥ 2 then Sort.shiftDown lt (i2 - 1) d1 else d1) = d2) (hd3 : (if b - i2 ≥ 2 then Sort.shiftUp lt b (i2 + 1) d2 else d2) = d3) :
    Sort.partialIns lt a b (s + 1) i d = Sort.partialIns lt a b s i2 d3 := by
  rw [Sort.partialIns]
  simp only [hs, if_neg h1, if_neg h2, hd1, hd2, hd3]

set_option maxHeartbeats 8000000 in
set_option maxRecDepth 20000 in
theorem partialInsertionSort_any (E : SortEnv rv lt n base R) (a b : Nat) (d : Array α) (w : World) (hR : R w d) (hd : d.size = n) (hab : a < b) (hb : b ≤ n) :
    Calls Tryd.prog 45 #[.iface 38 (.pointer (some rv)), .int .i64 (a : Int), .int .i64 (b : Int)] w fun e w' =>
      e = .returned (.bool (Sort.partialInsertionSort lt d a b).2) ∧ R w' (Sort.partialInsertionSort lt d a b).1 := by
  have hn := E.small
  unfold Sort.partialInsertionSort
  obtain ⟨i0, hi0⟩ : ∃ i, a + 1 = i := ⟨_, rfl⟩
  have w1 : IntKind.i64.wrap ((a : Int) + 1) = (i0 : Int) := (IntWalk.i64_in _ (by omega)).trans (by omega)
  have w2 : IntKind.i64.wrap ((b : Int) - (a : Int)) = ((b - a : Nat) : Int) := (IntWalk.i64_in _ (by omega)).trans (by omega)
  obtain ⟨r, hr⟩ : ∃ r, Sort.partialIns lt a b 5 (a + 1) d = r := ⟨_, rfl⟩
  rw [hr]
  rw [hi0] at hr
  obtain ⟨l, hl⟩ : ∃ l, b - a = l := ⟨_, rfl⟩
  rw [hl] at w2
  have hR' := Lib.hid hR
  clear hR
  go_enter Tryd.func45, Tryd.ntmps45
  go_wp2_with fail
  go_loopw [7, 8] (fun vi vj wx => ∃ (i jj s : Nat) (dk : Array α), vi = .int .i64 (i : Int) ∧ vj = .int .i64 (jj : Int) ∧ jj + s = 5 ∧ a < i ∧ i ≤ b ∧ R wx dk ∧ dk.size = n ∧ Sort.partialIns lt a b s i dk = r) (fun _ vj _ => 5 - (intOf vj).toNat)
  case atStart => exact ⟨i0, 0, 5, d, rfl, rfl, rfl, by omega, by omega, hR'.out, hd, hr⟩
  case round =>
    obtain ⟨i, jj, s, dk, rfl, rfl, hjs, hai, hib, hRk, hds, heq⟩ := hrel
    cases s with
    | zero =>
      have hjI : ¬ (jj : Int) < 5 := by omega
      subst heq
      have hRk' := Lib.hid hRk
      clear hRk
      go_wp2_with fail
      go_ret
      exact ⟨rfl, hRk'.out⟩
    | succ s =>
      have hjI : (jj : Int) < 5 := by omega
      have wjj : IntKind.i64.wrap ((jj : Int) + 1) = ((jj + 1 : Nat) : Int) := (IntWalk.i64_in _ (by omega)).trans (by omega)
      have hRk' := Lib.hid hRk
      have heq' := Lib.hid heq
      clear heq hRk
      go_upto_block 2 with fail
      go_cut [7] (fun si wx => ∃ i2 : Nat, si = .int .i64 (i2 : Int) ∧ i ≤ i2 ∧ i2 ≤ b ∧ Sort.scanSorted lt dk b i = i2 ∧ R wx dk)
      case first =>
        go_wp2_with fail
        go_loopw [7] (fun vi wx => ∃ i' : Nat, vi = .int .i64 (i' : Int) ∧ i ≤ i' ∧ i' ≤ b ∧ R wx dk ∧ Sort.scanSorted lt dk b i' = Sort.scanSorted lt dk b i) (fun vi _ => b - (intOf vi).toNat)
        case atStart => exact ⟨i, rfl, Nat.le_refl _, hib, hRk'.out, rfl⟩
        case round =>
          obtain ⟨i', rfl, hi1, hi2, hRi, hsc⟩ := hrel
          by_cases hlb : i' < b
          · have hlbI : (i' : Int) < (b : Int) := by omega
            have wi : IntKind.i64.wrap ((i' : Int) + 1) = ((i' + 1 : Nat) : Int) := (IntWalk.i64_in _ (by omega)).trans (by omega)
            have wm : IntKind.i64.wrap ((i' : Int) - 1) = ((i' - 1 : Nat) : Int) := (IntWalk.i64_in _ (by omega)).trans (by omega)
            have hRi' := Lib.hid hRi
            have hsc' := Lib.hid hsc
            clear hsc hRi
            cases hlt : lt dk[i']! dk[i' - 1]! with
            | false =>
              go_wp2_with fail
              refine (E.less _ dk i' (i' - 1) hRi'.out hds (by omega) (by omega)).mono ?_
              rw [hlt]
              rintro e w3 ⟨rfl, hR1, _⟩
              have hR1' := Lib.hid hR1
              clear hR1
              go_wp2_with fail
              go_roundw
              case rel => exact ⟨i' + 1, by go_num, by omega, by omega, hR1'.out, (scanSorted_go_ lt dk b i' hlb hlt).symm.trans hsc'.out⟩
              case measure => simp [intOf]; omega
            | true =>
              go_wp2_with fail
              refine (E.less _ dk i' (i' - 1) hRi'.out hds (by omega) (by omega)).mono ?_
              rw [hlt]
              rintro e w3 ⟨rfl, hR1, _⟩
              have hR1' := Lib.hid hR1
              clear hR1
              go_wp2_with fail
              go_meet
              exact ⟨i', rfl, hi1, hi2, by rw [← hsc'.out]; exact scanSorted_end_ lt dk b i' (.inr hlt), hR1'.out⟩
          · have hlbI : ¬ (i' : Int) < (b : Int) := by omega
            have hRi' := Lib.hid hRi
            have hsc' := Lib.hid hsc
            clear hsc hRi
            go_wp2_with fail
            go_meet
            exact ⟨i', rfl, hi1, hi2, by rw [← hsc'.out]; exact scanSorted_end_ lt dk b i' (.inl hlb), hRi'.out⟩
      case rest =>
        obtain ⟨i2, rfl, hi1, hi2, hss, hR2⟩ := hcut
        have heq2 := heq'.out
        by_cases hb2 : i2 = b
        · have hbB : ((i2 : Int) == (b : Int)) = true := by simp [hb2]
          have hbE : (i2 : Int) = (b : Int) := by omega
          rw [Sort.partialIns] at heq2
          simp only [hss, if_pos hb2] at heq2
          subst heq2
          have hR2' := Lib.hid hR2
          have hss' := Lib.hid hss
          clear hss hR2
          go_wp2_with fail
          go_ret
          exact ⟨rfl, hR2'.out⟩
        have hbB : ((i2 : Int) == (b : Int)) = false := by simp; omega
        have hbE : ¬ (i2 : Int) = (b : Int) := by omega
        by_cases h50 : l < 50
        · have h50I : (l : Int) < 50 := by omega
          rw [Sort.partialIns] at heq2
          simp only [hss, if_neg hb2, hl, if_pos h50] at heq2
          subst heq2
          have hR2' := Lib.hid hR2
          have hss' := Lib.hid hss
          clear hss hR2
          go_wp2_with fail
          go_ret
          exact ⟨rfl, hR2'.out⟩
        have h50I : ¬ (l : Int) < 50 := by omega
        obtain ⟨p, hp⟩ : ∃ p, i2 - 1 = p := ⟨_, rfl⟩
        obtain ⟨q, hq⟩ : ∃ q, i2 + 1 = q := ⟨_, rfl⟩
        obtain ⟨d1, hd1⟩ : ∃ x, swp dk i2 p = x := ⟨_, rfl⟩
        obtain ⟨d2, hd2⟩ : ∃ x, (if i2 - a ≥ 2 then Sort.shiftDown lt p d1 else d1) = x := ⟨_, rfl⟩
        obtain ⟨d3, hd3⟩ : ∃ x, (if b - i2 ≥ 2 then Sort.shiftUp lt b q d2 else d2) = x := ⟨_, rfl⟩
        rw [partialIns_eq lt a b s i i2 dk d1 d2 d3 hss hb2 (by omega) (by rw [hp]; exact hd1) (by rw [hp]; exact hd2) (by rw [hq]; exact hd3)] at heq2
        have hd1s : d1.size = n := by rw [← hd1, swp_size_, hds]
        have hd2s : d2.size = n := by
          rw [← hd2]
          split
          · rw [shiftDown_size_, hd1s]
          · exact hd1s
        have hd3s : d3.size = n := by
          rw [← hd3]
          split
          · rw [shiftUp_size_ lt b _ _ _ (Nat.le_refl _), hd2s]
          · exact hd2s
        have wp1 : IntKind.i64.wrap ((i2 : Int) - 1) = (p : Int) := (IntWalk.i64_in _ (by omega)).trans (by omega)
        have wq1 : IntKind.i64.wrap ((i2 : Int) + 1) = (q : Int) := (IntWalk.i64_in _ (by omega)).trans (by omega)
        have wia : IntKind.i64.wrap ((i2 : Int) - (a : Int)) = ((i2 - a : Nat) : Int) := (IntWalk.i64_in _ (by omega)).trans (by omega)
        have wbi : IntKind.i64.wrap ((b : Int) - (i2 : Int)) = ((b - i2 : Nat) : Int) := (IntWalk.i64_in _ (by omega)).trans (by omega)
        obtain ⟨u, hu⟩ : ∃ u, i2 - a = u := ⟨_, rfl⟩
        obtain ⟨v, hv⟩ : ∃ v, b - i2 = v := ⟨_, rfl⟩
        rw [hu] at wia hd2
        rw [hv] at wbi hd3
        have hR2' := Lib.hid hR2
        have hss' := Lib.hid hss
        have heq2' := Lib.hid heq2
        have hd2' := Lib.hid hd2
        have hd3' := Lib.hid hd3
        clear hd3 hd2 heq2 hss hR2
        go_wp2_with fail
        refine (E.swap _ dk i2 p hR2'.out hds (by omega) (by omega)).mono ?_
        rw [hd1]
        rintro e w3 ⟨rfl, hR3, _⟩
        have hR3' := Lib.hid hR3
        clear hR3
        go_upto_if 45 with fail
        go_cut [] (fun wx => R wx d2)
        case first =>
          by_cases hu2 : 2 ≤ u
          · have hu2I : (2 : Int) ≤ (u : Int) := by omega
            have hdd := hd2'.out
            rw [if_pos hu2] at hdd
            have hdec : decide ((2 : Int) ≤ (u : Int)) = true := decide_eq_true hu2I
            simp only [hdec]
            have hdd' := Lib.hid hdd
            clear hdd
            go_wp2_with fail
            go_loopw [9] (fun vj wx => ∃ (j' : Nat) (f : Array α), vj = .int .i64 (j' : Int) ∧ j' < n ∧ R wx f ∧ f.size = n ∧ Sort.shiftDown lt j' f = d2) (fun vj _ => (intOf vj).toNat)
            case atStart => exact ⟨p, d1, rfl, by omega, hR3'.out, hd1s, hdd'.out⟩
            case round =>
              obtain ⟨j', f, rfl, hjn, hRf, hfs, hsd⟩ := hrel
              cases j' with
              | zero =>
                rw [Sort.shiftDown] at hsd
                subst hsd
                have hRf' := Lib.hid hRf
                clear hRf
                go_wp2_with fail
                go_meet
                exact hRf'.out
              | succ j' =>
                rw [Sort.shiftDown] at hsd
                have wm : IntKind.i64.wrap (((j' + 1 : Nat) : Int) - 1) = (j' : Int) := (IntWalk.i64_in _ (by omega)).trans (by omega)
                obtain ⟨j1, hj1⟩ : ∃ x, j' + 1 = x := ⟨_, rfl⟩
                rw [hj1] at hsd wm hjn ⊢
                have hj1I : (1 : Int) ≤ (j1 : Int) := by omega
                cases hlt : lt f[j1]! f[j']! with
                | false =>
                  rw [hlt] at hsd
                  simp only [Bool.not_false, if_true] at hsd
                  subst hsd
                  have hRf' := Lib.hid hRf
                  clear hRf
                  go_wp2_with fail
                  refine (E.less _ _ j1 j' hRf'.out hfs (by omega) (by omega)).mono ?_
                  rw [hlt]
                  rintro e w4 ⟨rfl, hR4, _⟩
                  have hR4' := Lib.hid hR4
                  clear hR4
                  go_wp2_with fail
                  go_meet
                  exact hR4'.out
                | true =>
                  rw [hlt] at hsd
                  simp only [Bool.not_true, Bool.false_eq_true, if_false] at hsd
                  have hRf' := Lib.hid hRf
                  have hsd' := Lib.hid hsd
                  clear hsd hRf
                  go_wp2_with fail
                  refine (E.less _ _ j1 j' hRf'.out hfs (by omega) (by omega)).mono ?_
                  rw [hlt]
                  rintro e w4 ⟨rfl, hR4, _⟩
                  have hR4' := Lib.hid hR4
                  clear hR4
                  go_wp2_with fail
                  refine (E.swap _ f j1 j' hR4'.out hfs (by omega) (by omega)).mono ?_
                  rintro e w5 ⟨rfl, hR5, _⟩
                  have hR5' := Lib.hid hR5
                  clear hR5
                  go_wp2_with fail
                  go_roundw
                  case rel => exact ⟨j', swp f j1 j', rfl, by omega, hR5'.out, by rw [swp_size_, hfs], hsd'.out⟩
                  case measure => simp [intOf]; omega
          · have hu2I : ¬ (2 : Int) ≤ (u : Int) := by omega
            have hdd := hd2'.out
            rw [if_neg hu2] at hdd
            subst hdd
            go_wp2_with fail
            go_meet
            exact hR3'.out
        case rest =>
          have hR6 := hcut
          have hR6' := Lib.hid hR6
          clear hR6
          clear hcut
          by_cases hv2 : 2 ≤ v
          · have hv2I : (2 : Int) ≤ (v : Int) := by omega
            have hdd := hd3'.out
            rw [if_pos hv2] at hdd
            have hdd' := Lib.hid hdd
            clear hdd
            go_wp2_with fail
            go_loopw [10] (fun vj wx => ∃ (j' : Nat) (f : Array α), vj = .int .i64 (j' : Int) ∧ i2 < j' ∧ j' ≤ b ∧ R wx f ∧ f.size = n ∧ Sort.shiftUp lt b j' f = d3) (fun vj _ => b - (intOf vj).toNat)
            case atStart => exact ⟨q, d2, rfl, by omega, by omega, hR6'.out, hd2s, hdd'.out⟩
            case round =>
              obtain ⟨j', f, rfl, hjn, hjb, hRf, hfs, hsd⟩ := hrel
              rw [Sort.shiftUp] at hsd
              by_cases hjl : j' < b
              · have hjlI : (j' : Int) < (b : Int) := by omega
                rw [if_pos hjl] at hsd
                have wm : IntKind.i64.wrap ((j' : Int) - 1) = ((j' - 1 : Nat) : Int) := (IntWalk.i64_in _ (by omega)).trans (by omega)
                have wn : IntKind.i64.wrap ((j' : Int) + 1) = ((j' + 1 : Nat) : Int) := (IntWalk.i64_in _ (by omega)).trans (by omega)
                obtain ⟨jm, hjm⟩ : ∃ x, j' - 1 = x := ⟨_, rfl⟩
                rw [hjm] at hsd wm
                cases hlt : lt f[j']! f[jm]! with
                | false =>
                  rw [hlt] at hsd
                  simp only [Bool.not_false, if_true] at hsd
                  subst hsd
                  have hRf' := Lib.hid hRf
                  clear hRf
                  go_wp2_with fail
                  refine (E.less _ _ j' jm hRf'.out hfs (by omega) (by omega)).mono ?_
                  rw [hlt]
                  rintro e w4 ⟨rfl, hR4, _⟩
                  have hR4' := Lib.hid hR4
                  clear hR4
                  go_wp2_with fail
                  exact ⟨⟨i2, jj + 1, s, _, rfl, by go_num, by omega, by omega, by omega, hR4'.out, hfs, heq2'.out⟩, by simp [intOf]; omega⟩
                | true =>
                  rw [hlt] at hsd
                  simp only [Bool.not_true, Bool.false_eq_true, if_false] at hsd
                  have hRf' := Lib.hid hRf
                  have hsd' := Lib.hid hsd
                  clear hsd hRf
                  go_wp2_with fail
                  refine (E.less _ _ j' jm hRf'.out hfs (by omega) (by omega)).mono ?_
                  rw [hlt]
                  rintro e w4 ⟨rfl, hR4, _⟩
                  have hR4' := Lib.hid hR4
                  clear hR4
                  go_wp2_with fail
                  refine (E.swap _ f j' jm hR4'.out hfs (by omega) (by omega)).mono ?_
                  rintro e w5 ⟨rfl, hR5, _⟩
                  have hR5' := Lib.hid hR5
                  clear hR5
                  go_wp2_with fail
                  go_roundw
                  case rel => exact ⟨j' + 1, swp f j' jm, by go_num, by omega, by omega, hR5'.out, by rw [swp_size_, hfs], hsd'.out⟩
                  case measure => simp [intOf]; omega
              · have hjlI : ¬ (j' : Int) < (b : Int) := by omega
                rw [if_neg hjl] at hsd
                subst hsd
                have hRf' := Lib.hid hRf
                clear hRf
                go_wp2_with fail
                exact ⟨⟨i2, jj + 1, s, _, rfl, by go_num, by omega, by omega, by omega, hRf'.out, hfs, heq2'.out⟩, by simp [intOf]; omega⟩
          · have hv2I : ¬ (2 : Int) ≤ (v : Int) := by omega
            have hdd := hd3'.out
            rw [if_neg hv2] at hdd
            subst hdd
            go_wp2_with fail
            go_roundw
            case rel => exact ⟨i2, jj + 1, s, _, rfl, by go_num, by omega, by omega, by omega, hR6'.out, hd2s, heq2'.out⟩
            case measure => simp [intOf]; omega
end Go.Proofs.YtjioghedokbgcaaDoor
