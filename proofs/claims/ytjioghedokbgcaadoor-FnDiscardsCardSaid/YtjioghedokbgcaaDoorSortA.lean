/-
  sort.Sort over whatever relation R tells between the memory and an array: insertionSort.
-/
import Derived.Test.YtjioghedokbgcaaDoorRows
import Derived.Test.YtjioghedokbgcaaDoorMem
import Derived.WalkKit
import Derived.Sort.Defs
namespace Go.Proofs.YtjioghedokbgcaaDoor
open Go Go.RowKit
open Go.Proofs
open Go.Sort (swp)

/-- What is asked of the caller's two methods. -/
structure SortEnv {α : Type} [Inhabited α] (rv : Addr) (lt : α → α → Bool) (n base : Nat) (R : World → Array α → Prop) : Prop where
  less : ∀ (W : World) (d : Array α) (i j : Nat), R W d → d.size = n → i < n → j < n →
    Calls Tryd.prog 73 #[.pointer (some rv), .int .i64 (i : Int), .int .i64 (j : Int)] W fun e w' => e = .returned (.bool (lt d[i]! d[j]!)) ∧ R w' d ∧ Below W.heap.size W w'
  swap : ∀ (W : World) (d : Array α) (i j : Nat), R W d → d.size = n → i < n → j < n →
    Calls Tryd.prog 74 #[.pointer (some rv), .int .i64 (i : Int), .int .i64 (j : Int)] W fun e w' => e = .returned (.tuple #[]) ∧ R w' (swp d i j) ∧ (∀ k, base ≤ k → k < W.heap.size → w'.heap[k]? = W.heap[k]?)
  alloc : ∀ (W : World) (d : Array α) (o : Obj), R W d → R (W.alloc o) d
  drew : ∀ (W : World) (d : Array α), R W d → R W.drew d
  store : ∀ (W : World) (d : Array α) (p : Addr) (v : Value), R W d → base ≤ p.block → R (W.setCell p v) d
  size : ∀ (W : World) (d : Array α), R W d → base ≤ W.heap.size
  small : n < 4611686018427387904

theorem swp_size_ {α : Type} [Inhabited α] (d : Array α) (i j : Nat) : (swp d i j).size = d.size := by simp [swp]

variable {α : Type} [Inhabited α] {rv : Addr} {lt : α → α → Bool} {n base : Nat} {R : World → Array α → Prop}

theorem insInner_stop (lt : α → α → Bool) {a j : Nat} {f : Array α} (h : ¬ a < j) : Sort.insInner lt a j f = f := by
  cases j with
  | zero => rfl
  | succ m =>
    rw [Sort.insInner]
    simp [show ¬ m + 1 > a by omega]

set_option maxHeartbeats 4000000 in
set_option maxRecDepth 20000 in
theorem insertionSort_any (E : SortEnv rv lt n base R) (a b : Nat) (d : Array α) (w : World) (hR : R w d) (hd : d.size = n) (hab : a ≤ b) (hb : b ≤ n) :
    Calls Tryd.prog 40 #[.iface 38 (.pointer (some rv)), .int .i64 (a : Int), .int .i64 (b : Int)] w fun e w' => e = .returned (.tuple #[]) ∧ R w' (Sort.insertionSort lt d a b) := by
  have hn := E.small
  have wa : IntKind.i64.wrap ((a : Int) + 1) = ((a + 1 : Nat) : Int) := (IntWalk.i64_in _ (by omega)).trans (by omega)
  unfold Sort.insertionSort
  obtain ⟨r, hr⟩ : ∃ r, Sort.insOuter lt a b (a + 1) d = r := ⟨_, rfl⟩
  rw [hr]
  go_enter Tryd.func40, Tryd.ntmps40
  go_wp2_with fail
  go_loopw [6] (fun v wr => ∃ (i : Nat) (e : Array α), v = .int .i64 (i : Int) ∧ a + 1 ≤ i ∧ i ≤ n + 1 ∧ R wr e ∧ e.size = n ∧ Sort.insOuter lt a b i e = r) (fun v _ => n + 1 - (intOf v).toNat)
  case atStart => exact ⟨a + 1, d, by go_num, Nat.le_refl _, by omega, hR, hd, hr⟩
  case round =>
    obtain ⟨i, e, rfl, hai, hin, hRe, hes, hie⟩ := hrel
    by_cases hib : i < b
    · rw [Sort.insOuter, if_pos hib] at hie
      have hie' := Lib.hid hie
      have hRe' := Lib.hid hRe
      clear hie hRe
      go_wp2_with fail
      go_loopw [7] (fun v wr => ∃ (j : Nat) (f : Array α), v = .int .i64 (j : Int) ∧ a ≤ j ∧ j ≤ i ∧ R wr f ∧ f.size = n ∧ Sort.insInner lt a j f = Sort.insInner lt a i e) (fun v _ => (intOf v).toNat)
      case atStart => exact ⟨i, e, rfl, by omega, Nat.le_refl _, hRe'.out, hes, rfl⟩
      case round =>
        obtain ⟨j, f, rfl, haj, hji, hRf, hfs, hin2⟩ := hrel
        by_cases hja : a < j
        · obtain ⟨m, rfl⟩ : ∃ m, j = m + 1 := ⟨j - 1, by omega⟩
          have wj : IntKind.i64.wrap (((m + 1 : Nat) : Int) - 1) = (m : Int) := (IntWalk.i64_in _ (by omega)).trans (by omega)
          obtain ⟨j, hj⟩ : ∃ j, m + 1 = j := ⟨_, rfl⟩
          rw [Sort.insInner, hj] at hin2
          rw [hj] at wj haj hji hja ⊢
          have hRf' := Lib.hid hRf
          have hin2' := Lib.hid hin2
          have hj' := Lib.hid hj
          clear hRf hin2 hj
          cases hlt : lt f[j]! f[m]!
          · go_wp2_with fail
            refine (E.less _ f j m hRf'.out hfs (by omega) (by have := hj'.out; omega)).mono ?_
            rw [hlt]
            rintro x w1 ⟨rfl, hR1, _⟩
            have hR1' := Lib.hid hR1
            clear hR1
            go_wp2_with fail
            refine ⟨⟨i + 1, f, by go_num, by omega, by omega, hR1'.out, hfs, ?_⟩, by simp [intOf]; omega⟩
            have hf : f = Sort.insInner lt a i e := by
              rw [← hin2'.out, hlt]
              simp
            rw [hf]
            exact hie'.out
          · go_wp2_with fail
            refine (E.less _ f j m hRf'.out hfs (by omega) (by have := hj'.out; omega)).mono ?_
            rw [hlt]
            rintro x w1 ⟨rfl, hR1, _⟩
            have hR1' := Lib.hid hR1
            clear hR1
            go_wp2_with fail
            refine (E.swap _ f j m hR1'.out hfs (by omega) (by have := hj'.out; omega)).mono ?_
            rintro x w2 ⟨rfl, hR2, _⟩
            have hR2' := Lib.hid hR2
            clear hR2
            go_wp2_with fail
            go_roundw
            case rel =>
              refine ⟨m, swp f j m, by go_num, by have := hj'.out; omega, by have := hj'.out; omega, hR2'.out, by rw [swp_size_, hfs], ?_⟩
              rw [← hin2'.out, hlt]
              simp [hja]
            case measure => have := hj'.out; simp [intOf]; omega
        · rw [insInner_stop lt hja] at hin2
          subst hin2
          have hRf' := Lib.hid hRf
          clear hRf
          go_wp2_with fail
          exact ⟨⟨i + 1, _, by go_num, by omega, by omega, hRf'.out, hfs, hie'.out⟩, by simp [intOf]; omega⟩
    · rw [Sort.insOuter, if_neg hib] at hie
      subst hie
      go_wp2_with fail
      go_end0
      exact ⟨rfl, hRe⟩

set_option maxHeartbeats 4000000 in
set_option maxRecDepth 20000 in
theorem siftDown_any (E : SortEnv rv lt n base R) (lo hi first : Nat) (d : Array α) (w : World) (hR : R w d) (hd : d.size = n) (hlo : lo ≤ n) (hhi : first + hi ≤ n) :
    Calls Tryd.prog 50 #[.iface 38 (.pointer (some rv)), .int .i64 (lo : Int), .int .i64 (hi : Int), .int .i64 (first : Int)] w fun e w' => e = .returned (.tuple #[]) ∧ R w' (Sort.siftDown lt hi first lo d) := by
  have hn := E.small
  obtain ⟨r, hr⟩ : ∃ r, Sort.siftDown lt hi first lo d = r := ⟨_, rfl⟩
  rw [hr]
  go_enter Tryd.func50, Tryd.ntmps50
  go_wp2_with fail
  go_loopw [8] (fun v wr => ∃ (root : Nat) (f : Array α), v = .int .i64 (root : Int) ∧ root ≤ n ∧ R wr f ∧ f.size = n ∧ Sort.siftDown lt hi first root f = r) (fun v _ => n - (intOf v).toNat)
  case atStart => exact ⟨lo, d, rfl, hlo, hR, hd, hr⟩
  case round =>
    obtain ⟨root, f, rfl, hrt, hRf, hfs, hsf⟩ := hrel
    obtain ⟨c, hc⟩ : ∃ c, 2 * root + 1 = c := ⟨_, rfl⟩
    have w1 : IntKind.i64.wrap (2 * (root : Int)) = ((2 * root : Nat) : Int) := (IntWalk.i64_in _ (by omega)).trans (by omega)
    have w2 : IntKind.i64.wrap (((2 * root : Nat) : Int) + 1) = (c : Int) := (IntWalk.i64_in _ (by omega)).trans (by omega)
    have w2' : IntKind.i64.wrap (2 * (root : Int) + 1) = (c : Int) := (IntWalk.i64_in _ (by omega)).trans (by omega)
    rw [Sort.siftDown] at hsf
    simp only [show 2 * root + 2 = c + 1 by omega, hc] at hsf
    have hRf' := Lib.hid hRf
    have hc' := Lib.hid hc
    clear hRf hc
    by_cases hch : hi ≤ c
    · rw [dif_pos hch] at hsf
      subst hsf
      go_wp2_with fail
      go_end0
      exact ⟨rfl, hRf'.out⟩
    · rw [dif_neg hch] at hsf
      obtain ⟨c', hc1'⟩ : ∃ x, c + 1 = x := ⟨_, rfl⟩
      obtain ⟨x, hx⟩ : ∃ x, first + c = x := ⟨_, rfl⟩
      obtain ⟨y, hy⟩ : ∃ y, first + c + 1 = y := ⟨_, rfl⟩
      obtain ⟨z, hz⟩ : ∃ z, first + root = z := ⟨_, rfl⟩
      have hy2 : first + c' = y := by omega
      rw [hc1', hx, hz, hy2] at hsf
      rw [show x + 1 = y by omega] at hsf
      have w3 : IntKind.i64.wrap ((c : Int) + 1) = (c' : Int) := (IntWalk.i64_in _ (by omega)).trans (by omega)
      have w4 : IntKind.i64.wrap ((first : Int) + (c : Int)) = (x : Int) := (IntWalk.i64_in _ (by omega)).trans (by omega)
      have w4' : IntKind.i64.wrap ((first : Int) + (c' : Int)) = (y : Int) := (IntWalk.i64_in _ (by omega)).trans (by omega)
      have w5 : IntKind.i64.wrap ((x : Int) + 1) = (y : Int) := (IntWalk.i64_in _ (by omega)).trans (by omega)
      have w6 : IntKind.i64.wrap ((first : Int) + (root : Int)) = (z : Int) := (IntWalk.i64_in _ (by have := hc'.out; omega)).trans (by omega)
      have eqs := Lib.hid (And.intro hc1' (And.intro hx (And.intro hy hz)))
      have hxn : x < n := by omega
      have hzn : z < n := by have := hc'.out; omega
      clear hc1' hx hy hz hy2
      -- the tail: from the child on
      by_cases hc1 : c' < hi
      · have hyn : y < n := by have := eqs.out; omega
        simp only [hc1, decide_true, Bool.true_and] at hsf
        cases hlt : lt f[x]! f[y]!
        · rw [hlt] at hsf
          simp only [Bool.false_eq_true, if_false] at hsf
          have hsf' := Lib.hid hsf
          clear hsf
          go_wp2_with fail
          refine (E.less _ f x y hRf'.out hfs hxn hyn).mono ?_
          rw [hlt]
          rintro e w1 ⟨rfl, hR1, _⟩
          have hR1' := Lib.hid hR1
          clear hR1
          go_wp2_with fail
          refine (E.less _ f z x hR1'.out hfs hzn hxn).mono ?_
          cases hlt2 : lt f[z]! f[x]!
          · rintro e w2 ⟨rfl, hR2, _⟩
            have hR2' := Lib.hid hR2
            clear hR2
            go_wp2_with fail
            refine bodyPost_ret (results_none rfl _ _ _) rfl ?_
            refine ⟨rfl, ?_⟩
            rw [← hsf'.out, hlt2]
            exact hR2'.out
          · rintro e w2 ⟨rfl, hR2, _⟩
            have hR2' := Lib.hid hR2
            clear hR2
            go_wp2_with fail
            refine (E.swap _ f z x hR2'.out hfs hzn hxn).mono ?_
            rintro e w3 ⟨rfl, hR3, _⟩
            have hR3' := Lib.hid hR3
            clear hR3
            go_wp2_with fail
            go_roundw
            case rel =>
              refine ⟨c, swp f z x, rfl, by omega, hR3'.out, by rw [swp_size_, hfs], ?_⟩
              rw [← hsf'.out, hlt2]
              rfl
            case measure => have := hc'.out; simp [intOf]; omega
        · rw [hlt] at hsf
          simp only [if_true] at hsf
          have hsf' := Lib.hid hsf
          clear hsf
          go_wp2_with fail
          refine (E.less _ f x y hRf'.out hfs hxn hyn).mono ?_
          rw [hlt]
          rintro e w1 ⟨rfl, hR1, _⟩
          have hR1' := Lib.hid hR1
          clear hR1
          go_wp2_with fail
          refine (E.less _ f z y hR1'.out hfs hzn hyn).mono ?_
          cases hlt2 : lt f[z]! f[y]!
          · rintro e w2 ⟨rfl, hR2, _⟩
            have hR2' := Lib.hid hR2
            clear hR2
            go_wp2_with fail
            refine bodyPost_ret (results_none rfl _ _ _) rfl ?_
            refine ⟨rfl, ?_⟩
            rw [← hsf'.out, hlt2]
            exact hR2'.out
          · rintro e w2 ⟨rfl, hR2, _⟩
            have hR2' := Lib.hid hR2
            clear hR2
            go_wp2_with fail
            refine (E.swap _ f z y hR2'.out hfs hzn hyn).mono ?_
            rintro e w3 ⟨rfl, hR3, _⟩
            have hR3' := Lib.hid hR3
            clear hR3
            go_wp2_with fail
            go_roundw
            case rel =>
              refine ⟨c', swp f z y, rfl, by have := eqs.out; omega, hR3'.out, by rw [swp_size_, hfs], ?_⟩
              rw [← hsf'.out, hlt2]
              simp
            case measure => have := hc'.out; have := eqs.out; simp [intOf]; omega
      · simp only [hc1, decide_false, Bool.false_and, Bool.false_eq_true, if_false] at hsf
        have hsf' := Lib.hid hsf
        clear hsf
        go_wp2_with fail
        refine (E.less _ f z x hRf'.out hfs hzn hxn).mono ?_
        cases hlt2 : lt f[z]! f[x]!
        · rintro e w2 ⟨rfl, hR2, _⟩
          have hR2' := Lib.hid hR2
          clear hR2
          go_wp2_with fail
          refine bodyPost_ret (results_none rfl _ _ _) rfl ?_
          refine ⟨rfl, ?_⟩
          rw [← hsf'.out, hlt2]
          exact hR2'.out
        · rintro e w2 ⟨rfl, hR2, _⟩
          have hR2' := Lib.hid hR2
          clear hR2
          go_wp2_with fail
          refine (E.swap _ f z x hR2'.out hfs hzn hxn).mono ?_
          rintro e w3 ⟨rfl, hR3, _⟩
          have hR3' := Lib.hid hR3
          clear hR3
          go_wp2_with fail
          go_roundw
          case rel =>
            refine ⟨c, swp f z x, rfl, by omega, hR3'.out, by rw [swp_size_, hfs], ?_⟩
            rw [← hsf'.out, hlt2]
            rfl
          case measure => have := hc'.out; simp [intOf]; omega
end Go.Proofs.YtjioghedokbgcaaDoor
