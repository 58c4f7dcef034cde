/-
  sort.Sort over a relation: heapSort.
-/
import Derived.Test.YtjioghedokbgcaaDoorSortA
namespace Go.Proofs.YtjioghedokbgcaaDoor
open Go Go.RowKit
open Go.Proofs
open Go.Sort (swp)

variable {α : Type} [Inhabited α] {rv : Addr} {lt : α → α → Bool} {n base : Nat} {R : World → Array α → Prop}

theorem siftDown_size_ (lt : α → α → Bool) (hi first : Nat) : ∀ (k root : Nat) (d : Array α), hi - root ≤ k → (Sort.siftDown lt hi first root d).size = d.size := by
  intro k
  induction k with
  | zero =>
    intro root d h
    rw [Sort.siftDown, dif_pos (by omega)]
  | succ k ih =>
    intro root d h
    rw [Sort.siftDown]
    split
    · rfl
    · split
      · split
        · rfl
        · split
          · rw [ih _ _ (by omega), swp_size_]
          · rfl
      · split
        · rfl
        · rw [ih _ _ (by omega), swp_size_]

set_option maxHeartbeats 4000000 in
set_option maxRecDepth 20000 in
theorem heapSort_any (E : SortEnv rv lt n base R) (a b : Nat) (d : Array α) (w : World) (hR : R w d) (hd : d.size = n) (hab : a ≤ b) (hb : b ≤ n) :
    Calls Tryd.prog 41 #[.iface 38 (.pointer (some rv)), .int .i64 (a : Int), .int .i64 (b : Int)] w fun e w' => e = .returned (.tuple #[]) ∧ R w' (Sort.heapSort lt d a b) := by
  have hn := E.small
  obtain ⟨hi, hhi⟩ : ∃ hi, b - a = hi := ⟨_, rfl⟩
  have w1 : IntKind.i64.wrap ((b : Int) - (a : Int)) = (hi : Int) := (IntWalk.i64_in _ (by omega)).trans (by omega)
  have w2 : IntKind.i64.wrap ((hi : Int) - 1) = (hi : Int) - 1 := IntWalk.i64_in _ (by omega)
  unfold Sort.heapSort
  rw [hhi]
  obtain ⟨d1, hd1⟩ : ∃ d1, Sort.heapBuild lt hi a ((hi - 1) / 2 + 1) d = d1 := ⟨_, rfl⟩
  rw [hd1]
  obtain ⟨r, hr⟩ : ∃ r, Sort.heapPop lt a hi d1 = r := ⟨_, rfl⟩
  rw [hr]
  go_enter Tryd.func41, Tryd.ntmps41
  go_wp2_with fail
  go_loopw [9] (fun v wr => ∃ (k : Nat) (f : Array α), v = .int .i64 ((k : Int) - 1) ∧ k ≤ n + 1 ∧ (0 < k → k - 1 ≤ n) ∧ R wr f ∧ f.size = n ∧ Sort.heapBuild lt hi a k f = d1) (fun v _ => (intOf v + 1).toNat)
  case atStart =>
    refine ⟨(hi - 1) / 2 + 1, d, congrArg (Value.int .i64) ?_, by omega, fun _ => by omega, hR, hd, hd1⟩
    rcases Nat.eq_zero_or_pos hi with h | h
    · subst h; rfl
    · rw [Int.tdiv_eq_ediv_of_nonneg (by omega)]; omega
  case round =>
    obtain ⟨k, f, rfl, hk, hk2, hRf, hfs, hbd⟩ := hrel
    have hRf' := Lib.hid hRf
    clear hRf
    cases k with
    | zero =>
      subst hbd
      rw [show (((0 : Nat) : Int) - 1) = -1 from rfl]
      have hr' := Lib.hid hr
      clear hr
      go_wp2_with fail
      go_loopw [10] (fun v wr => ∃ (k : Nat) (g : Array α), v = .int .i64 ((k : Int) - 1) ∧ k ≤ hi ∧ R wr g ∧ g.size = n ∧ Sort.heapPop lt a k g = r) (fun v _ => (intOf v + 1).toNat)
      case atStart => exact ⟨hi, f, rfl, Nat.le_refl _, hRf'.out, hfs, hr'.out⟩
      case round =>
        obtain ⟨k, g, rfl, hk, hRg, hgs, hbg⟩ := hrel
        have hRg' := Lib.hid hRg
        clear hRg
        cases k with
        | zero =>
          subst hbg
          go_wp2_with fail
          go_end0
          exact ⟨rfl, hRg'.out⟩
        | succ m =>
          rw [Sort.heapPop] at hbg
          have em : (((m + 1 : Nat) : Int) - 1) = (m : Int) := by omega
          rw [em]
          clear em
          obtain ⟨x, hx⟩ : ∃ x, a + m = x := ⟨_, rfl⟩
          rw [hx] at hbg
          have hbg' := Lib.hid hbg
          clear hbg
          have wx : IntKind.i64.wrap ((a : Int) + (m : Int)) = (x : Int) := (IntWalk.i64_in _ (by omega)).trans (by omega)
          have wm : IntKind.i64.wrap ((m : Int) - 1) = (m : Int) - 1 := IntWalk.i64_in _ (by omega)
          have hxn : x < n := by omega
          have han : a < n := by omega
          clear hx
          go_wp2_with fail
          refine (E.swap _ g a x hRg'.out hgs han hxn).mono ?_
          rintro e w3 ⟨rfl, hR3, _⟩
          have hR3' := Lib.hid hR3
          clear hR3
          go_wp2_with fail
          refine (siftDown_any E 0 m a _ _ hR3'.out (by rw [swp_size_, hgs]) (by omega) (by omega)).mono ?_
          rintro e w4 ⟨rfl, hR4⟩
          have hR4' := Lib.hid hR4
          clear hR4
          go_wp2_with fail
          go_roundw
          case rel => exact ⟨m, _, rfl, by omega, hR4'.out, by rw [siftDown_size_ lt m a _ _ _ (Nat.le_refl _), swp_size_, hgs], hbg'.out⟩
          case measure => simp [intOf]
    | succ m =>
      rw [Sort.heapBuild] at hbd
      have hbd' := Lib.hid hbd
      have em : (((m + 1 : Nat) : Int) - 1) = (m : Int) := by omega
      rw [em]
      clear hbd em
      have wm : IntKind.i64.wrap ((m : Int) - 1) = (m : Int) - 1 := IntWalk.i64_in _ (by omega)
      go_wp2_with fail
      refine (siftDown_any E m hi a f _ hRf'.out hfs (by omega) (by omega)).mono ?_
      rintro e w3 ⟨rfl, hR3⟩
      have hR3' := Lib.hid hR3
      clear hR3
      go_wp2_with fail
      go_roundw
      case rel => exact ⟨m, _, rfl, by omega, fun _ => by omega, hR3'.out, by rw [siftDown_size_ lt hi a _ _ _ (Nat.le_refl _), hfs], hbd'.out⟩
      case measure => simp [intOf]
end Go.Proofs.YtjioghedokbgcaaDoor
