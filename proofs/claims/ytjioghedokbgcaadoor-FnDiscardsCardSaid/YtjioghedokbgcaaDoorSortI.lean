/-
  sort.Sort over a relation: Sort.
-/
import Derived.Test.YtjioghedokbgcaaDoorSortH
namespace Go.Proofs.YtjioghedokbgcaaDoor
open Go Go.RowKit
open Go.Proofs
open Go.Sort hiding Below

variable {α : Type} [Inhabited α] {rv : Addr} {lt : α → α → Bool} {n base : Nat} {R : World → Array α → Prop}

theorem sort_tiny (lt : α → α → Bool) (d : Array α) (h : d.size ≤ 1) : Sort.sort lt d = d := by
  unfold Sort.sort
  rw [pdq_small (by omega)]
  unfold Sort.insertionSort
  rw [Sort.insOuter, if_neg (by omega)]

set_option maxHeartbeats 2000000 in
set_option maxRecDepth 20000 in
theorem sort_any (E : SortEnv rv lt n base R) (hn8 : n < 256) (S : SWO lt) (hlen : ∀ (W : World) (d : Array α), R W d → Calls Tryd.prog 72 #[.pointer (some rv)] W fun e w' => e = .returned (.int .i64 (n : Int)) ∧ R w' d) (d : Array α) (w : World) (hR : R w d) (hd : d.size = n) :
    Calls Tryd.prog 17 #[.iface 38 (.pointer (some rv))] w fun e w' => e = .returned (.tuple #[]) ∧ R w' (Sort.sort lt d) := by
  have hl := hlen w d hR
  have hl' := Lib.hid hl
  clear hl
  by_cases h1 : n ≤ 1
  · have h1I : (n : Int) ≤ 1 := by omega
    rw [sort_tiny lt d (by omega)]
    clear hR
    go_enter Tryd.func17, Tryd.ntmps17
    go_wp2_with fail
    with_reducible refine hl'.out.mono ?_
    rintro e w1 ⟨rfl, hR1⟩
    have hR1' := Lib.hid hR1
    clear hR1
    go_wp2_with fail
    (try simp only [Exit.inBlock, Exit.then]); refine bodyPost_ret (results_none rfl _ _ _) rfl ?_
    exact ⟨rfl, hR1'.out⟩
  · have h1I : ¬ (n : Int) ≤ 1 := by omega
    have wn : IntKind.u64.wrap (n : Int) = (n : Int) := IntWalk.u64_in _ (by omega)
    have hbl := fun W => Lib.hid (bitsLen_any n hn8 W)
    have hk : bitsLen n ≤ 62 := (bitsLen_le_iff n 62).2 (Nat.lt_of_lt_of_le hn8 (by decide))
    unfold Sort.sort
    rw [hd]
    obtain ⟨k, hkk⟩ : ∃ k, bitsLen n = k := ⟨_, rfl⟩
    simp only [hkk] at hbl
    rw [hkk] at hk ⊢
    have hp := fun W (h : R W d) => pdqsort_any E hn8 S (n + 1) 0 n k d W (by omega) h hd (Nat.zero_le _) (Nat.le_refl _) (by omega) (Or.inl rfl)
    clear hR hkk
    have hp' := Lib.hid hp
    clear hp
    go_enter Tryd.func17, Tryd.ntmps17
    go_wp2_with fail
    with_reducible refine hl'.out.mono ?_
    rintro e w1 ⟨rfl, hR1⟩
    have hR1' := Lib.hid hR1
    clear hR1
    go_wp2_with fail
    with_reducible refine (hbl _).out.mono ?_
    rintro e w2 ⟨rfl, rfl⟩
    go_wp2_with fail
    refine (hp'.out _ hR1'.out).mono ?_
    rintro e w3 ⟨rfl, hR3⟩
    have hR3' := Lib.hid hR3
    clear hR3
    go_wp2_with fail
    go_end0
    exact ⟨rfl, hR3'.out⟩
end Go.Proofs.YtjioghedokbgcaaDoor
