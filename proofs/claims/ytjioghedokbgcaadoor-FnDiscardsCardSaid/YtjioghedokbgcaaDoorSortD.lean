/-
  sort.Sort over a relation: choosePivot.
-/
import Derived.Test.YtjioghedokbgcaaDoorSortC
import Derived.Sort.LotD4
import Derived.Deep.DeepCutAuto
namespace Go.Proofs.YtjioghedokbgcaaDoor
open Go Go.RowKit
open Go.Proofs
open Go.Sort (swp)

theorem wrap64_id (x : Int) (h1 : -9223372036854775808 ≤ x) (h2 : x < 9223372036854775808) : wrap64 x = x := by
  unfold wrap64
  omega

theorem pivot_nums (a b l q i j k n : Nat) (hn : n ≤ 4611686018427387904) (hb : b ≤ n) (hab : a ≤ b) (hl : b - a = l) (hq : l / 4 = q) (hi : a + q = i) (hj : a + q * 2 = j) (hk : a + q * 3 = k) :
    IntKind.i64.wrap ((b : Int) - (a : Int)) = (l : Int) ∧ (l : Int).tdiv 4 = (q : Int) ∧ IntKind.i64.wrap (q : Int) = (q : Int) ∧ IntKind.i64.wrap ((q : Int) * 2) = (q : Int) * 2 ∧ IntKind.i64.wrap ((q : Int) * 3) = (q : Int) * 3 ∧
    wrap64 (q : Int) = (q : Int) ∧ wrap64 ((q : Int) * 2) = (q : Int) * 2 ∧ wrap64 ((q : Int) * 3) = (q : Int) * 3 ∧
    IntKind.i64.wrap ((a : Int) + (q : Int)) = (i : Int) ∧ IntKind.i64.wrap ((a : Int) + (q : Int) * 2) = (j : Int) ∧ IntKind.i64.wrap ((a : Int) + (q : Int) * 3) = (k : Int) ∧
    wrap64 ((a : Int) + (q : Int)) = (i : Int) ∧ wrap64 ((a : Int) + (q : Int) * 2) = (j : Int) ∧ wrap64 ((a : Int) + (q : Int) * 3) = (k : Int) := by
  have e1 : (b : Int) - (a : Int) = (l : Int) := by omega
  have e2 : (a : Int) + (q : Int) = (i : Int) := by omega
  have e3 : (a : Int) + (q : Int) * 2 = (j : Int) := by omega
  have e4 : (a : Int) + (q : Int) * 3 = (k : Int) := by omega
  have bl : l ≤ n := by omega
  have bi : i ≤ n := by omega
  have bj : j ≤ n := by omega
  have bk : k ≤ n := by omega
  have bq : q * 3 ≤ n := by omega
  have eq : (l : Int).tdiv 4 = (q : Int) := by rw [Int.tdiv_eq_ediv_of_nonneg (by omega)]; omega
  rw [e1, e2, e3, e4]
  clear e1 e2 e3 e4 hl hq hi hj hk hab hb
  have g : ∀ x : Nat, x ≤ n → IntKind.i64.wrap (x : Int) = (x : Int) := fun x hx => IntWalk.i64_in _ (by omega)
  have g' : ∀ x : Nat, x ≤ n → wrap64 (x : Int) = (x : Int) := fun x hx => wrap64_id _ (by omega) (by omega)
  have g2 := g (q * 2) (by omega)
  have g3 := g (q * 3) (by omega)
  have g2' := g' (q * 2) (by omega)
  have g3' := g' (q * 3) (by omega)
  rw [Int.natCast_mul] at g2 g3 g2' g3'
  exact ⟨g l bl, eq, g q (by omega), g2, g3, g' q (by omega), g2', g3', g i bi, g j bj, g k bk, g' i bi, g' j bj, g' k bk⟩

variable {α : Type} [Inhabited α] {rv : Addr} {lt : α → α → Bool} {n base : Nat} {R : World → Array α → Prop}


set_option maxHeartbeats 4000000 in
set_option maxRecDepth 20000 in
theorem choosePivot_small (E : SortEnv rv lt n base R) (a b : Nat) (d : Array α) (w : World) (hR : R w d) (hd : d.size = n) (hab : a + 8 ≤ b) (h50 : b < a + 50) (hb : b ≤ n) :
    Calls Tryd.prog 43 #[.iface 38 (.pointer (some rv)), .int .i64 (a : Int), .int .i64 (b : Int)] w fun e w' =>
      e = .returned (.tuple #[.int .i64 ((Sort.choosePivot lt d a b).1 : Nat), .int .i64 (Sort.hintCode (Sort.choosePivot lt d a b).2)]) ∧ R w' d ∧ (Sort.choosePivot lt d a b).1 < n := by
  have hn := E.small
  obtain ⟨l, hl⟩ : ∃ l, b - a = l := ⟨_, rfl⟩
  obtain ⟨q, hq⟩ : ∃ q, l / 4 = q := ⟨_, rfl⟩
  obtain ⟨i, hi⟩ : ∃ i, a + q = i := ⟨_, rfl⟩
  obtain ⟨j, hj⟩ : ∃ j, a + q * 2 = j := ⟨_, rfl⟩
  obtain ⟨k, hk⟩ : ∃ k, a + q * 3 = k := ⟨_, rfl⟩
  obtain ⟨⟨x, t⟩, hm⟩ : ∃ r, Sort.median lt d i j k 0 = r := ⟨_, rfl⟩
  have hp : Sort.choosePivot lt d a b = (x, if t = 0 then .increasing else if t = 12 then .decreasing else .unknown) := by
    simp only [Sort.choosePivot, hl, hq, Nat.mul_one, hi, hj, hk, show l ≥ 8 by omega, show ¬ l ≥ 50 by omega, if_true, if_false, hm]
  rw [hp]
  have hab1 : a ≤ b := by omega
  have l8 : 8 ≤ l := by omega
  have l50 : ¬ 50 ≤ l := by omega
  have hm' := Lib.hid hm
  have bi : i < n := by omega
  have bj : j < n := by omega
  have bk : k < n := by omega
  have hR' := Lib.hid hR
  obtain ⟨wl, wq, u1, u2, u3, v1, v2, v3, wi, wj, wk, vi, vj, vk⟩ := pivot_nums a b l q i j k n (Nat.le_of_lt hn) hb hab1 hl hq hi hj hk
  clear hm hp hl hq hi hj hk hab h50 hb hR hab1
  go_enter Tryd.func43, Tryd.ntmps43
  go_wp2_with fail
  clear wl wq u1 u2 u3 v1 v2 v3 wi wj wk vi vj vk
  refine (median_any E i j k 0 w.heap.size x t d hm'.out _ (E.alloc _ _ _ hR'.out) hd bi bj bk (by omega) (E.size _ _ hR'.out) (Bk.at_ _ _ _ _ rfl)).mono ?_
  rintro e w1 ⟨rfl, hR1, hS1, hx, ht⟩
  have c0 := hS1.cell 0
  simp at c0
  have hR1' := Lib.hid hR1
  clear hR1 hS1
  by_cases h0 : t = 0
  · subst h0
    go_wp2_with fail
    go_ret2
    first | exact ⟨rfl, hR1'.out, hx⟩ | exact ⟨rfl, hR1'.out⟩
  · have h0B : ((t : Int) == 0) = false := by simp; omega
    by_cases h12 : t = 12
    · subst h12
      go_wp2_with fail
      go_ret2
      first | exact ⟨rfl, hR1'.out, hx⟩ | exact ⟨rfl, hR1'.out⟩
    · have h12B : ((t : Int) == 12) = false := by simp; omega
      go_wp2_with fail
      go_ret2
      first
        | exact ⟨rfl, hR1'.out⟩
        | (refine ⟨?_, hR1'.out⟩; rw [if_neg h0, if_neg h12]; rfl)
        | (simp [h0, h12]; exact ⟨rfl, hR1'.out⟩)

set_option maxHeartbeats 4000000 in
set_option maxRecDepth 20000 in
theorem choosePivot_great (E : SortEnv rv lt n base R) (a b : Nat) (d : Array α) (w : World) (hR : R w d) (hd : d.size = n) (hab : a + 50 ≤ b) (hb : b ≤ n) :
    Calls Tryd.prog 43 #[.iface 38 (.pointer (some rv)), .int .i64 (a : Int), .int .i64 (b : Int)] w fun e w' =>
      e = .returned (.tuple #[.int .i64 ((Sort.choosePivot lt d a b).1 : Nat), .int .i64 (Sort.hintCode (Sort.choosePivot lt d a b).2)]) ∧ R w' d ∧ (Sort.choosePivot lt d a b).1 < n := by
  have hn := E.small
  obtain ⟨l, hl⟩ : ∃ l, b - a = l := ⟨_, rfl⟩
  obtain ⟨q, hq⟩ : ∃ q, l / 4 = q := ⟨_, rfl⟩
  obtain ⟨i, hi⟩ : ∃ i, a + q = i := ⟨_, rfl⟩
  obtain ⟨j, hj⟩ : ∃ j, a + q * 2 = j := ⟨_, rfl⟩
  obtain ⟨k, hk⟩ : ∃ k, a + q * 3 = k := ⟨_, rfl⟩
  obtain ⟨⟨i1, t1⟩, hm1⟩ : ∃ r, Sort.medianAdjacent lt d i 0 = r := ⟨_, rfl⟩
  obtain ⟨⟨j1, t2⟩, hm2⟩ : ∃ r, Sort.medianAdjacent lt d j t1 = r := ⟨_, rfl⟩
  obtain ⟨⟨k1, t3⟩, hm3⟩ : ∃ r, Sort.medianAdjacent lt d k t2 = r := ⟨_, rfl⟩
  obtain ⟨⟨x, t⟩, hm⟩ : ∃ r, Sort.median lt d i1 j1 k1 t3 = r := ⟨_, rfl⟩
  have hp : Sort.choosePivot lt d a b = (x, if t = 0 then .increasing else if t = 12 then .decreasing else .unknown) := by
    simp only [Sort.choosePivot, hl, hq, Nat.mul_one, hi, hj, hk, show l ≥ 8 by omega, show l ≥ 50 by omega, if_true, hm1, hm2, hm3, hm]
  rw [hp]
  have hab1 : a ≤ b := by omega
  have l8 : 8 ≤ l := by omega
  have l50 : 50 ≤ l := by omega
  have bi0 : 0 < i := by omega
  have bj0 : 0 < j := by omega
  have bk0 : 0 < k := by omega
  have bi : i + 1 < n := by omega
  have bj : j + 1 < n := by omega
  have bk : k + 1 < n := by omega
  have hR' := Lib.hid hR
  obtain ⟨wl, wq, u1, u2, u3, v1, v2, v3, wi, wj, wk, vi, vj, vk⟩ := pivot_nums a b l q i j k n (Nat.le_of_lt hn) hb hab1 hl hq hi hj hk
  clear hp hl hq hi hj hk hab hb hR hab1
  have hm' := Lib.hid hm
  have hm1' := Lib.hid hm1
  have hm2' := Lib.hid hm2
  have hm3' := Lib.hid hm3
  clear hm3 hm2 hm1 hm
  go_enter Tryd.func43, Tryd.ntmps43
  go_wp2_with fail
  clear wl wq u1 u2 u3 v1 v2 v3 wi wj wk vi vj vk
  refine (medianAdjacent_any E i 0 w.heap.size i1 t1 d hm1'.out _ (E.alloc _ _ _ hR'.out) hd bi0 bi (by omega) (E.size _ _ hR'.out) (Bk.at_ _ _ _ _ rfl)).mono ?_
  rintro e w1 ⟨rfl, hR1, hS1, hx1, ht1⟩
  have hR1' := Lib.hid hR1
  have hS1' := Lib.hid hS1
  clear hS1 hR1
  go_wp2_with fail
  refine (medianAdjacent_any E j t1 w.heap.size j1 t2 d hm2'.out _ hR1'.out hd bj0 bj (by omega) (E.size _ _ hR'.out) hS1'.out).mono ?_
  rintro e w2 ⟨rfl, hR2, hS2, hx2, ht2⟩
  have hR2' := Lib.hid hR2
  have hS2' := Lib.hid hS2
  clear hS2 hR2
  go_wp2_with fail
  refine (medianAdjacent_any E k t2 w.heap.size k1 t3 d hm3'.out _ hR2'.out hd bk0 bk (by omega) (E.size _ _ hR'.out) hS2'.out).mono ?_
  rintro e w3 ⟨rfl, hR3, hS3, hx3, ht3⟩
  have hR3' := Lib.hid hR3
  have hS3' := Lib.hid hS3
  clear hS3 hR3
  go_wp2_with fail
  clear hR1' hR2'
  refine (median_any E i1 j1 k1 t3 w.heap.size x t d hm'.out _ hR3'.out hd hx1 hx2 hx3 (by omega) (E.size _ _ hR'.out) hS3'.out).mono ?_
  rintro e w4 ⟨rfl, hR1, hS4, hx, ht⟩
  have c0 := hS4.cell 0
  simp at c0
  have hR1' := Lib.hid hR1
  clear hR1 hS4
  by_cases h0 : t = 0
  · subst h0
    go_wp2_with fail
    go_ret2
    first | exact ⟨rfl, hR1'.out, hx⟩ | exact ⟨rfl, hR1'.out⟩
  · have h0B : ((t : Int) == 0) = false := by simp; omega
    by_cases h12 : t = 12
    · subst h12
      go_wp2_with fail
      go_ret2
      first | exact ⟨rfl, hR1'.out, hx⟩ | exact ⟨rfl, hR1'.out⟩
    · have h12B : ((t : Int) == 12) = false := by simp; omega
      go_wp2_with fail
      go_ret2
      first
        | exact ⟨rfl, hR1'.out⟩
        | (refine ⟨?_, hR1'.out⟩; rw [if_neg h0, if_neg h12]; rfl)
        | (simp [h0, h12]; exact ⟨rfl, hR1'.out⟩)

theorem choosePivot_any (E : SortEnv rv lt n base R) (a b : Nat) (d : Array α) (w : World) (hR : R w d) (hd : d.size = n) (hab : a + 8 ≤ b) (hb : b ≤ n) :
    Calls Tryd.prog 43 #[.iface 38 (.pointer (some rv)), .int .i64 (a : Int), .int .i64 (b : Int)] w fun e w' =>
      e = .returned (.tuple #[.int .i64 ((Sort.choosePivot lt d a b).1 : Nat), .int .i64 (Sort.hintCode (Sort.choosePivot lt d a b).2)]) ∧ R w' d := by
  by_cases h50 : b < a + 50
  · exact (choosePivot_small E a b d w hR hd hab h50 hb).mono fun _ _ h => ⟨h.1, h.2.1⟩
  · exact (choosePivot_great E a b d w hR hd (by omega) hb).mono fun _ _ h => ⟨h.1, h.2.1⟩
end Go.Proofs.YtjioghedokbgcaaDoor
