/-
  sort.Sort over a relation: reverseRange, order2, median, medianAdjacent.
-/
import Derived.Test.YtjioghedokbgcaaDoorSortB
namespace Go.Proofs.YtjioghedokbgcaaDoor
open Go Go.RowKit
open Go.Proofs
open Go.Sort (swp)

variable {α : Type} [Inhabited α] {rv : Addr} {lt : α → α → Bool} {n base : Nat} {R : World → Array α → Prop}

set_option maxHeartbeats 4000000 in
set_option maxRecDepth 20000 in
theorem reverseRange_any (E : SortEnv rv lt n base R) (a b : Nat) (d : Array α) (w : World) (hR : R w d) (hd : d.size = n) (hab : a < b) (hb : b ≤ n) :
    Calls Tryd.prog 44 #[.iface 38 (.pointer (some rv)), .int .i64 (a : Int), .int .i64 (b : Int)] w fun e w' => e = .returned (.tuple #[]) ∧ R w' (Sort.reverseRange d a b) := by
  have hn := E.small
  unfold Sort.reverseRange
  obtain ⟨j0, hj0⟩ : ∃ j, b - 1 = j := ⟨_, rfl⟩
  rw [hj0]
  have w1 : IntKind.i64.wrap ((b : Int) - 1) = (j0 : Int) := (IntWalk.i64_in _ (by omega)).trans (by omega)
  obtain ⟨r, hr⟩ : ∃ r, Sort.reverseLoop a j0 d = r := ⟨_, rfl⟩
  rw [hr]
  go_enter Tryd.func44, Tryd.ntmps44
  go_wp2_with fail
  go_loopw [6, 7] (fun u v wr => ∃ (i j : Nat) (f : Array α), u = .int .i64 (i : Int) ∧ v = .int .i64 (j : Int) ∧ i ≤ n ∧ j < n ∧ R wr f ∧ f.size = n ∧ Sort.reverseLoop i j f = r) (fun u v _ => (intOf v).toNat)
  case atStart => exact ⟨a, j0, d, rfl, rfl, by omega, by omega, hR, hd, hr⟩
  case round =>
    obtain ⟨i, j, f, rfl, rfl, hi, hj, hRf, hfs, hrl⟩ := hrel
    rw [Sort.reverseLoop] at hrl
    have hRf' := Lib.hid hRf
    clear hRf
    by_cases hij : i < j
    · rw [if_pos hij] at hrl
      obtain ⟨i', hi'⟩ : ∃ x, i + 1 = x := ⟨_, rfl⟩
      obtain ⟨j', hj'⟩ : ∃ x, j - 1 = x := ⟨_, rfl⟩
      rw [hi', hj'] at hrl
      have wi : IntKind.i64.wrap ((i : Int) + 1) = (i' : Int) := (IntWalk.i64_in _ (by omega)).trans (by omega)
      have wj : IntKind.i64.wrap ((j : Int) - 1) = (j' : Int) := (IntWalk.i64_in _ (by omega)).trans (by omega)
      have hrl' := Lib.hid hrl
      have eqs := Lib.hid (And.intro hi' hj')
      clear hrl hi' hj'
      go_wp2_with fail
      refine (E.swap _ f i j hRf'.out hfs (by omega) (by omega)).mono ?_
      rintro e w2 ⟨rfl, hR2, _⟩
      have hR2' := Lib.hid hR2
      clear hR2
      go_wp2_with fail
      go_roundw
      case rel => exact ⟨i', j', swp f i j, rfl, rfl, by have := eqs.out; omega, by have := eqs.out; omega, hR2'.out, by rw [swp_size_, hfs], hrl'.out⟩
      case measure => have := eqs.out; simp [intOf]; omega
    · rw [if_neg hij] at hrl
      subst hrl
      go_wp2_with fail
      go_end0
      exact ⟨rfl, hRf'.out⟩

set_option maxHeartbeats 4000000 in
set_option maxRecDepth 20000 in
theorem order2_any (E : SortEnv rv lt n base R) (a b s sb : Nat) (d : Array α) (w : World) (hR : R w d) (hd : d.size = n) (ha : a < n) (hb : b < n) (hs : s < 4611686018427387904) (hsb : base ≤ sb) (hS : Bk w sb 3 #[.int .i64 (s : Int)]) :
    Calls Tryd.prog 55 #[.iface 38 (.pointer (some rv)), .int .i64 (a : Int), .int .i64 (b : Int), .pointer (some ⟨sb, 0, none⟩)] w fun e w' =>
      e = .returned (.tuple #[.int .i64 ((Sort.order2 lt d a b s).1 : Nat), .int .i64 ((Sort.order2 lt d a b s).2.1 : Nat)]) ∧ R w' d ∧ Bk w' sb 3 #[.int .i64 ((Sort.order2 lt d a b s).2.2 : Nat)] := by
  obtain ⟨r, hr⟩ : ∃ r, Sort.order2 lt d a b s = r := ⟨_, rfl⟩
  rw [hr]
  rw [Sort.order2] at hr
  have hr' := Lib.hid hr
  clear hr
  have ws : IntKind.i64.wrap ((s : Int) + 1) = ((s + 1 : Nat) : Int) := (IntWalk.i64_in _ (by omega)).trans (by omega)
  go_enter Tryd.func55, Tryd.ntmps55
  go_wp2_with fail
  refine (E.less _ d b a hR hd hb ha).mono ?_
  obtain ⟨t, ht⟩ : ∃ t, lt d[b]! d[a]! = t := ⟨_, rfl⟩
  have ht' := Lib.hid ht
  rw [ht]
  clear ht
  cases t
  · rintro e w1 ⟨rfl, hR1, hb1⟩
    go_wp2_with fail
    go_ret2
    have e := hr'.out
    rw [ht'.out, if_neg (by simp)] at e
    subst e
    exact ⟨rfl, hR1, hS.below hb1 hS.lt⟩
  · rintro e w1 ⟨rfl, hR1, hb1⟩
    have hS1 := hS.below hb1 hS.lt
    have c0 := hS1.cell 0
    have f0 := hS1.free 0
    simp at c0
    have hS1' := Lib.hid hS1
    have hR1' := Lib.hid hR1
    clear hS hS1 hR1 hR
    go_wp2_with fail
    go_ret2
    have e := hr'.out
    rw [ht'.out, if_pos rfl] at e
    subst e
    refine ⟨rfl, E.store _ _ ⟨sb, 0, none⟩ _ hR1'.out hsb, ?_⟩
    exact hS1'.out.set 0 (.int .i64 ((s + 1 : Nat) : Int))

theorem order2_bounds (lt : α → α → Bool) (d : Array α) {a b s n : Nat} (ha : a < n) (hb : b < n) : (Sort.order2 lt d a b s).1 < n ∧ (Sort.order2 lt d a b s).2.1 < n ∧ (Sort.order2 lt d a b s).2.2 ≤ s + 1 := by
  unfold Sort.order2
  split
  · exact ⟨hb, ha, Nat.le_refl _⟩
  · exact ⟨ha, hb, Nat.le_succ _⟩

theorem order2_at (E : SortEnv rv lt n base R) (a b s sb x y t : Nat) (d : Array α) (hr : Sort.order2 lt d a b s = (x, y, t)) (w : World) (hR : R w d) (hd : d.size = n) (ha : a < n) (hb : b < n) (hs : s < 4611686018427387904) (hsb : base ≤ sb) (hS : Bk w sb 3 #[.int .i64 (s : Int)]) :
    Calls Tryd.prog 55 #[.iface 38 (.pointer (some rv)), .int .i64 (a : Int), .int .i64 (b : Int), .pointer (some ⟨sb, 0, none⟩)] w fun e w' =>
      e = .returned (.tuple #[.int .i64 (x : Int), .int .i64 (y : Int)]) ∧ R w' d ∧ Bk w' sb 3 #[.int .i64 (t : Int)] := by
  have h := order2_any E a b s sb d w hR hd ha hb hs hsb hS
  rw [hr] at h
  exact h

set_option maxHeartbeats 4000000 in
set_option maxRecDepth 20000 in
theorem median_any (E : SortEnv rv lt n base R) (a b c s sb x t : Nat) (d : Array α) (hr : Sort.median lt d a b c s = (x, t)) (w : World) (hR : R w d) (hd : d.size = n) (ha : a < n) (hb : b < n) (hc : c < n) (hs : s < 1000000) (hsb : base ≤ sb) (hS : Bk w sb 3 #[.int .i64 (s : Int)]) :
    Calls Tryd.prog 54 #[.iface 38 (.pointer (some rv)), .int .i64 (a : Int), .int .i64 (b : Int), .int .i64 (c : Int), .pointer (some ⟨sb, 0, none⟩)] w fun e w' =>
      e = .returned (.int .i64 (x : Int)) ∧ R w' d ∧ Bk w' sb 3 #[.int .i64 (t : Int)] ∧ x < n ∧ t ≤ s + 3 := by
  obtain ⟨⟨x1, y1, s1⟩, h1⟩ : ∃ r, Sort.order2 lt d a b s = r := ⟨_, rfl⟩
  have b1 := order2_bounds lt d (s := s) ha hb
  rw [h1] at b1
  simp only at b1
  obtain ⟨⟨x2, y2, s2⟩, h2⟩ : ∃ r, Sort.order2 lt d y1 c s1 = r := ⟨_, rfl⟩
  have b2 := order2_bounds lt d (s := s1) b1.2.1 hc
  rw [h2] at b2
  simp only at b2
  obtain ⟨⟨x3, y3, s3⟩, h3⟩ : ∃ r, Sort.order2 lt d x1 x2 s2 = r := ⟨_, rfl⟩
  have b3 := order2_bounds lt d (s := s2) b1.1 b2.1
  rw [h3] at b3
  simp only at b3
  have he : (y3, s3) = (x, t) := by
    rw [← hr]
    simp only [Sort.median, h1, h2, h3]
  obtain ⟨rfl, rfl⟩ := Prod.mk.inj he
  clear he hr
  have hb := Lib.hid (And.intro b1 (And.intro b2 b3))
  have h1' := Lib.hid h1
  have h2' := Lib.hid h2
  have h3' := Lib.hid h3
  clear b1 b2 b3 h1 h2 h3
  go_enter Tryd.func54, Tryd.ntmps54
  go_wp2_with fail
  refine (order2_at E a b s sb x1 y1 s1 d h1'.out w hR hd ha (by assumption) (by omega) hsb hS).mono ?_
  rintro e w1 ⟨rfl, hR1, hS1⟩
  go_wp2_with fail
  refine (order2_at E y1 c s1 sb x2 y2 s2 d h2'.out w1 hR1 hd hb.out.1.2.1 hc (by have := hb.out; omega) hsb hS1).mono ?_
  rintro e w2 ⟨rfl, hR2, hS2⟩
  go_wp2_with fail
  refine (order2_at E x1 x2 s2 sb x3 y3 s3 d h3'.out w2 hR2 hd hb.out.1.1 hb.out.2.1.1 (by have := hb.out; omega) hsb hS2).mono ?_
  rintro e w3 ⟨rfl, hR3, hS3⟩
  go_wp2_with fail
  go_ret
  exact ⟨rfl, hR3, hS3, hb.out.2.2.2.1, by have := hb.out; omega⟩

set_option maxHeartbeats 4000000 in
set_option maxRecDepth 20000 in
theorem medianAdjacent_any (E : SortEnv rv lt n base R) (a s sb x t : Nat) (d : Array α) (hr : Sort.medianAdjacent lt d a s = (x, t)) (w : World) (hR : R w d) (hd : d.size = n) (ha0 : 0 < a) (ha : a + 1 < n) (hs : s < 1000000) (hsb : base ≤ sb) (hS : Bk w sb 3 #[.int .i64 (s : Int)]) :
    Calls Tryd.prog 53 #[.iface 38 (.pointer (some rv)), .int .i64 (a : Int), .pointer (some ⟨sb, 0, none⟩)] w fun e w' =>
      e = .returned (.int .i64 (x : Int)) ∧ R w' d ∧ Bk w' sb 3 #[.int .i64 (t : Int)] ∧ x < n ∧ t ≤ s + 3 := by
  have hn := E.small
  obtain ⟨p, hp⟩ : ∃ p, a - 1 = p := ⟨_, rfl⟩
  obtain ⟨q, hq⟩ : ∃ q, a + 1 = q := ⟨_, rfl⟩
  rw [Sort.medianAdjacent, hp, hq] at hr
  have w1 : IntKind.i64.wrap ((a : Int) - 1) = (p : Int) := (IntWalk.i64_in _ (by omega)).trans (by omega)
  have w2 : IntKind.i64.wrap ((a : Int) + 1) = (q : Int) := (IntWalk.i64_in _ (by omega)).trans (by omega)
  have hr' := Lib.hid hr
  have hpn : p < n := by omega
  have hqn : q < n := by omega
  have han : a < n := by omega
  clear hr hp hq
  go_enter Tryd.func53, Tryd.ntmps53
  go_wp2_with fail
  refine (median_any E p a q s sb x t d hr'.out w hR hd hpn han hqn hs hsb hS).mono ?_
  rintro e w1 ⟨rfl, h1, h2, h3, h4⟩
  go_wp2_with fail
  go_ret
  exact ⟨rfl, h1, h2, h3, h4⟩
end Go.Proofs.YtjioghedokbgcaaDoor
