/-
  Contracts of impl.KeysCompare, impl.SameKey, spec.Order; the walk of FnKeysCompare.
-/
import Derived.Test.YtakpiopiboipnaaCmp
import Derived.Test.YtakpiopiboipnaaKey2
import Derived.Sort.Walk0
namespace Go.Proofs.Ytakpiopiboipnaa
open Go Go.RowKit
open Go.Proofs
open Go.Lib (compareBytes)

set_option maxHeartbeats 1000000 in
theorem implKeysCompare_any (n m : Nat) (l r : List UInt8) (w : World) (hl : l.length = n + 8) (hr : r.length = m + 8) (hn : n ≤ 4294967288) (hm : m ≤ 4294967288) :
    Calls Try.prog 19 #[.string ⟨l.toArray⟩, .string ⟨r.toArray⟩] w fun e w' => e = .returned (.tuple #[.int .i64 (keyCmp l r), .bool true]) ∧ Below w.heap.size w w' := by
  have hsl : (ByteArray.mk l.toArray).size = n + 8 := by rw [← hl]; simp [ByteArray.size]
  have hsr : (ByteArray.mk r.toArray).size = m + 8 := by rw [← hr]; simp [ByteArray.size]
  go_enter Try.func19, Try.ntmps19
  have hl' := Lib.hid hl
  have hr' := Lib.hid hr
  clear hl hr
  go_wp2_with (refine wpList_s2b rfl 9 46 5 (.tmp 14) rfl Try.underlying9 Try.underlying46 Try.underlying5 ⟨l.toArray⟩ rfl ?_)
  intro w1 c hb1 hs1 hbs hsc
  have hs1' := Lib.hid hs1
  clear hs1
  go_wp2_with (refine wpList_s2b rfl 9 46 5 (.tmp 16) rfl Try.underlying9 Try.underlying46 Try.underlying5 ⟨r.toArray⟩ rfl ?_)
  intro w2 d hb2 hs2 hbs2 hsd
  have hs2' := Lib.hid hs2
  clear hs2
  have hsl' := Lib.hid hsl
  have hsr' := Lib.hid hsr
  clear hsl hsr
  have hbs1 := hbs.below hb2 (hbs.lt (by have := hl'.out; omega))
  go_wp2_with fail
  refine (compareKeys_any _ 0 n c _ 0 m d l r _ hbs1 hbs2 hl'.out hr'.out (by omega) (by omega) (by omega) (by omega)).mono ?_
  rintro e w3 ⟨rfl, hb3⟩
  go_wp2_with fail
  go_ret2
  exact ⟨rfl, below_step (below_step hb1 hb1.size hb2) (Nat.le_trans hb1.size hb2.size) hb3⟩

set_option maxHeartbeats 1000000 in
theorem implSameKey_any (n m : Nat) (l r : List UInt8) (w : World) (hl : l.length = n + 8) (hr : r.length = m + 8) (hn : n ≤ 4294967288) (hm : m ≤ 4294967288) :
    Calls Try.prog 20 #[.string ⟨l.toArray⟩, .string ⟨r.toArray⟩] w fun e w' => e = .returned (.bool (l.take n == r.take m)) ∧ Below w.heap.size w w' := by
  have hsl : (ByteArray.mk l.toArray).size = n + 8 := by rw [← hl]; simp [ByteArray.size]
  have hsr : (ByteArray.mk r.toArray).size = m + 8 := by rw [← hr]; simp [ByteArray.size]
  go_enter Try.func20, Try.ntmps20
  have hl' := Lib.hid hl
  have hr' := Lib.hid hr
  clear hl hr
  go_wp2_with (refine wpList_s2b rfl 9 46 5 (.tmp 5) rfl Try.underlying9 Try.underlying46 Try.underlying5 ⟨l.toArray⟩ rfl ?_)
  intro w1 c hb1 hs1 hbs hsc
  have hs1' := Lib.hid hs1
  clear hs1
  go_wp2_with (refine wpList_s2b rfl 9 46 5 (.tmp 7) rfl Try.underlying9 Try.underlying46 Try.underlying5 ⟨r.toArray⟩ rfl ?_)
  intro w2 d hb2 hs2 hbs2 hsd
  have hs2' := Lib.hid hs2
  clear hs2
  have hsl' := Lib.hid hsl
  have hsr' := Lib.hid hsr
  clear hsl hsr
  have hbs1 := hbs.below hb2 (hbs.lt (by have := hl'.out; omega))
  go_wp2_with fail
  refine (sameKey_any _ 0 n c _ 0 m d l r _ hbs1 hbs2 hl'.out hr'.out (by omega) (by omega) (by omega) (by omega)).mono ?_
  rintro e w3 ⟨rfl, rfl⟩
  go_wp2_with fail
  go_ret
  exact ⟨rfl, below_step hb1 hb1.size hb2⟩

theorem keyCmp_less (n m : Nat) (l r : List UInt8) (hl : l.length = n + 8) (hr : r.length = m + 8) :
    keyCmp l r = if l.take n = r.take m then (if Op.bytesLess (l.drop n) (r.drop m) = true then -1 else if Op.bytesLess (r.drop m) (l.drop n) = true then 1 else 0)
      else (if Op.bytesLess (l.take n) (r.take m) = true then -1 else if Op.bytesLess (r.take m) (l.take n) = true then 1 else 0) := by
  unfold keyCmp
  rw [hl, hr, Nat.add_sub_cancel, Nat.add_sub_cancel, ← cmp_cases, ← cmp_cases]
  by_cases h : l.take n = r.take m
  · rw [if_pos h, h, cmp_self, if_pos rfl]
  · rw [if_neg h, if_neg (fun e => h (cmp_zero _ _ e))]

set_option maxHeartbeats 2000000 in
theorem specOrder_any (n m : Nat) (l r : List UInt8) (w : World) (hl : l.length = n + 8) (hr : r.length = m + 8) (hn : n ≤ 4294967288) (hm : m ≤ 4294967288) :
    Calls Try.prog 21 #[.string ⟨l.toArray⟩, .string ⟨r.toArray⟩] w fun e w' => e = .returned (.int .i64 (keyCmp l r)) ∧ Below w.heap.size w w' := by
  have hsl : (ByteArray.mk l.toArray).size = n + 8 := by rw [← hl]; simp [ByteArray.size]
  have hsr : (ByteArray.mk r.toArray).size = m + 8 := by rw [← hr]; simp [ByteArray.size]
  have sa : ∀ W : World, (Instr.slice 9 (.string ⟨l.toArray⟩) none (some (.int .i64 (n : Int))) none).run Try.prog W = .ok (.string ⟨(l.take n).toArray⟩) W := run_sliceTo_mk _ Try.underlying9 l .i64 n (by omega)
  have sb : ∀ W : World, (Instr.slice 9 (.string ⟨r.toArray⟩) none (some (.int .i64 (m : Int))) none).run Try.prog W = .ok (.string ⟨(r.take m).toArray⟩) W := run_sliceTo_mk _ Try.underlying9 r .i64 m (by omega)
  have sc : ∀ W : World, (Instr.slice 9 (.string ⟨l.toArray⟩) (some (.int .i64 (n : Int))) none none).run Try.prog W = .ok (.string ⟨(l.drop n).toArray⟩) W := run_sliceFrom_mk _ Try.underlying9 l .i64 n (by omega)
  have sd : ∀ W : World, (Instr.slice 9 (.string ⟨r.toArray⟩) (some (.int .i64 (m : Int))) none none).run Try.prog W = .ok (.string ⟨(r.drop m).toArray⟩) W := run_sliceFrom_mk _ Try.underlying9 r .i64 m (by omega)
  have hk := Lib.hid (keyCmp_less n m l r hl hr)
  have wn : IntKind.i64.wrap (n : Int) = (n : Int) := IntWalk.i64_in _ (by omega)
  have wm : IntKind.i64.wrap (m : Int) = (m : Int) := IntWalk.i64_in _ (by omega)
  clear hl hr
  obtain ⟨la, hla⟩ : ∃ la, la = l.take n := ⟨_, rfl⟩
  obtain ⟨ra, hra⟩ : ∃ ra, ra = r.take m := ⟨_, rfl⟩
  obtain ⟨lb, hlb⟩ : ∃ lb, lb = l.drop n := ⟨_, rfl⟩
  obtain ⟨rb, hrb⟩ : ∃ rb, rb = r.drop m := ⟨_, rfl⟩
  rw [← hla, ← hra, ← hlb, ← hrb] at hk
  rw [← hla] at sa
  rw [← hra] at sb
  rw [← hlb] at sc
  rw [← hrb] at sd
  clear hla hra hlb hrb
  go_enter Try.func21, Try.ntmps21
  go_wp2_with fail
  go_quiet (fail)
  have hbl := below_drewN (Below.refl w.heap.size w) nq
  generalize w.drewN nq = w1 at hbl ⊢
  have fin : ∀ v : Int, v = keyCmp l r → Ending.returned (Value.int .i64 v) = Ending.returned (Value.int .i64 (keyCmp l r)) := fun v h => by rw [h]
  have fin' := Lib.hid fin
  clear fin
  by_cases he : (la == ra) = true
  · go_wp2_with fail
    go_quiet (fail)
    have hbl2 := below_drewN hbl nq
    generalize w1.drewN nq = w2 at hbl2 ⊢
    have he' : la = ra := by simpa using he
    by_cases h1 : Op.bytesLess lb rb = true
    · go_wp2_with fail
      go_ret
      exact ⟨fin'.out _ (by rw [hk.out, if_pos he', if_pos h1]), hbl2⟩
    · by_cases h2 : Op.bytesLess rb lb = true
      · have hne := (less_ne h2).2
        go_wp2_with fail
        go_ret
        exact ⟨fin'.out _ (by rw [hk.out, if_pos he', if_neg h1, if_pos h2]), hbl2⟩
      · have hee : (lb == rb) = true := by rw [eq_of_not_less h1 h2]; simp
        go_wp2_with fail
        go_ret
        exact ⟨fin'.out _ (by rw [hk.out, if_pos he', if_neg h1, if_neg h2]), hbl2⟩
  · have he' : ¬ la = ra := by simpa using he
    by_cases h1 : Op.bytesLess la ra = true
    · go_wp2_with fail
      go_ret
      exact ⟨fin'.out _ (by rw [hk.out, if_neg he', if_pos h1]), hbl⟩
    · by_cases h2 : Op.bytesLess ra la = true
      · go_wp2_with fail
        go_ret
        exact ⟨fin'.out _ (by rw [hk.out, if_neg he', if_neg h1, if_pos h2]), hbl⟩
      · exact absurd (eq_of_not_less h1 h2) he'

theorem less_asymm {a b : List UInt8} (h : Op.bytesLess a b = true) : Op.bytesLess b a = false := by
  by_cases h2 : Op.bytesLess b a = true
  · have e := cmp_neg a b
    have ea : compareBytes a b = -1 := by rw [cmp_cases, if_pos h]
    have eb : compareBytes b a = -1 := by rw [cmp_cases, if_pos h2]
    omega
  · simpa using h2

theorem wantCmp_neg (a b : List UInt8) (x y : Nat) : wantCmp b a y x = - wantCmp a b x y := by
  unfold wantCmp
  by_cases h1 : Op.bytesLess a b = true
  · have h2 := less_asymm h1
    simp [h1, h2]
  · by_cases h2 : Op.bytesLess b a = true
    · simp [h1, h2]
    · simp only [h1, h2]
      by_cases h3 : x < y
      · have : ¬ y < x := by omega
        simp [h3, this]
      · by_cases h4 : y < x
        · simp [h3, h4]
        · simp [h3, h4]

theorem chain6 {w w1 w2 w3 w4 w5 w6 : World} (h1 : Below w.heap.size w w1) (h2 : Below w1.heap.size w1 w2) (h3 : Below w2.heap.size w2 w3) (h4 : Below w3.heap.size w3 w4) (h5 : Below w4.heap.size w4 w5) (h6 : Below w5.heap.size w5 w6) : Below w.heap.size w w6 := by
  have a2 := below_step h1 h1.size h2
  have a3 := below_step a2 a2.size h3
  have a4 := below_step a3 a3.size h4
  have a5 := below_step a4 a4.size h5
  exact below_step a5 a5.size h6

set_option maxHeartbeats 4000000 in
/-- THE WALK of FnKeysCompare: it returns true. -/
theorem fnKeysCompare_walk (l r : List UInt8) (x y : Nat) (hx : x < 18446744073709551616) (hy : y < 18446744073709551616) (w : World) :
    Calls Try.prog 6 #[.string ⟨l.toArray⟩, .string ⟨r.toArray⟩, .int .u64 (x : Int), .int .u64 (y : Int)] w fun e w' => e = .returned (.bool true) ∧ Below w.heap.size w w' := by
  by_cases hl : 1000 < l.length
  · by_cases h2 : 2147483647 < l.length
    · go_enter Try.func6, Try.ntmps6
      go_wp2_with fail
      go_ret
      exact ⟨rfl, Below.refl _ _⟩
    · by_cases h3 : 2147483647 < r.length
      all_goals
        go_enter Try.func6, Try.ntmps6
        go_wp2_with fail
        go_ret
        exact ⟨rfl, Below.refl _ _⟩
  by_cases hr : 1000 < r.length
  · by_cases h3 : 2147483647 < r.length
    all_goals
      go_enter Try.func6, Try.ntmps6
      go_wp2_with fail
      go_ret
      exact ⟨rfl, Below.refl _ _⟩
  have c1 := fun W => implKeyTs_any ⟨l.toArray⟩ x W (by simp [ByteArray.size]; omega) hx
  have c2 := fun W => implKeyTs_any ⟨r.toArray⟩ y W (by simp [ByteArray.size]; omega) hy
  simp only [] at c1 c2
  have kl := keyTs_length l x
  have kr := keyTs_length r y
  have tl := keyTs_take l x
  have tr := keyTs_take r y
  have kc := keyCmp_keyTs l r x y hx hy
  have kd := keyCmp_keyTs r l y x hy hx
  rw [wantCmp_neg] at kd
  obtain ⟨v, hv⟩ : ∃ v, v = wantCmp l r x y := ⟨_, rfl⟩
  rw [← hv] at kc kd
  generalize keyTs l x = k at *
  generalize keyTs r y = q at *
  have c3 := fun W => implKeysCompare_any l.length r.length k q W kl kr (by omega) (by omega)
  have c4 := fun W => implKeysCompare_any r.length l.length q k W kr kl (by omega) (by omega)
  have c5 := fun W => implSameKey_any l.length r.length k q W kl kr (by omega) (by omega)
  have c6 := fun W => specOrder_any l.length r.length k q W kl kr (by omega) (by omega)
  rw [tl, tr] at c5
  rw [kc] at c3 c6
  rw [kd] at c4
  have d1 := Lib.hid c1
  have d2 := Lib.hid c2
  have d3 := Lib.hid c3
  have d4 := Lib.hid c4
  have d5 := Lib.hid c5
  have d6 := Lib.hid c6
  clear c1 c2 c3 c4 c5 c6 kl kr tl tr kc kd
  by_cases h1 : Op.bytesLess l r = true
  · obtain rfl : v = -1 := by rw [hv]; unfold wantCmp; rw [if_pos h1]
    have hne := (less_ne h1).1
    have hns := less_asymm h1
    clear hv
    go_enter Try.func6, Try.ntmps6
    go_wp2_with fail
    refine (d1.out _).mono ?_
    rintro e w1 ⟨rfl, hb1⟩
    go_wp2_with fail
    refine (d2.out _).mono ?_
    rintro e w2 ⟨rfl, hb2⟩
    go_wp2_with fail
    refine (d3.out _).mono ?_
    rintro e w3 ⟨rfl, hb3⟩
    go_wp2_with fail
    refine (d4.out _).mono ?_
    rintro e w4 ⟨rfl, hb4⟩
    go_wp2_with fail
    refine (d5.out _).mono ?_
    rintro e w5 ⟨rfl, hb5⟩
    go_wp2_with fail
    refine (d6.out _).mono ?_
    rintro e w6 ⟨rfl, hb6⟩
    go_wp2_with fail
    go_ret
    exact ⟨rfl, chain6 hb1 hb2 hb3 hb4 hb5 hb6⟩
  · by_cases h2 : Op.bytesLess r l = true
    · obtain rfl : v = 1 := by rw [hv]; unfold wantCmp; rw [if_neg h1, if_pos h2]
      have hne := (less_ne h2).2
      have hns : Op.bytesLess l r = false := by simpa using h1
      clear hv h1
      go_enter Try.func6, Try.ntmps6
      go_wp2_with fail
      refine (d1.out _).mono ?_
      rintro e w1 ⟨rfl, hb1⟩
      go_wp2_with fail
      refine (d2.out _).mono ?_
      rintro e w2 ⟨rfl, hb2⟩
      go_wp2_with fail
      refine (d3.out _).mono ?_
      rintro e w3 ⟨rfl, hb3⟩
      go_wp2_with fail
      refine (d4.out _).mono ?_
      rintro e w4 ⟨rfl, hb4⟩
      go_wp2_with fail
      refine (d5.out _).mono ?_
      rintro e w5 ⟨rfl, hb5⟩
      go_wp2_with fail
      refine (d6.out _).mono ?_
      rintro e w6 ⟨rfl, hb6⟩
      go_wp2_with fail
      go_ret
      exact ⟨rfl, chain6 hb1 hb2 hb3 hb4 hb5 hb6⟩
    · have hlr := eq_of_not_less h1 h2
      subst hlr
      have hns := less_irrefl l
      clear h1 h2
      by_cases h3 : y < x
      · obtain rfl : v = -1 := by rw [hv]; unfold wantCmp; rw [hns, if_neg (by simp), if_neg (by simp), if_pos h3]
        clear hv
        go_enter Try.func6, Try.ntmps6
        go_wp2_with fail
        refine (d1.out _).mono ?_
        rintro e w1 ⟨rfl, hb1⟩
        go_wp2_with fail
        refine (d2.out _).mono ?_
        rintro e w2 ⟨rfl, hb2⟩
        go_wp2_with fail
        refine (d3.out _).mono ?_
        rintro e w3 ⟨rfl, hb3⟩
        go_wp2_with fail
        refine (d4.out _).mono ?_
        rintro e w4 ⟨rfl, hb4⟩
        go_wp2_with fail
        refine (d5.out _).mono ?_
        rintro e w5 ⟨rfl, hb5⟩
        go_wp2_with fail
        refine (d6.out _).mono ?_
        rintro e w6 ⟨rfl, hb6⟩
        go_wp2_with fail
        go_ret
        exact ⟨rfl, chain6 hb1 hb2 hb3 hb4 hb5 hb6⟩
      · by_cases h4 : x < y
        · obtain rfl : v = 1 := by rw [hv]; unfold wantCmp; rw [hns, if_neg (by simp), if_neg (by simp), if_neg h3, if_pos h4]
          clear hv
          go_enter Try.func6, Try.ntmps6
          go_wp2_with fail
          refine (d1.out _).mono ?_
          rintro e w1 ⟨rfl, hb1⟩
          go_wp2_with fail
          refine (d2.out _).mono ?_
          rintro e w2 ⟨rfl, hb2⟩
          go_wp2_with fail
          refine (d3.out _).mono ?_
          rintro e w3 ⟨rfl, hb3⟩
          go_wp2_with fail
          refine (d4.out _).mono ?_
          rintro e w4 ⟨rfl, hb4⟩
          go_wp2_with fail
          refine (d5.out _).mono ?_
          rintro e w5 ⟨rfl, hb5⟩
          go_wp2_with fail
          refine (d6.out _).mono ?_
          rintro e w6 ⟨rfl, hb6⟩
          go_wp2_with fail
          go_ret
          exact ⟨rfl, chain6 hb1 hb2 hb3 hb4 hb5 hb6⟩
        · obtain rfl : v = 0 := by rw [hv]; unfold wantCmp; rw [hns, if_neg (by simp), if_neg (by simp), if_neg h3, if_neg h4]
          clear hv
          go_enter Try.func6, Try.ntmps6
          go_wp2_with fail
          refine (d1.out _).mono ?_
          rintro e w1 ⟨rfl, hb1⟩
          go_wp2_with fail
          refine (d2.out _).mono ?_
          rintro e w2 ⟨rfl, hb2⟩
          go_wp2_with fail
          refine (d3.out _).mono ?_
          rintro e w3 ⟨rfl, hb3⟩
          go_wp2_with fail
          refine (d4.out _).mono ?_
          rintro e w4 ⟨rfl, hb4⟩
          go_wp2_with fail
          refine (d5.out _).mono ?_
          rintro e w5 ⟨rfl, hb5⟩
          go_wp2_with fail
          refine (d6.out _).mono ?_
          rintro e w6 ⟨rfl, hb6⟩
          go_wp2_with fail
          go_ret
          exact ⟨rfl, chain6 hb1 hb2 hb3 hb4 hb5 hb6⟩
end Go.Proofs.Ytakpiopiboipnaa
