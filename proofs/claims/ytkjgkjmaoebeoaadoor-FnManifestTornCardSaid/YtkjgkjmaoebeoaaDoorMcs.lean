/-
  The specification's set of changes, as bytes.
-/
import Derived.Test.YtkjgkjmaoebeoaaDoorMsp
import Derived.Test.YtkjgkjmaoebeoaaDoorMlc
import Derived.Deep.RegionHeld3
namespace Go.Proofs.YtkjgkjmaoebeoaaDoor
open Go Go.RowKit
open Go.Proofs
open Go.Lib (uvarint uvarintDec)

theorem below_ch {W W' : World} (h : Ch [] W W') : Below W.heap.size W W' := h.below_nil

theorem fldB_length {X : UInt8} {n : Nat} (hn : n < 18446744073709551616) : (fldB X n).length ≤ 11 := by
  have := Lib.uvarint_length64 hn
  unfold fldB
  split
  · simp
  · simp; omega
theorem msgB_length {c : Chg} (h1 : c.id < 18446744073709551616) (h2 : c.lev < 18446744073709551616) : (msgB c).length ≤ 33 := by
  have a := fldB_length (X := 8) h1
  have b := fldB_length (X := 16) (n := c.op) (by unfold Chg.op; split <;> omega)
  have d := fldB_length (X := 24) h2
  unfold msgB
  simp only [List.length_append]
  omega
theorem chgB_le {c : Chg} (h1 : c.id < 18446744073709551616) (h2 : c.lev < 18446744073709551616) : (chgB c).length ≤ 44 := by
  have a := msgB_length h1 h2
  have b := Lib.uvarint_length64 (x := (msgB c).length) (by omega)
  unfold chgB
  simp only [List.length_cons, List.length_append]
  omega
theorem bodyB_le {l : List Chg} (h : ∀ c, c ∈ l → c.id < 18446744073709551616 ∧ c.lev < 18446744073709551616) : (bodyB l).length ≤ 44 * l.length := by
  induction l with
  | nil => simp [bodyB]
  | cons c l ih =>
    have h0 := ih (fun x hx => h x (by simp [hx]))
    have h1 := chgB_le (h c (by simp)).1 (h c (by simp)).2
    have h2 : bodyB (c :: l) = chgB c ++ bodyB l := by simp [bodyB]
    rw [h2, List.length_append, List.length_cons]
    omega
theorem mkcat (a b : List UInt8) : ByteArray.mk a.toArray ++ ByteArray.mk b.toArray = ⟨(a ++ b).toArray⟩ := by
  apply ByteArray.ext
  simp [ByteArray.data_append]
theorem mksize (a : List UInt8) : (ByteArray.mk a.toArray).size = a.length := by simp [ByteArray.size]

theorem mkcat10 (b : List UInt8) : ByteArray.mk #[10] ++ ByteArray.mk b.toArray = ⟨(10 :: b).toArray⟩ := by
  apply ByteArray.ext
  simp [ByteArray.data_append]


set_option maxHeartbeats 4000000 in
set_option maxRecDepth 20000 in
theorem changeSet_any (B : Nat) (l : List RC) (v : Value) (w : World) (hv : RcsR B w v l) (hl : l.length ≤ 10) (hok : ∀ x, x ∈ l → OkC x) :
    Calls Tryd.prog 8 #[v] w fun e w' => e = .returned (.string ⟨(setB (l.map RC.chg)).toArray⟩) ∧ Ch [] w w' := by
  obtain ⟨A, c, rfl⟩ := hv.form
  obtain ⟨N, hN⟩ : ∃ N, l.length = N := ⟨_, rfl⟩
  rw [hN] at hv hl
  rw [hN]
  have hcl : ∀ k, (bodyB ((l.map RC.chg).take k)).length ≤ 44 * k := fun k => by
    refine Nat.le_trans (bodyB_le fun c hc => ?_) (Nat.mul_le_mul_left _ (by simp; omega))
    obtain ⟨x, hx, rfl⟩ := List.mem_map.1 (List.mem_of_mem_take hc)
    obtain ⟨h1, h2, h3, h4⟩ := hok x hx
    exact ⟨by show x.id < _; omega, by show x.lev.toNat < _; omega⟩
  have hv' := Lib.hid hv
  have hN' := Lib.hid hN
  have hok' := Lib.hid hok
  have hcl' := Lib.hid hcl
  clear hcl hok hN hv
  go_enter Tryd.func8, Tryd.ntmps8
  go_wp2_with fail
  go_loopw [3, 5, 6, 7, 10] (fun s3 s5 s6 s7 s10 wx => ∃ j : Nat, j ≤ N ∧ s10 = .int .i64 (j : Int) ∧ s3 = .string ⟨(bodyB ((l.map RC.chg).take j)).toArray⟩ ∧ Ch [] w wx) (fun _ _ _ _ s10 _ => N - (intOf s10).toNat)
  case atStart => exact ⟨0, Nat.zero_le _, rfl, rfl, Ch.refl _ _⟩
  case round =>
    obtain ⟨j, hj, rfl, rfl, hCr⟩ := hrel
    by_cases hlt : j < N
    · have hltI : (j : Int) < (N : Int) := by omega
      have hj0 : (0 : Int) ≤ (j : Int) := by omega
      have hjl : j < l.length := by rw [hN'.out]; exact hlt
      obtain ⟨g, o, c2, he, hgB, hgl, c0, c1, c3⟩ := (hv'.out.ch hCr (by simp)).at_ j (by rw [hN'.out]; exact hlt)
      obtain rfl : A = some ⟨g, o, none⟩ := by injection he
      clear he
      obtain ⟨x, hx⟩ : ∃ x, l[j] = x := ⟨_, rfl⟩
      have hxo := hok'.out x (by rw [← hx]; exact List.getElem_mem _)
      have hnext : bodyB ((l.map RC.chg).take (j + 1)) = bodyB ((l.map RC.chg).take j) ++ chgB x.chg := by
        rw [List.take_add_one, List.getElem?_eq_getElem (by simpa using hjl), List.getElem_map, hx]
        simp [bodyB]
      have hbl := hcl'.out j
      rw [hx] at c0 c1 c3
      obtain ⟨id, lv, dr⟩ := x
      obtain ⟨h1, h2, h3, h4⟩ := hxo
      simp only at h1 h2 h3 h4
      obtain ⟨L, rfl⟩ : ∃ L : Nat, lv = (L : Int) := ⟨lv.toNat, by omega⟩
      simp only [RC.chg, Int.toNat_natCast] at hnext
      obtain ⟨M, hM⟩ : ∃ M, msgB ⟨id, L, dr⟩ = M := ⟨_, rfl⟩
      have hMl : M.length ≤ 33 := by rw [← hM]; exact msgB_length (by show id < _; omega) (by show L < _; omega)
      obtain ⟨Bd, hBd⟩ : ∃ b, bodyB ((l.map RC.chg).take j) = b := ⟨_, rfl⟩
      rw [hBd] at hnext hbl ⊢
      obtain ⟨W0, hW0⟩ : ∃ W, wr.alloc (.cells #[.int .u64 (id : Int), .int .i64 (L : Int), .bool dr] 47) = W := ⟨_, rfl⟩
      have hC0 : Ch [] wr W0 := by rw [← hW0]; exact (Ch.refl [] wr).alloc _
      have hs0 : Bk W0 wr.heap.size 47 #[.int .u64 (id : Int), .int .i64 (L : Int), .bool dr] := by rw [← hW0]; exact Bk.new _ _ _
      have w1 : IntKind.i64.wrap ((j : Int) + 1) = ((j + 1 : Nat) : Int) := (IntWalk.i64_in _ (by omega)).trans (by omega)
      have wL : IntKind.u64.wrap (L : Int) = (L : Int) := IntWalk.u64_in _ (by omega)
      have d2 := hs0.cell 2
      simp at d2
      have hnext' := Lib.hid hnext
      have hCr' := Lib.hid hCr
      have hx' := Lib.hid hx
      have hM' := Lib.hid hM
      have hBd' := Lib.hid hBd
      have hC0' := Lib.hid hC0
      have hs0' := Lib.hid hs0
      have hW0' := Lib.hid hW0
      clear hW0 hs0 hC0 hBd hM hx hCr hnext
      have hgo : ∀ (op : Nat), op ≤ 1 → ∀ (F1 F2 F3 : List UInt8), fldB 8 id = F1 → fldB 16 op = F2 → fldB 24 L = F3 → F1.length ≤ 11 ∧ F2.length ≤ 11 ∧ F3.length ≤ 11 ∧
          (∀ W, Hid (Calls Tryd.prog 13 #[.int .u8 1, .int .u64 (id : Int)] W fun e w' => e = .returned (.string ⟨F1.toArray⟩) ∧ Below W.heap.size W w')) ∧
          (∀ W, Hid (Calls Tryd.prog 13 #[.int .u8 2, .int .u64 (op : Int)] W fun e w' => e = .returned (.string ⟨F2.toArray⟩) ∧ Below W.heap.size W w')) ∧
          (∀ W, Hid (Calls Tryd.prog 13 #[.int .u8 3, .int .u64 (L : Int)] W fun e w' => e = .returned (.string ⟨F3.toArray⟩) ∧ Below W.heap.size W w')) := by
        rintro op hop F1 F2 F3 rfl rfl rfl
        exact ⟨fldB_length (by omega), fldB_length (by omega), fldB_length (by omega), fun W => Lib.hid (field1_any id (by omega) W), fun W => Lib.hid (field2_any op (by omega) W), fun W => Lib.hid (field3_any L (by omega) W)⟩
      have hkeep : ∀ W', Ch [] W0 W' → W'.cell? ⟨wr.heap.size, 0, none⟩ = some (.int .u64 (id : Int)) ∧ W'.cell? ⟨wr.heap.size, 1, none⟩ = some (.int .i64 (L : Int)) := fun W' hC => ⟨(hs0'.out.ch hC (by simp)).cell 0, (hs0'.out.ch hC (by simp)).cell 1⟩
      have hkeep' := Lib.hid hkeep
      clear hkeep
      cases dr with
      | true =>
        obtain ⟨F1, hF1⟩ : ∃ F, fldB 8 id = F := ⟨_, rfl⟩
        obtain ⟨F2, hF2⟩ : ∃ F, fldB 16 1 = F := ⟨_, rfl⟩
        obtain ⟨F3, hF3⟩ : ∃ F, fldB 24 L = F := ⟨_, rfl⟩
        obtain ⟨l1, l2, l3, f1, f2, f3⟩ := hgo 1 (by omega) F1 F2 F3 hF1 hF2 hF3
        have hMe : M = F1 ++ (F2 ++ F3) := by rw [← hM'.out, ← hF1, ← hF2, ← hF3]; rfl
        rw [show ((1 : Nat) : Int) = 1 from rfl] at f2
        have z1 := mksize F1
        have z2 := mksize F2
        have z3 := mksize F3
        have k12 := mkcat F1 F2
        have k123 := mkcat (F1 ++ F2) F3
        have s12 : ¬ 9223372036854775807 < F1.length + F2.length := by omega
        have s123 : ¬ 9223372036854775807 < F1.length + F2.length + F3.length := by omega
        clear hgo
        have hF1' := Lib.hid hF1
        have hF2' := Lib.hid hF2
        have hF3' := Lib.hid hF3
        have hMe' := Lib.hid hMe
        clear hMe hF3 hF2 hF1
        go_wp2_with fail
        rw [hW0'.out]
        go_wp2_with fail
        go_cut [7] (fun s7 wx => s7 = .string ⟨M.toArray⟩ ∧ Ch [] W0 wx)
        case first =>
          go_region_held3 (fun W' => W'.cell? ⟨wr.heap.size, 0, none⟩ = some (.int .u64 (id : Int)) ∧ W'.cell? ⟨wr.heap.size, 1, none⟩ = some (.int .i64 (L : Int))) ((refine hkeep'.out _ ?_; repeat (first | exact Ch.refl _ _ | refine Ch.drew ?_ | refine Ch.trans_nil ?_ (Ch.of_below (by assumption))))) (first | (go_at_call 13; with_reducible refine (f1 _).out.mono ?_; rintro e wa ⟨rfl, hba⟩) | (go_at_call 13; with_reducible refine (f2 _).out.mono ?_; rintro e wb ⟨rfl, hbb⟩) | (go_at_call 13; with_reducible refine (f3 _).out.mono ?_; rintro e wd ⟨rfl, hbd⟩))
          all_goals
            go_wp2_with fail
            go_meet
            exact ⟨by rw [hMe'.out], by repeat (first | exact Ch.refl _ _ | refine Ch.drew ?_ | refine Ch.trans_nil ?_ (Ch.of_below (by assumption)))⟩
        case rest =>
        obtain ⟨rfl, hC8⟩ := hcut
        obtain ⟨m, hm⟩ : ∃ m, M.length = m := ⟨_, rfl⟩
        obtain ⟨U, hU⟩ : ∃ U, uvarint m = U := ⟨_, rfl⟩
        have hul : U.length ≤ 10 := by rw [← hU]; exact Lib.uvarint_length64 (by omega)
        have huv : ∀ W, Hid (Calls Tryd.prog 14 #[.int .u64 (m : Int)] W fun e w' => e = .returned (.string ⟨U.toArray⟩) ∧ Below W.heap.size W w') := fun W => Lib.hid (by rw [← hU]; exact specUvarint_any m (by omega) W)
        have hcb : bodyB ((l.map RC.chg).take (j + 1)) = Bd ++ (10 :: U ++ M) := by rw [hnext'.out, chgB, hM'.out, hm, hU]; rfl
        have zM := mksize M
        rw [hm] at zM hMl
        have zU := mksize U
        have zB := mksize Bd
        have zc := mksize (10 :: U)
        have zd := mksize (10 :: U ++ M)
        have kc := mkcat10 U
        have kd := mkcat (10 :: U) M
        have ke := mkcat Bd (10 :: U ++ M)
        have wU : IntKind.u64.wrap (m : Int) = (m : Int) := IntWalk.u64_in _ (by omega)
        have t1 : ¬ 9223372036854775807 < 1 + U.length := by omega
        have t1' : ¬ 9223372036854775807 < U.length + 1 := by omega
        have t2 : ¬ 9223372036854775807 < U.length + 1 + m := by omega
        have t3 : ¬ 9223372036854775807 < Bd.length + (U.length + 1 + m) := by omega
        have t4 : ¬ 9223372036854775807 < Bd.length + (U.length + m + 1) := by omega
        have t5 : ¬ 9223372036854775807 < U.length + m + 1 := by omega
        have t6 : ¬ 9223372036854775807 < Bd.length + (U.length + M.length + 1) := by omega
        have t7 : ¬ 9223372036854775807 < U.length + 1 + M.length := by omega
        have t8 : ¬ 9223372036854775807 < Bd.length + (U.length + 1 + M.length) := by omega
        have t9 : ¬ 9223372036854775807 < Bd.length + (U.length + (m + 1)) := by omega
        have hconv : ∀ (W : World) (b : Nat), Bs W b 0 [10] → (convert 42 9 (.slice (some ⟨b, 0, none⟩) 1 1)).run Tryd.prog W = .ok (.string ⟨#[10]⟩) W :=
          fun W b h => run_b2s W _ _ 5 Tryd.underlying42 Tryd.underlying5 Tryd.underlying9 _ _ _ _ _ rfl h
        have zb : ∀ (W : World) (n : Nat), n = W.heap.size → Bs (W.alloc (.cells #[.int .u8 10] 5)) n 0 [10] := fun W n hn => one_bs (x := 10) hn
        clear f1 f2 f3 z1 z2 z3 k12 k123 s12 s123 d2 wL l1 l2 l3
        have hC8' := Lib.hid hC8
        have hm' := Lib.hid hm
        have hU' := Lib.hid hU
        have hcb' := Lib.hid hcb
        clear hcb hU hm hC8
        go_wp2_with fail
        go_region_with (first | (go_at_call 14; with_reducible refine (huv _).out.mono ?_; rintro e w1 ⟨rfl, hb1⟩) | (rw [hconv _ _ (by first | exact zb _ _ rfl | exact Bs.drew (zb _ _ rfl) | exact zcall_ (by assumption) (zb _ _ rfl) | exact zcall_ (by assumption) (Bs.drew (zb _ _ rfl)))]; go_simp))
        all_goals
          go_wp2_with fail
          go_roundw
          case rel =>
            refine ⟨j + 1, by omega, by go_num, by rw [hcb'.out]; simp; exact mkcat Bd (10 :: (U ++ M)), (((hCr'.out.trans hC0'.out).trans hC8'.out).trans (?_ : Ch [] wc _))⟩
            repeat (first | exact Ch.refl _ _ | refine Ch.drew ?_ | refine Ch.alloc ?_ _ | refine Ch.trans_nil ?_ (Ch.of_below (by assumption)))
          case measure => simp [intOf]; omega
      | false =>
        obtain ⟨F1, hF1⟩ : ∃ F, fldB 8 id = F := ⟨_, rfl⟩
        obtain ⟨F2, hF2⟩ : ∃ F, fldB 16 0 = F := ⟨_, rfl⟩
        obtain ⟨F3, hF3⟩ : ∃ F, fldB 24 L = F := ⟨_, rfl⟩
        obtain ⟨l1, l2, l3, f1, f2, f3⟩ := hgo 0 (by omega) F1 F2 F3 hF1 hF2 hF3
        have hMe : M = F1 ++ (F2 ++ F3) := by rw [← hM'.out, ← hF1, ← hF2, ← hF3]; rfl
        rw [show ((0 : Nat) : Int) = 0 from rfl] at f2
        have z1 := mksize F1
        have z2 := mksize F2
        have z3 := mksize F3
        have k12 := mkcat F1 F2
        have k123 := mkcat (F1 ++ F2) F3
        have s12 : ¬ 9223372036854775807 < F1.length + F2.length := by omega
        have s123 : ¬ 9223372036854775807 < F1.length + F2.length + F3.length := by omega
        clear hgo
        have hF1' := Lib.hid hF1
        have hF2' := Lib.hid hF2
        have hF3' := Lib.hid hF3
        have hMe' := Lib.hid hMe
        clear hMe hF3 hF2 hF1
        go_wp2_with fail
        rw [hW0'.out]
        go_wp2_with fail
        go_cut [7] (fun s7 wx => s7 = .string ⟨M.toArray⟩ ∧ Ch [] W0 wx)
        case first =>
          go_region_held3 (fun W' => W'.cell? ⟨wr.heap.size, 0, none⟩ = some (.int .u64 (id : Int)) ∧ W'.cell? ⟨wr.heap.size, 1, none⟩ = some (.int .i64 (L : Int))) ((refine hkeep'.out _ ?_; repeat (first | exact Ch.refl _ _ | refine Ch.drew ?_ | refine Ch.trans_nil ?_ (Ch.of_below (by assumption))))) (first | (go_at_call 13; with_reducible refine (f1 _).out.mono ?_; rintro e wa ⟨rfl, hba⟩) | (go_at_call 13; with_reducible refine (f2 _).out.mono ?_; rintro e wb ⟨rfl, hbb⟩) | (go_at_call 13; with_reducible refine (f3 _).out.mono ?_; rintro e wd ⟨rfl, hbd⟩))
          all_goals
            go_wp2_with fail
            go_meet
            exact ⟨by rw [hMe'.out], by repeat (first | exact Ch.refl _ _ | refine Ch.drew ?_ | refine Ch.trans_nil ?_ (Ch.of_below (by assumption)))⟩
        case rest =>
        obtain ⟨rfl, hC8⟩ := hcut
        obtain ⟨m, hm⟩ : ∃ m, M.length = m := ⟨_, rfl⟩
        obtain ⟨U, hU⟩ : ∃ U, uvarint m = U := ⟨_, rfl⟩
        have hul : U.length ≤ 10 := by rw [← hU]; exact Lib.uvarint_length64 (by omega)
        have huv : ∀ W, Hid (Calls Tryd.prog 14 #[.int .u64 (m : Int)] W fun e w' => e = .returned (.string ⟨U.toArray⟩) ∧ Below W.heap.size W w') := fun W => Lib.hid (by rw [← hU]; exact specUvarint_any m (by omega) W)
        have hcb : bodyB ((l.map RC.chg).take (j + 1)) = Bd ++ (10 :: U ++ M) := by rw [hnext'.out, chgB, hM'.out, hm, hU]; rfl
        have zM := mksize M
        rw [hm] at zM hMl
        have zU := mksize U
        have zB := mksize Bd
        have zc := mksize (10 :: U)
        have zd := mksize (10 :: U ++ M)
        have kc := mkcat10 U
        have kd := mkcat (10 :: U) M
        have ke := mkcat Bd (10 :: U ++ M)
        have wU : IntKind.u64.wrap (m : Int) = (m : Int) := IntWalk.u64_in _ (by omega)
        have t1 : ¬ 9223372036854775807 < 1 + U.length := by omega
        have t1' : ¬ 9223372036854775807 < U.length + 1 := by omega
        have t2 : ¬ 9223372036854775807 < U.length + 1 + m := by omega
        have t3 : ¬ 9223372036854775807 < Bd.length + (U.length + 1 + m) := by omega
        have t4 : ¬ 9223372036854775807 < Bd.length + (U.length + m + 1) := by omega
        have t5 : ¬ 9223372036854775807 < U.length + m + 1 := by omega
        have t6 : ¬ 9223372036854775807 < Bd.length + (U.length + M.length + 1) := by omega
        have t7 : ¬ 9223372036854775807 < U.length + 1 + M.length := by omega
        have t8 : ¬ 9223372036854775807 < Bd.length + (U.length + 1 + M.length) := by omega
        have t9 : ¬ 9223372036854775807 < Bd.length + (U.length + (m + 1)) := by omega
        have hconv : ∀ (W : World) (b : Nat), Bs W b 0 [10] → (convert 42 9 (.slice (some ⟨b, 0, none⟩) 1 1)).run Tryd.prog W = .ok (.string ⟨#[10]⟩) W :=
          fun W b h => run_b2s W _ _ 5 Tryd.underlying42 Tryd.underlying5 Tryd.underlying9 _ _ _ _ _ rfl h
        have zb : ∀ (W : World) (n : Nat), n = W.heap.size → Bs (W.alloc (.cells #[.int .u8 10] 5)) n 0 [10] := fun W n hn => one_bs (x := 10) hn
        clear f1 f2 f3 z1 z2 z3 k12 k123 s12 s123 d2 wL l1 l2 l3
        have hC8' := Lib.hid hC8
        have hm' := Lib.hid hm
        have hU' := Lib.hid hU
        have hcb' := Lib.hid hcb
        clear hcb hU hm hC8
        go_wp2_with fail
        go_region_with (first | (go_at_call 14; with_reducible refine (huv _).out.mono ?_; rintro e w1 ⟨rfl, hb1⟩) | (rw [hconv _ _ (by first | exact zb _ _ rfl | exact Bs.drew (zb _ _ rfl) | exact zcall_ (by assumption) (zb _ _ rfl) | exact zcall_ (by assumption) (Bs.drew (zb _ _ rfl)))]; go_simp))
        all_goals
          go_wp2_with fail
          go_roundw
          case rel =>
            refine ⟨j + 1, by omega, by go_num, by rw [hcb'.out]; simp; exact mkcat Bd (10 :: (U ++ M)), (((hCr'.out.trans hC0'.out).trans hC8'.out).trans (?_ : Ch [] wc _))⟩
            repeat (first | exact Ch.refl _ _ | refine Ch.drew ?_ | refine Ch.alloc ?_ _ | refine Ch.trans_nil ?_ (Ch.of_below (by assumption)))
          case measure => simp [intOf]; omega
    · obtain rfl : j = N := by omega
      have ht : (l.map RC.chg).take j = l.map RC.chg := List.take_of_length_le (by simp; have := hN'.out; omega)
      have hbl := hcl'.out j
      rw [ht] at hbl ⊢
      have hset : setB (l.map RC.chg) = Lib.beBytes 4 (bodyB (l.map RC.chg)).length ++ (Lib.beBytes 4 (crc32 (bodyB (l.map RC.chg))) ++ bodyB (l.map RC.chg)) := rfl
      obtain ⟨Bd, hBd⟩ : ∃ b, bodyB (l.map RC.chg) = b := ⟨_, rfl⟩
      rw [hBd] at hset hbl ⊢
      obtain ⟨n, hn⟩ : ∃ n, Bd.length = n := ⟨_, rfl⟩
      obtain ⟨k, hk⟩ : ∃ n, crc32 Bd = n := ⟨_, rfl⟩
      have hk32 : k < 4294967296 := by rw [← hk]; exact crc32_lt Bd
      rw [hn, hk] at hset
      rw [hn] at hbl
      obtain ⟨P1, hP1⟩ : ∃ b, Lib.beBytes 4 n = b := ⟨_, rfl⟩
      obtain ⟨P2, hP2⟩ : ∃ b, Lib.beBytes 4 k = b := ⟨_, rfl⟩
      have hb1 : ∀ W, Hid (Calls Tryd.prog 15 #[.int .u32 (n : Int)] W fun e w' => e = .returned (.string ⟨P1.toArray⟩) ∧ Below W.heap.size W w') := fun W => Lib.hid (by rw [← hP1]; exact big_any n (by omega) W)
      have hb2 : ∀ W, Hid (Calls Tryd.prog 15 #[.int .u32 (k : Int)] W fun e w' => e = .returned (.string ⟨P2.toArray⟩) ∧ Below W.heap.size W w') := fun W => Lib.hid (by rw [← hP2]; exact big_any k hk32 W)
      have hcr : ∀ W, Hid (Calls Tryd.prog 16 #[.string ⟨Bd.toArray⟩] W fun e w' => e = .returned (.int .u32 (k : Int)) ∧ Below W.heap.size W w') := fun W => Lib.hid (by rw [← hk]; exact specCrc_any Bd W (by omega))
      have p1 : P1.length = 4 := by rw [← hP1]; exact Lib.beBytes_length 4 n
      have p2 : P2.length = 4 := by rw [← hP2]; exact Lib.beBytes_length 4 k
      rw [hP1, hP2] at hset
      have z1 := mksize P1
      have z2 := mksize P2
      have zB := mksize Bd
      rw [p1] at z1
      rw [p2] at z2
      rw [hn] at zB
      have k1 := mkcat P1 P2
      have k2 := mkcat (P1 ++ P2) Bd
      have zz := mksize (P1 ++ P2)
      have wn : IntKind.u32.wrap (n : Int) = (n : Int) := IntWalk.u32_in _ (by omega)
      have s2 : ¬ 9223372036854775807 < 8 + n := by omega
      have s3 : ¬ 9223372036854775807 < P1.length + P2.length + n := by omega
      have s4 : ¬ 9223372036854775807 < 4 + 4 + n := by omega
      have hset' := Lib.hid hset
      have hCr' := Lib.hid hCr
      have hBd' := Lib.hid hBd
      have hn' := Lib.hid hn
      have hk' := Lib.hid hk
      have hP1' := Lib.hid hP1
      have hP2' := Lib.hid hP2
      have ht' := Lib.hid ht
      have p1' := Lib.hid p1
      have p2' := Lib.hid p2
      clear p2 p1 ht hP2 hP1 hk hn hBd hCr hset
      go_wp2_with fail
      refine (hb1 _).out.mono ?_
      rintro e w1 ⟨rfl, hbl1⟩
      have hbl1' := Lib.hid hbl1
      clear hbl1
      go_wp2_with fail
      refine (hcr _).out.mono ?_
      rintro e w2 ⟨rfl, hbl2⟩
      have hbl2' := Lib.hid hbl2
      clear hbl2
      go_wp2_with fail
      refine (hb2 _).out.mono ?_
      rintro e w3 ⟨rfl, hbl3⟩
      have hbl3' := Lib.hid hbl3
      clear hbl3
      go_wp2_with fail
      go_ret
      refine ⟨?_, ((hCr'.out.trans (Ch.of_below hbl1'.out)).trans (Ch.of_below hbl2'.out)).trans (Ch.of_below hbl3'.out)⟩
      rw [hset'.out]
      show Ending.returned (Value.string _) = _
      simp
end Go.Proofs.YtkjgkjmaoebeoaaDoor
