/-
  sort.Sort over a relation: pdqsort, Sort.
-/
import Derived.Test.YtjioghedokbgcaaDoorSortB
import Derived.Test.YtjioghedokbgcaaDoorSortC
import Derived.Test.YtjioghedokbgcaaDoorSortD
import Derived.Test.YtjioghedokbgcaaDoorSortE
import Derived.Test.YtjioghedokbgcaaDoorSortF
import Derived.Test.YtjioghedokbgcaaDoorSortG
import Derived.Sort.Walk13a
import Derived.Sort.LotD4
import Derived.Sort.AssemblyPlain
import Derived.Deep.LoopGhost
import Derived.Deep.DeepCutAuto
namespace Go.Proofs.YtjioghedokbgcaaDoor
open Go Go.RowKit
open Go.Proofs
open Go.Sort hiding Below

variable {α : Type} [Inhabited α] {rv : Addr} {lt : α → α → Bool} {n base : Nat} {R : World → Array α → Prop}

theorem breakPatterns_any (E : SortEnv rv lt n base R) (a b : Nat) (d : Array α) (w : World) (hR : R w d) (hd : d.size = n) (hab : a + 8 ≤ b) (hb : b ≤ n) (hn8 : n < 256) :
    Calls Tryd.prog 42 #[.iface 38 (.pointer (some rv)), .int .i64 (a : Int), .int .i64 (b : Int)] w fun e w' => e = .returned (.tuple #[]) ∧ R w' (Sort.breakPatterns d a b) := by
  obtain ⟨L, rfl⟩ : ∃ L, b = a + L := ⟨b - a, by omega⟩
  exact breakPatterns_go_ E a L d w hR hd hb hn8 (by omega)

theorem hintCode_two_ {h : Hint} (e : hintCode h = 2) : h = .decreasing := by cases h <;> simp [hintCode] at e ⊢
theorem eighth_ {x y p q : Nat} (h1 : q ≤ p) (h2 : y ≤ x) : decide (((x : Int) - (y : Int)) / 8 ≤ (p : Int) - (q : Int)) = decide (p - q ≥ (x - y) / 8) :=
  decide_eq_decide.2 ⟨fun h => by omega, fun h => by omega⟩

set_option maxHeartbeats 8000000 in
set_option maxRecDepth 100000 in
theorem pdqsort_any (E : SortEnv rv lt n base R) (hn8 : n < 256) (S : SWO lt) : ∀ (N a b limit : Nat) (d : Array α) (w : World), b - a < N → R w d → d.size = n → a ≤ b → b ≤ n → limit < 4611686018427387904 → Sort.Below lt a b d →
    Calls Tryd.prog 31 #[.iface 38 (.pointer (some rv)), .int .i64 (a : Int), .int .i64 (b : Int), .int .i64 (limit : Int)] w fun e w' => e = .returned (.tuple #[]) ∧ R w' (pdq lt d a b limit true true) := by
  intro N
  induction N with
  | zero => intro _ _ _ _ _ h; exact absurd h (Nat.not_lt_zero _)
  | succ N ih =>
    intro a b limit d w hN hR hds0 hab hb hlimit hBel0
    have ih' := Lib.hid ih
    have hR' := Lib.hid hR
    clear ih hR
    go_enter Tryd.func31, Tryd.ntmps31
    go_wp2_with fail
    go_loopg [1, 2, 3, 8, 9] (b - a) (fun k s1 s2 s3 s8 s9 wr => ∃ (a' b' lim : Nat) (wb wp : Bool) (dk : Array α), s1 = .int .i64 a' ∧ s2 = .int .i64 b' ∧ s3 = .int .i64 lim ∧ s8 = .bool wb ∧ s9 = .bool wp ∧
      a' ≤ b' ∧ b' ≤ n ∧ b' - a' ≤ k ∧ k ≤ b - a ∧ lim ≤ limit ∧ dk.size = n ∧ Sort.Below lt a' b' dk ∧ R wr dk ∧ pdq lt dk a' b' lim wb wp = pdq lt d a b limit true true)
    case atStart => exact ⟨a, b, limit, true, true, d, rfl, rfl, rfl, rfl, rfl, hab, hb, Nat.le_refl _, Nat.le_refl _, Nat.le_refl _, hds0, hBel0, hR'.out, rfl⟩
    case round =>
      obtain ⟨a', b', lim, wb, wp, dk, rfl, rfl, rfl, rfl, rfl, hab', hb', hk, hkN, hlim, hds, hBel, hRk, heq⟩ := hrel
      have A := Lib.hid heq
      have hRk' := Lib.hid hRk
      clear heq hRk
      by_cases h12 : b' - a' ≤ 12
      · have h12z : (b' : Int) - (a' : Int) ≤ 12 := by omega
        go_wp2_with fail
        refine (insertionSort_any E a' b' dk _ hRk'.out hds hab' hb').mono ?_
        rintro e w1 ⟨rfl, hR1⟩
        rw [← pdq_small (limit := lim) (wb := wb) (wp := wp) h12, A.out] at hR1
        have hR1' := Lib.hid hR1
        clear hR1
        go_wp2_with fail
        (try simp only [Exit.inBlock, Exit.then]); refine bodyPost_ret (results_none rfl _ _ _) rfl ?_
        exact ⟨rfl, hR1'.out⟩
      · have h12z : ¬ ((b' : Int) - (a' : Int) ≤ 12) := by omega
        by_cases hl0 : lim = 0
        · subst hl0
          go_wp2_with fail
          refine (heapSort_any E a' b' dk _ hRk'.out hds hab' hb').mono ?_
          rintro e w1 ⟨rfl, hR1⟩
          rw [← pdq_heap (wb := wb) (wp := wp) h12 rfl, A.out] at hR1
          have hR1' := Lib.hid hR1
          clear hR1
          go_wp2_with fail
          (try simp only [Exit.inBlock, Exit.then]); refine bodyPost_ret (results_none rfl _ _ _) rfl ?_
          exact ⟨rfl, hR1'.out⟩
        · have hl0z : ¬ ((lim : Int) = 0) := by omega
          obtain ⟨s1, B1, hc1, s2, B2, hpv, s3, B3⟩ := rd_facts (limit := lim) (wb := wb) (wp := wp) S partialInsertionSort_holds reverseRange_holds (show a' < b' by omega) (show b' ≤ dk.size by omega) hBel
          have hab8 : a' + 8 ≤ b' := by omega
          have habL : a' < b' := by omega
          have z1 : (rd lt dk a' b' lim wb wp).d1.size = n := s1.trans hds
          have z2 : (rd lt dk a' b' lim wb wp).d2.size = n := s2.trans hds
          have z3 : (rd lt dk a' b' lim wb wp).pi.1.size = n := s3.trans hds
          go_upto_if 35 with fail
          go_cut [3] (fun s3 wc => s3 = .int .i64 (rd lt dk a' b' lim wb wp).lim ∧ R wc (rd lt dk a' b' lim wb wp).d1)
          case first =>
            cases wb
            · go_wp2_with fail
              refine (breakPatterns_any E a' b' dk _ hRk'.out hds hab8 hb' hn8).mono ?_
              rintro e w1 ⟨rfl, hR1⟩
              have hR1' := Lib.hid hR1
              clear hR1
              go_wp2_with fail
              go_meet
              case rel =>
                refine ⟨?_, hR1'.out⟩
                show Value.int .i64 ((lim : Int) - 1) = Value.int .i64 ((lim - 1 : Nat) : Int)
                congr 1
                omega
            · go_wp2_with fail
              go_meet
              case rel => exact ⟨rfl, hRk'.out⟩
          case rest =>
            obtain ⟨rfl, hR1⟩ := hcut
            have hR1' := Lib.hid hR1
            clear hR1
            have hcp := Lib.hid (rd_c (lt := lt) (d := dk) (a := a') (b := b') (limit := lim) (wb := wb) (wp := wp))
            go_upto_if 50 with (go_at_call 43; with_reducible refine (choosePivot_any E a' b' (rd lt dk a' b' lim wb wp).d1 _ hR1'.out z1 hab8 hb').mono ?_; rw [← hcp.out]; rintro e w2 ⟨rfl, hR2⟩)
            have hR2' := Lib.hid hR2
            clear hR2
            go_cut [11, 12] (fun s11 s12 wc => s11 = .int .i64 (rd lt dk a' b' lim wb wp).pivot ∧ s12 = .int .i64 (hintCode (rd lt dk a' b' lim wb wp).hint) ∧ R wc (rd lt dk a' b' lim wb wp).d2)
            case first =>
              by_cases hh : (rd lt dk a' b' lim wb wp).c.2 = .decreasing
              · have hcode : hintCode (rd lt dk a' b' lim wb wp).c.2 = 2 := by rw [hh]; rfl
                have hcodeB : (hintCode (rd lt dk a' b' lim wb wp).c.2 == 2) = true := by rw [hcode]; rfl
                obtain ⟨e2, epv, eht⟩ := rd_dec hh
                go_wp2_with fail
                refine (reverseRange_any E a' b' (rd lt dk a' b' lim wb wp).d1 _ hR2'.out z1 habL hb').mono ?_
                rw [← e2]
                rintro e w3 ⟨rfl, hR3⟩
                have hR3' := Lib.hid hR3
                clear hR3
                go_wp2_with fail
                go_meet
                case rel =>
                  refine ⟨?_, by rw [eht]; rfl, hR3'.out⟩
                  rw [epv]
                  congr 1
                  omega
              · have hcode : ¬ (hintCode (rd lt dk a' b' lim wb wp).c.2 = 2) := fun h => hh (hintCode_two_ h)
                have hcodeB : (hintCode (rd lt dk a' b' lim wb wp).c.2 == 2) = false := by simp [hcode]
                obtain ⟨e2, epv, eht⟩ := rd_not hh
                go_wp2_with fail
                go_meet
                case rel => exact ⟨by rw [epv], by rw [eht], by rw [e2]; exact hR2'.out⟩
            case rest =>
              obtain ⟨rfl, rfl, hR3⟩ := hcut
              have hR3' := Lib.hid hR3
              clear hR3
              go_upto_region 15 with fail
              go_cut [12, 68] (fun s12 s68 wx => s12 = .int .i64 (hintCode (rd lt dk a' b' lim wb wp).hint) ∧ s68 = .bool (wb && wp && decide ((rd lt dk a' b' lim wb wp).hint = .increasing)) ∧ wx = wc)
              case first =>
                cases wb <;> cases wp <;> cases hh3 : (rd lt dk a' b' lim _ _).hint <;>
                  (have hcode3 := congrArg hintCode hh3
                   simp only [hintCode] at hcode3
                   go_wp2_with fail
                   go_meet
                   exact ⟨by simp [hh3, hintCode], by simp [hh3, hintCode], rfl⟩)
              case rest =>
                obtain ⟨rfl, rfl, rfl⟩ := hcut
                go_upto_if 68 with fail
                go_cut [] (fun wx => (rd lt dk a' b' lim wb wp).pi.2 = false ∧ R wx (rd lt dk a' b' lim wb wp).pi.1)
                case first =>
                  cases h68 : (wb && wp && decide ((rd lt dk a' b' lim wb wp).hint = .increasing))
                  · have epi := rd_pi_no h68
                    go_wp2_with fail
                    go_meet
                    case rel => exact ⟨by rw [epi], by rw [epi]; exact hR3'.out⟩
                  · have epi := rd_pi_yes h68
                    obtain ⟨⟨d3, done⟩, hpi⟩ : ∃ q, (rd lt dk a' b' lim wb wp).pi = q := ⟨_, rfl⟩
                    have hcp2 := partialInsertionSort_any E a' b' (rd lt dk a' b' lim wb wp).d2 wc hR3'.out z2 habL hb'
                    rw [← epi, hpi] at hcp2
                    cases done
                    · go_wp2_with fail
                      with_reducible refine hcp2.mono ?_
                      rintro e w4 ⟨rfl, hR4⟩
                      have hR4' := Lib.hid hR4
                      clear hR4
                      go_wp2_with fail
                      go_meet
                      exact ⟨by rw [hpi], by rw [hpi]; exact hR4'.out⟩
                    · go_wp2_with fail
                      with_reducible refine hcp2.mono ?_
                      rintro e w4 ⟨rfl, hR4⟩
                      have hR4' := Lib.hid hR4
                      clear hR4
                      go_wp2_with fail
                      (try simp only [Exit.inBlock, Exit.then]); refine bodyPost_ret (results_none rfl _ _ _) rfl ?_
                      refine ⟨rfl, ?_⟩
                      rw [← A.out, pdq_done h12 hl0 (by rw [hpi]), hpi]
                      exact hR4'.out
                case rest =>
                  obtain ⟨hp2, hR5⟩ := hcut
                  have hR5' := Lib.hid hR5
                  clear hR5
                  go_upto_region 17 with fail
                  go_cut [82] (fun s82 wx => s82 = .bool (decide (a' > 0) && !lt (rd lt dk a' b' lim wb wp).pi.1[a' - 1]! (rd lt dk a' b' lim wb wp).pi.1[(rd lt dk a' b' lim wb wp).pivot]!) ∧ R wx (rd lt dk a' b' lim wb wp).pi.1)
                  case first =>
                    rcases Nat.eq_zero_or_pos a' with ha0 | ha0
                    · have ha0z : decide ((a' : Int) > 0) = false := decide_eq_false (by omega)
                      have ha0y : ¬ (0 : Int) < (a' : Int) := by omega
                      have ha0' := Lib.hid ha0
                      clear ha0
                      go_wp2_with fail
                      go_meet
                      case rel => exact ⟨by simp [ha0'.out], hR5'.out⟩
                    · have ha0z : (0 : Int) < (a' : Int) := by omega
                      have wa : IntKind.i64.wrap ((a' : Int) - 1) = ((a' - 1 : Nat) : Int) := (IntWalk.i64_in _ (by omega)).trans (by omega)
                      obtain ⟨am, ham⟩ : ∃ x, a' - 1 = x := ⟨_, rfl⟩
                      rw [ham] at wa
                      have hamI : (a' : Int) - 1 = (am : Int) := by omega
                      have hless := E.less wc (rd lt dk a' b' lim wb wp).pi.1 am (rd lt dk a' b' lim wb wp).pivot hR5'.out z3 (by omega) (by omega)
                      obtain ⟨tv, htv⟩ : ∃ tv, lt (rd lt dk a' b' lim wb wp).pi.1[am]! (rd lt dk a' b' lim wb wp).pi.1[(rd lt dk a' b' lim wb wp).pivot]! = tv := ⟨_, rfl⟩
                      rw [htv] at hless
                      have hless' := Lib.hid hless
                      have ham' := Lib.hid ham
                      have htv' := Lib.hid htv
                      clear htv ham hless
                      go_wp2_with fail
                      with_reducible refine hless'.out.mono ?_
                      rintro e w7 ⟨rfl, hR7, _⟩
                      have hR7' := Lib.hid hR7
                      clear hR7
                      go_wp2_with fail
                      go_meet
                      case rel => exact ⟨by rw [ham'.out, htv'.out]; simp [ha0], hR7'.out⟩
                  case rest =>
                    obtain ⟨rfl, hR6⟩ := hcut
                    have hR6' := Lib.hid hR6
                    clear hR6
                    cases h87 : (decide (a' > 0) && !lt (rd lt dk a' b' lim wb wp).pi.1[a' - 1]! (rd lt dk a' b' lim wb wp).pi.1[(rd lt dk a' b' lim wb wp).pivot]!)
                    · obtain ⟨mid, ap, d4, hx⟩ : ∃ mid ap d4, partition lt (rd lt dk a' b' lim wb wp).pi.1 a' b' (rd lt dk a' b' lim wb wp).pivot = (mid, ap, d4) := ⟨(partition lt (rd lt dk a' b' lim wb wp).pi.1 a' b' (rd lt dk a' b' lim wb wp).pivot).1, (partition lt (rd lt dk a' b' lim wb wp).pi.1 a' b' (rd lt dk a' b' lim wb wp).pivot).2.1, (partition lt (rd lt dk a' b' lim wb wp).pi.1 a' b' (rd lt dk a' b' lim wb wp).pivot).2.2, rfl⟩
                      obtain ⟨r1, r2, r3, r4, r5, r6, r7⟩ := round_part S (partition_holds lt) hpv.1 hpv.2 (show b' ≤ (rd lt dk a' b' lim wb wp).pi.1.size by omega) B3 hx
                      have hc22 := partition_any E a' b' (rd lt dk a' b' lim wb wp).pivot (rd lt dk a' b' lim wb wp).pi.1 wc hR6'.out z3 hpv.1 hpv.2 hb'
                      rw [hx] at hc22
                      have hx' := Lib.hid hx
                      have z4 : d4.size = n := r3.trans z3
                      clear hx
                      have hc22' := Lib.hid hc22
                      have r4' := Lib.hid r4
                      have r5' := Lib.hid r5
                      have r6' := Lib.hid r6
                      have r7' := Lib.hid r7
                      clear r7 r6 r5 r4 hc22
                      go_upto_if 108 with (go_at_call 47; with_reducible refine hc22'.out.mono ?_; rintro e w7 ⟨rfl, hR7⟩)
                      have hR7' := Lib.hid hR7
                      clear hR7
                      have hx := hx'.out
                      by_cases h4 : mid - a' < b' - mid
                      · have h4z : (mid : Int) - (a' : Int) < (b' : Int) - (mid : Int) := by omega
                        have hih := ih'.out a' mid (rd lt dk a' b' lim wb wp).lim d4 w7 (by omega) hR7'.out z4 (by omega) (by omega) (Nat.lt_of_le_of_lt (Nat.le_trans rd_lim_le hlim) hlimit) r4'.out
                        obtain ⟨pL, sL⟩ := pdq_sorts lt S d4 a' mid (rd lt dk a' b' lim wb wp).lim true true (by omega) (by omega) r4'.out
                        obtain ⟨m1, hm1⟩ : ∃ x, mid + 1 = x := ⟨_, rfl⟩
                        have hm1I : (mid : Int) + 1 = (m1 : Int) := by omega
                        clear hx
                        have hih' := Lib.hid hih
                        have pL' := Lib.hid pL
                        have sL' := Lib.hid sL
                        clear sL pL hih
                        go_wp2_with fail
                        with_reducible refine hih'.out.mono ?_
                        rintro e w8 ⟨rfl, hR8⟩
                        have hR8' := Lib.hid hR8
                        clear hR8
                        go_wp2_with fail
                        go_roundg (b' - (mid + 1))
                        case measure => omega
                        case rel =>
                          have hx := hx'.out
                          refine ⟨mid + 1, b', (rd lt dk a' b' lim wb wp).lim, decide (mid - a' ≥ (b' - a') / 8), ap, pdq lt d4 a' mid (rd lt dk a' b' lim wb wp).lim true true, by rw [hm1], rfl, rfl, ?_, rfl, by omega, by omega, Nat.le_refl _, by omega, Nat.le_trans rd_lim_le hlim, by rw [pL'.out.1, z4], (r6'.out _ pL'.out sL'.out).1, hR8'.out, ?_⟩
                          · exact congrArg Value.bool (eighth_ (by omega) (by omega))
                          · rw [← A.out, pdq_left h12 hl0 hp2 h87 (by rw [hx]; exact ⟨r1, r2⟩) (by rw [hx]; exact h4), hx]
                      · have h4z : ¬ ((mid : Int) - (a' : Int) < (b' : Int) - (mid : Int)) := by omega
                        have hih := ih'.out (mid + 1) b' (rd lt dk a' b' lim wb wp).lim d4 w7 (by omega) hR7'.out z4 (by omega) (by omega) (Nat.lt_of_le_of_lt (Nat.le_trans rd_lim_le hlim) hlimit) r5'.out
                        obtain ⟨pL, sL⟩ := pdq_sorts lt S d4 (mid + 1) b' (rd lt dk a' b' lim wb wp).lim true true (by omega) (by omega) r5'.out
                        obtain ⟨m1, hm1⟩ : ∃ x, mid + 1 = x := ⟨_, rfl⟩
                        have hm1I : (mid : Int) + 1 = (m1 : Int) := by omega
                        rw [hm1] at hih
                        clear hx
                        have hih' := Lib.hid hih
                        have pL' := Lib.hid pL
                        have sL' := Lib.hid sL
                        clear sL pL hih
                        go_wp2_with fail
                        with_reducible refine hih'.out.mono ?_
                        rintro e w8 ⟨rfl, hR8⟩
                        have hR8' := Lib.hid hR8
                        clear hR8
                        go_wp2_with fail
                        go_roundg (mid - a')
                        case measure => omega
                        case rel =>
                          have hx := hx'.out
                          refine ⟨a', mid, (rd lt dk a' b' lim wb wp).lim, decide (b' - mid ≥ (b' - a') / 8), ap, pdq lt d4 (mid + 1) b' (rd lt dk a' b' lim wb wp).lim true true, rfl, rfl, rfl, ?_, rfl, by omega, by omega, Nat.le_refl _, by omega, Nat.le_trans rd_lim_le hlim, by rw [pL'.out.1, z4], (r7'.out _ pL'.out sL'.out).1, by rw [hm1]; exact hR8'.out, ?_⟩
                          · exact congrArg Value.bool (eighth_ (by omega) (by omega))
                          · rw [← A.out, pdq_right h12 hl0 hp2 h87 (by rw [hx]; exact ⟨r1, r2⟩) (by rw [hx]; exact h4), hx]
                    · have h87' := h87
                      simp only [Bool.and_eq_true, decide_eq_true_eq, Bool.not_eq_true'] at h87'
                      obtain ⟨mid, d4, hx⟩ : ∃ mid d4, partitionEqual lt (rd lt dk a' b' lim wb wp).pi.1 a' b' (rd lt dk a' b' lim wb wp).pivot = (mid, d4) := ⟨(partitionEqual lt (rd lt dk a' b' lim wb wp).pi.1 a' b' (rd lt dk a' b' lim wb wp).pivot).1, (partitionEqual lt (rd lt dk a' b' lim wb wp).pi.1 a' b' (rd lt dk a' b' lim wb wp).pivot).2, rfl⟩
                      obtain ⟨r1, r2, r3, r4, _⟩ := round_eq S (partitionEqual_holds lt) h87'.1 hpv.1 hpv.2 (show b' ≤ (rd lt dk a' b' lim wb wp).pi.1.size by omega) B3 h87'.2 hx
                      have hc21 := partitionEqual_any E a' b' (rd lt dk a' b' lim wb wp).pivot (rd lt dk a' b' lim wb wp).pi.1 wc hR6'.out z3 hpv.1 hpv.2 hb'
                      rw [hx] at hc21
                      have hx' := Lib.hid hx
                      have z4 : d4.size = n := r3.trans z3
                      clear hx
                      have hc21' := Lib.hid hc21
                      have r4' := Lib.hid r4
                      clear r4 hc21
                      go_wp2_with (go_at_call 46; with_reducible refine hc21'.out.mono ?_; rintro e w7 ⟨rfl, hR7⟩)
                      go_roundg (b' - mid)
                      case measure => omega
                      case rel =>
                        have hx := hx'.out
                        exact ⟨mid, b', (rd lt dk a' b' lim wb wp).lim, wb, wp, d4, rfl, rfl, rfl, rfl, rfl, r2, hb', Nat.le_refl _, by omega, Nat.le_trans rd_lim_le hlim, z4, r4'.out, hR7, by rw [← A.out, pdq_eq h12 hl0 hp2 h87 (by rw [hx]; exact ⟨r1, r2⟩), hx]⟩
end Go.Proofs.YtjioghedokbgcaaDoor
