/-
  zzFits9 and lChanges: which sets of changes are asked.
-/
import Derived.Test.YtkjgkjmaoebeoaaDoorMbk
import Derived.Test.YtkjgkjmaoebeoaaDoorMfm
namespace Go.Proofs.YtkjgkjmaoebeoaaDoor
open Go Go.RowKit
open Go.Proofs

/-- Sets of changes in memory, below B. -/
structure SetsR (B : Nat) (w : World) (v : Value) (Ls : List (List RC)) : Prop where
  form : ∃ A c, v = .slice A Ls.length c
  at_ : ∀ j (hj : j < Ls.length), ∃ b o c u, v = .slice (some ⟨b, o, none⟩) Ls.length c ∧ b < B ∧ b < w.heap.size ∧ w.cell? ⟨b, o + j, none⟩ = some u ∧ RcsR B w u Ls[j]
theorem SetsR.ch {B : Nat} {S : List Nat} {w w' : World} {v : Value} {Ls : List (List RC)} (h : SetsR B w v Ls) (hc : Ch S w w') (hS : ∀ k, k ∈ S → B ≤ k) : SetsR B w' v Ls := by
  refine ⟨h.form, fun j hj => ?_⟩
  obtain ⟨b, o, c, u, e, hB, hlt, c0, hu⟩ := h.at_ j hj
  exact ⟨b, o, c, u, e, hB, Nat.lt_of_lt_of_le hlt hc.size, (hc.cell _ hlt (fun hm => by have := hS _ hm; omega)).trans c0, hu.ch hc hS⟩

/-- No set holds more than a slice may. -/
def FitL (Ls : List (List RC)) : Prop := Ls.length ≤ 2147483647 ∧ ∀ L, L ∈ Ls → L.length ≤ 2147483647

set_option maxHeartbeats 4000000 in
set_option maxRecDepth 20000 in
theorem zzFits9_any (B : Nat) (Ls : List (List RC)) (v : Value) (w : World) (hv : SetsR B w v Ls) (hl : Ls.length ≤ 9223372036854775807) :
    Calls Tryd.prog 5 #[v] w fun e w' => ((FitL Ls ∧ e = .returned (.bool true)) ∨ e = .returned (.bool false)) ∧ w' = w := by
  obtain ⟨A, c, rfl⟩ := hv.form
  obtain ⟨n, hn⟩ : ∃ n, Ls.length = n := ⟨_, rfl⟩
  rw [hn] at hv hl
  rw [hn]
  by_cases h0 : 2147483647 < n
  · have h0I : 2147483647 < (n : Int) := by omega
    have hv' := Lib.hid hv
    have hn' := Lib.hid hn
    clear hn hv
    go_enter Tryd.func5, Tryd.ntmps5
    go_wp2_with fail
    go_ret
    exact ⟨.inr rfl, rfl⟩
  · have h0I : ¬ 2147483647 < (n : Int) := by omega
    have hv' := Lib.hid hv
    have hn' := Lib.hid hn
    clear hn hv
    go_enter Tryd.func5, Tryd.ntmps5
    go_wp2_with fail
    go_loopw [2, 4, 10] (fun s2 s4 s10 wx => ∃ j : Nat, j ≤ n ∧ s10 = .int .i64 (j : Int) ∧ (∀ L, L ∈ Ls.take j → L.length ≤ 2147483647) ∧ wx = w) (fun _ _ s10 _ => n - (intOf s10).toNat)
    case atStart => exact ⟨0, Nat.zero_le _, rfl, fun L h => by simp at h, rfl⟩
    case round =>
      obtain ⟨j, hj, rfl, hall, rfl⟩ := hrel
      by_cases hlt : j < n
      · have hltI : (j : Int) < (n : Int) := by omega
        have hj0 : (0 : Int) ≤ (j : Int) := by omega
        have hjl : j < Ls.length := by rw [hn'.out]; exact hlt
        obtain ⟨g, o, c2, u, he, hgB, hgl, c0, hu⟩ := hv'.out.at_ j (by rw [hn'.out]; exact hlt)
        obtain rfl : A = some ⟨g, o, none⟩ := by injection he
        clear he
        obtain ⟨Au, cu, rfl⟩ := hu.form
        obtain ⟨m, hm⟩ : ∃ m, (Ls[j]).length = m := ⟨_, rfl⟩
        rw [hm] at c0 hu
        have w1 : IntKind.i64.wrap ((j : Int) + 1) = ((j + 1 : Nat) : Int) := (IntWalk.i64_in _ (by omega)).trans (by omega)
        by_cases hbig : 2147483647 < m
        · have hbI : 2147483647 < (m : Int) := by omega
          have hu' := Lib.hid hu
          have hall' := Lib.hid hall
          have hm' := Lib.hid hm
          clear hm hall hu
          go_wp2_with fail
          go_ret
          exact ⟨.inr rfl, rfl⟩
        · have hbI : ¬ 2147483647 < (m : Int) := by omega
          have hu' := Lib.hid hu
          have hall' := Lib.hid hall
          have hm' := Lib.hid hm
          clear hm hall hu
          go_wp2_with fail
          go_roundw
          case rel =>
            refine ⟨j + 1, by omega, by go_num, fun L h => ?_, by simp⟩
            rw [List.take_add_one, List.getElem?_eq_getElem hjl] at h
            rcases List.mem_append.1 h with h | h
            · exact hall'.out L h
            · simp at h
              rw [h, hm'.out]
              omega
          case measure => simp [intOf]; omega
      · obtain rfl : j = n := by omega
        have ht : Ls.take j = Ls := List.take_of_length_le (by have := hn'.out; omega)
        rw [ht] at hall
        have hall' := Lib.hid hall
        clear hall
        go_wp2_with fail
        go_ret
        exact ⟨.inl ⟨⟨by have := hn'.out; omega, hall'.out⟩, rfl⟩, rfl⟩

/-- The sets as the book reads them. -/
def chgs (Ls : List (List RC)) : List (List Chg) := Ls.map fun L => L.map RC.chg
/-- What is asked of one change. -/
def OkC (x : RC) : Prop := 1 ≤ x.id ∧ x.id ≤ 1000 ∧ 0 ≤ x.lev ∧ x.lev ≤ 6
/-- What is asked of the sets. -/
structure OkSets (Ls : List (List RC)) : Prop where
  len : Ls.length ≤ 20
  each : ∀ L, L ∈ Ls → 1 ≤ L.length ∧ L.length ≤ 10 ∧ ∀ x, x ∈ L → OkC x
  oks : ∀ j (h : j < Ls.length), (bok0.run (chgs (Ls.take j)).flatten).oks (Ls[j].map RC.chg)

theorem chgs_take {Ls : List (List RC)} {j : Nat} (h : j < Ls.length) : (chgs (Ls.take (j + 1))).flatten = (chgs (Ls.take j)).flatten ++ Ls[j].map RC.chg := by
  have h0 : Ls.take (j + 1) = Ls.take j ++ [Ls[j]] := by rw [List.take_add_one, List.getElem?_eq_getElem h]; rfl
  rw [h0]
  unfold chgs
  rw [List.map_append, List.flatten_append]
  simp only [List.map_cons, List.map_nil, List.flatten_cons, List.flatten_nil, List.append_nil]
theorem run_has {b : Bok} {m : Nat} (hb : ∀ g, (b.f g).isSome = true → g < m) : ∀ l : List Chg, (∀ x, x ∈ l → x.id < m) → ∀ g, ((b.run l).f g).isSome = true → g < m
  | [], _, g, hg => hb g hg
  | c :: l, hl, g, hg => by
    have hb' : ∀ g, ((b.step c).f g).isSome = true → g < m := fun g hg => by
      unfold Bok.step at hg
      split at hg
      · simp only at hg
        split at hg
        · cases hg
        · exact hb g hg
      · simp only at hg
        split at hg
        · rename_i e
          rw [e]
          exact hl c (by simp)
        · exact hb g hg
    exact run_has hb' l (fun x hx => hl x (by simp [hx])) g hg

set_option maxHeartbeats 8000000 in
set_option maxRecDepth 20000 in
theorem lChanges_any (B : Nat) (Ls : List (List RC)) (v : Value) (w : World) (hv : SetsR B w v Ls) (hBw : B ≤ w.heap.size) (hfit : FitL Ls) (hid : ∀ L, L ∈ Ls → ∀ x, x ∈ L → x.id < 18446744073709551616) :
    Calls Tryd.prog 7 #[v] w fun e w' => ((OkSets Ls ∧ e = .returned (.bool true)) ∨ e = .returned (.bool false)) ∧ Ch [] w w' := by
  obtain ⟨A, c, rfl⟩ := hv.form
  obtain ⟨n, hn⟩ : ∃ n, Ls.length = n := ⟨_, rfl⟩
  have hn2 : n ≤ 2147483647 := by rw [← hn]; exact hfit.1
  rw [hn] at hv
  rw [hn]
  have hmm := @run_makeMap Tryd.prog
  have hv' := Lib.hid hv
  have hn' := Lib.hid hn
  have hfit' := Lib.hid hfit
  have hid' := Lib.hid hid
  clear hid hfit hn hv
  go_enter Tryd.func7, Tryd.ntmps7
  go_wp2_with fail
  obtain ⟨W0, hW0⟩ : ∃ W, (w.alloc (.map #[] 0)).alloc (.cells #[.map (some w.heap.size), .int .i64 0, .int .i64 0] 29) = W := ⟨_, rfl⟩
  have hC0 : Ch [] w W0 := by rw [← hW0]; exact ((Ch.refl [] w).alloc _).alloc _
  have hb0 : BookAt (w.heap.size + 1) w.heap.size 1001 (10 * 0) (bok0.run (chgs (Ls.take 0)).flatten) W0 := by
    rw [← hW0]
    exact ⟨Bk.at_ _ _ _ _ (by simp), ((LevAt.made w).ch ((Ch.refl [] _).alloc _) (by simp)).more (by omega), Nat.le_refl _⟩
  rw [hW0]
  clear hW0
  have hC0' := Lib.hid hC0
  have hb0' := Lib.hid hb0
  clear hb0 hC0
  go_loopw [2, 5, 7, 13, 27] (fun s2 s5 s7 s13 s27 wx => ∃ j : Nat, j ≤ n ∧ s13 = .int .i64 (j : Int) ∧ (∀ L, L ∈ Ls.take j → 1 ≤ L.length ∧ L.length ≤ 10 ∧ ∀ x, x ∈ L → OkC x) ∧ (∀ i (h : i < Ls.length), i < j → (bok0.run (chgs (Ls.take i)).flatten).oks (Ls[i].map RC.chg)) ∧
      BookAt (w.heap.size + 1) w.heap.size 1001 (10 * j) (bok0.run (chgs (Ls.take j)).flatten) wx ∧ Ch [] w wx) (fun _ _ _ s13 _ _ => n - (intOf s13).toNat)
  case atStart => exact ⟨0, Nat.zero_le _, rfl, fun L h => by simp at h, fun i _ h => absurd h (by omega), hb0'.out, hC0'.out⟩
  case round =>
    obtain ⟨j, hj, rfl, heach, hoks, hbr, hCr⟩ := hrel
    by_cases hlt : j < n
    · have hltI : (j : Int) < (n : Int) := by omega
      have hj0 : (0 : Int) ≤ (j : Int) := by omega
      have hjl : j < Ls.length := by rw [hn'.out]; exact hlt
      obtain ⟨g, o, c2, u, he, hgB, hgl, c0, hu⟩ := (hv'.out.ch hCr (by simp)).at_ j (by rw [hn'.out]; exact hlt)
      obtain rfl : A = some ⟨g, o, none⟩ := by injection he
      clear he
      obtain ⟨Au, cu, rfl⟩ := hu.form
      have hmem : Ls[j] ∈ Ls := List.getElem_mem _
      have hlm := hfit'.out.2 _ hmem
      have hidL := hid'.out _ hmem
      have htake := chgs_take hjl
      obtain ⟨L, hL⟩ : ∃ L, Ls[j] = L := ⟨_, rfl⟩
      have hLj : Ls.take (j + 1) = Ls.take j ++ [L] := by rw [List.take_add_one, List.getElem?_eq_getElem hjl, hL]; rfl
      rw [hL] at c0 hu hlm hidL htake
      obtain ⟨m, hm⟩ : ∃ m, L.length = m := ⟨_, rfl⟩
      rw [hm] at c0 hu hlm
      have w1 : IntKind.i64.wrap ((j : Int) + 1) = ((j + 1 : Nat) : Int) := (IntWalk.i64_in _ (by omega)).trans (by omega)
      have hszr := hCr.size
      by_cases hz : m = 0
      · subst hz
        have hu' := Lib.hid hu
        have heach' := Lib.hid heach
        have hoks' := Lib.hid hoks
        have hbr' := Lib.hid hbr
        have hCr' := Lib.hid hCr
        have hL' := Lib.hid hL
        have hm' := Lib.hid hm
        have hidL' := Lib.hid hidL
        have htake' := Lib.hid htake
        have hLj' := Lib.hid hLj
        clear hLj htake hidL hm hL hCr hbr hoks heach hu
        go_wp2_with fail
        go_ret
        exact ⟨.inr rfl, hCr'.out⟩
      · by_cases h10 : 10 < m
        · have hzI : ((m : Int) == 0) = false := by simp; omega
          have hzI2 : ¬ (m : Int) = 0 := by omega
          have h10I : (10 : Int) < (m : Int) := by omega
          have hu' := Lib.hid hu
          have heach' := Lib.hid heach
          have hoks' := Lib.hid hoks
          have hbr' := Lib.hid hbr
          have hCr' := Lib.hid hCr
          have hL' := Lib.hid hL
          have hm' := Lib.hid hm
          have hidL' := Lib.hid hidL
          have htake' := Lib.hid htake
          have hLj' := Lib.hid hLj
          clear hLj htake hidL hm hL hCr hbr hoks heach hu
          go_wp2_with fail
          go_ret
          exact ⟨.inr rfl, hCr'.out⟩
        · have hzI : ((m : Int) == 0) = false := by simp; omega
          have hzI2 : ¬ (m : Int) = 0 := by omega
          have h10I : ¬ (10 : Int) < (m : Int) := by omega
          have hu' := Lib.hid hu
          have heach' := Lib.hid heach
          have hoks' := Lib.hid hoks
          have hbr' := Lib.hid hbr
          have hCr' := Lib.hid hCr
          have hL' := Lib.hid hL
          have hm' := Lib.hid hm
          have hidL' := Lib.hid hidL
          have htake' := Lib.hid htake
          have hLj' := Lib.hid hLj
          clear hLj htake hidL hm hL hCr hbr hoks heach hu
          go_wp2_with fail
          go_loopw [2, 7, 27] (fun s2 s7 s27 wx => ∃ k : Nat, k ≤ m ∧ s27 = .int .i64 (k : Int) ∧ (∀ x, x ∈ L.take k → OkC x) ∧ Ch [] wr wx) (fun _ _ s27 _ => m - (intOf s27).toNat)
          case atStart => exact ⟨0, Nat.zero_le _, rfl, fun x h => by simp at h, Ch.refl _ _⟩
          case round =>
            obtain ⟨k, hk, rfl, hkall, hCk⟩ := hrel
            by_cases hlt2 : k < m
            · have hlt2I : (k : Int) < (m : Int) := by omega
              have hk0 : (0 : Int) ≤ (k : Int) := by omega
              have hkl : k < L.length := by rw [hm'.out]; exact hlt2
              obtain ⟨g2, o2, c3, he2, hg2B, hg2l, d0, d1, d2⟩ := (hu'.out.ch hCk (by simp)).at_ k (by rw [hm'.out]; exact hlt2)
              obtain rfl : Au = some ⟨g2, o2, none⟩ := by injection he2
              clear he2
              obtain ⟨x, hx⟩ : ∃ x, L[k] = x := ⟨_, rfl⟩
              have hxi := hidL'.out x (by rw [← hx]; exact List.getElem_mem _)
              rw [hx] at d0 d1 d2
              have hLk : L.take (k + 1) = L.take k ++ [x] := by rw [List.take_add_one, List.getElem?_eq_getElem hkl, hx]; rfl
              obtain ⟨id, lv, dr⟩ := x
              simp only at d0 d1 d2 hxi
              have w2 : IntKind.i64.wrap ((k : Int) + 1) = ((k + 1 : Nat) : Int) := (IntWalk.i64_in _ (by omega)).trans (by omega)
              have hCx := (Ch.refl [] wr).alloc (.cells #[.int .u64 (id : Int), .int .i64 lv, .bool dr] 47)
              by_cases q1 : id < 1
              · have q1I : (id : Int) < 1 := by omega
                have hkall' := Lib.hid hkall
                have hCk' := Lib.hid hCk
                have hx' := Lib.hid hx
                have hLk' := Lib.hid hLk
                clear hLk hx hCk hkall
                go_wp2_with fail
                go_ret
                exact ⟨.inr rfl, (hCr'.out.trans hCk'.out).alloc _⟩
              have q1I : ¬ (id : Int) < 1 := by omega
              by_cases q2 : 1000 < id
              · have q2I : (1000 : Int) < (id : Int) := by omega
                have hkall' := Lib.hid hkall
                have hCk' := Lib.hid hCk
                have hx' := Lib.hid hx
                have hLk' := Lib.hid hLk
                clear hLk hx hCk hkall
                go_wp2_with fail
                go_ret
                exact ⟨.inr rfl, (hCr'.out.trans hCk'.out).alloc _⟩
              have q2I : ¬ (1000 : Int) < (id : Int) := by omega
              by_cases q3 : lv < 0
              ·
                have hkall' := Lib.hid hkall
                have hCk' := Lib.hid hCk
                have hx' := Lib.hid hx
                have hLk' := Lib.hid hLk
                clear hLk hx hCk hkall
                go_wp2_with fail
                go_ret
                exact ⟨.inr rfl, (hCr'.out.trans hCk'.out).alloc _⟩
              by_cases q4 : 6 < lv
              ·
                have hkall' := Lib.hid hkall
                have hCk' := Lib.hid hCk
                have hx' := Lib.hid hx
                have hLk' := Lib.hid hLk
                clear hLk hx hCk hkall
                go_wp2_with fail
                go_ret
                exact ⟨.inr rfl, (hCr'.out.trans hCk'.out).alloc _⟩
              have hkall' := Lib.hid hkall
              have hCk' := Lib.hid hCk
              have hx' := Lib.hid hx
              have hLk' := Lib.hid hLk
              clear hLk hx hCk hkall
              go_wp2_with fail
              go_roundw
              case rel =>
                refine ⟨k + 1, by omega, by go_num, fun y hy => ?_, hCk'.out.alloc _⟩
                rw [hLk'.out] at hy
                rcases List.mem_append.1 hy with hy | hy
                · exact hkall'.out y hy
                · simp at hy
                  subst hy
                  exact ⟨by show 1 ≤ id; omega, by show id ≤ 1000; omega, by show 0 ≤ lv; omega, by show lv ≤ 6; omega⟩
              case measure => simp [intOf]; omega
            · obtain rfl : k = m := by omega
              have ht : L.take k = L := List.take_of_length_le (by have := hm'.out; omega)
              rw [ht] at hkall
              have hcall := bookChange_any B (w.heap.size + 1) w.heap.size 1001 (10 * j) (bok0.run (chgs (Ls.take j)).flatten) L _ _ (hu'.out.ch hCk (by simp)) (hbr'.out.ch hCk (by simp) (by simp)) (by omega) hBw (by have := hm'.out; omega) (by omega) (by omega) hidL'.out (fun x hx => (hkall x hx).2.2)
              try rw [hm'.out] at hcall
              have hkall' := Lib.hid hkall
              have hCk' := Lib.hid hCk
              have hcall' := Lib.hid hcall
              clear hcall hCk hkall
              go_wp2_with fail
              refine hcall'.out.mono ?_
              rintro e w4 ⟨⟨ho, rfl, hb4⟩ | ⟨ho, rfl⟩, hC4⟩
              · have hCw4 : Ch [] w w4 := (hCr'.out.trans hCk'.out).trans' hC4 (fun k hk => .inr (by simp at hk; omega))
                have ho' := Lib.hid ho
                have hb4' := Lib.hid hb4
                have hC4' := Lib.hid hC4
                have hCw4' := Lib.hid hCw4
                clear hCw4 hC4 hb4 ho
                go_wp2_with fail
                go_roundw
                case rel =>
                  refine ⟨j + 1, by omega, by go_num, fun M hM => ?_, fun i hi hij => ?_, ?_, by simpa using hCw4'.out⟩
                  · rw [hLj'.out] at hM
                    rcases List.mem_append.1 hM with hM | hM
                    · exact heach'.out M hM
                    · simp at hM
                      subst hM
                      have := hm'.out
                      exact ⟨by omega, by omega, hkall'.out⟩
                  · rcases Nat.lt_or_eq_of_le (Nat.le_of_lt_succ hij) with h | h
                    · exact hoks'.out i hi h
                    · subst h
                      rw [hL'.out]
                      exact ho'.out
                  · rw [htake'.out, run_append]
                    have h0 := hb4'.out
                    refine ⟨by simpa using h0.bk, h0.mp.tight (m := 1001) (fun g hg => ?_), Nat.le_trans h0.few (by omega)⟩
                    refine run_has (m := 1001) (fun g hg => ?_) _ (fun x hx => ?_) g hg
                    · refine run_has (m := 1001) (b := bok0) (fun g hg => by cases hg) _ (fun x hx => ?_) g hg
                      obtain ⟨M, hM, hxM⟩ := List.mem_flatten.1 hx
                      obtain ⟨M', hM', rfl⟩ := List.mem_map.1 hM
                      obtain ⟨y, hy, rfl⟩ := List.mem_map.1 hxM
                      exact Nat.lt_succ_of_le ((heach'.out M' hM').2.2 y hy).2.1
                    · obtain ⟨y, hy, rfl⟩ := List.mem_map.1 hx
                      exact Nat.lt_succ_of_le (hkall'.out y hy).2.1
                case measure => simp [intOf]; omega
              · have hCw4 : Ch [] w w4 := (hCr'.out.trans hCk'.out).trans' hC4 (fun k hk => .inr (by simp at hk; omega))
                have ho' := Lib.hid ho
                have hC4' := Lib.hid hC4
                have hCw4' := Lib.hid hCw4
                clear hCw4 hC4 ho
                go_wp2_with fail
                go_ret
                exact ⟨.inr rfl, hCw4'.out⟩
    · obtain rfl : j = n := by omega
      have ht : Ls.take j = Ls := List.take_of_length_le (by have := hn'.out; omega)
      rw [ht] at heach
      by_cases h20 : j ≤ 20
      · have h20I : (j : Int) ≤ 20 := by omega
        have heach' := Lib.hid heach
        have hoks' := Lib.hid hoks
        have hbr' := Lib.hid hbr
        have hCr' := Lib.hid hCr
        have ht' := Lib.hid ht
        clear ht hCr hbr hoks heach
        go_wp2_with fail
        go_ret
        exact ⟨.inl ⟨⟨by have := hn'.out; omega, heach'.out, fun i hi => hoks'.out i hi (by have := hn'.out; omega)⟩, rfl⟩, hCr'.out⟩
      · have h20I : ¬ (j : Int) ≤ 20 := by omega
        have heach' := Lib.hid heach
        have hoks' := Lib.hid hoks
        have hbr' := Lib.hid hbr
        have hCr' := Lib.hid hCr
        have ht' := Lib.hid ht
        clear ht hCr hbr hoks heach
        go_wp2_with fail
        go_ret
        exact ⟨.inr rfl, hCr'.out⟩
end Go.Proofs.YtkjgkjmaoebeoaaDoor
