/-
  laws.FnDiscards: the walk.
-/
import Derived.Carry
import Derived.Deep.CutBlock
import Derived.Deep.DeepCutAuto
import Derived.Test.YtjioghedokbgcaaDoorDisK
import Derived.Test.YtjioghedokbgcaaDoorDisD
namespace Go.Proofs.YtjioghedokbgcaaDoor
open Go Go.RowKit
open Go.Proofs

theorem hasOf_put {l : List (Nat × Int)} {j f : Nat} {N : Int} (hs : l.take (j + 1) = l.take j ++ [(f, N)]) {v : Nat} (hv : stepV (hasOf (l.take j) f) N = some v) : hasOf (l.take (j + 1)) = fun y => if y = f then some v else hasOf (l.take j) y := by
  funext y
  rw [hs, hasOf_snoc]
  simp only
  rw [hv]
theorem hasOf_still {l : List (Nat × Int)} {j f : Nat} {N : Int} (hs : l.take (j + 1) = l.take j ++ [(f, N)]) (hv : stepV (hasOf (l.take j) f) N = hasOf (l.take j) f) : hasOf (l.take (j + 1)) = hasOf (l.take j) := by
  funext y
  rw [hs, hasOf_snoc]
  simp only
  rw [hv]
  split
  · rename_i h; rw [h]
  · rfl
theorem MapAt.more {w : World} {b n m : Nat} {f : Nat → Option Nat} (h : MapAt w b f n) (hm : n ≤ m) : MapAt w b f m := by
  obtain ⟨D, h1, h2⟩ := h
  exact ⟨D, h1.mono hm, h2⟩

theorem MapAt.notin {w : World} {b n : Nat} {f : Nat → Option Nat} (h : MapAt w b f n) {base e size m : Nat} {v : Value} {xs : List Value} (ho : w.ownsRow base e size v m xs) : b ∉ v.ownBlock.toList := fun hm => by
  obtain ⟨D, ⟨es, clock, hb, _⟩, _⟩ := h
  obtain ⟨cs, hc⟩ := own_ty ho (g := b) (by simpa using hm)
  rw [hb] at hc
  cases hc

theorem rowCs_get : ∀ {l : List (Nat × Nat)} {t : Nat} (h : t < l.length), (rowCs l)[t * 2]? = some (.int .u64 ((l[t]).1 : Int)) ∧ (rowCs l)[t * 2 + 1]? = some (.int .u64 ((l[t]).2 : Int))
  | [], t, h => absurd h (by simp)
  | (a, b) :: r, 0, h => ⟨rfl, rfl⟩
  | (a, b) :: r, t + 1, h => by
    have ih := rowCs_get (l := r) (t := t) (by simpa using h)
    rw [show (t + 1) * 2 = t * 2 + 1 + 1 by omega]
    exact ih

set_option maxHeartbeats 8000000 in
set_option maxRecDepth 40000 in
theorem fnDiscards_main (k : Nat) (hk : 4 ≤ k) (hk2 : k ≤ 100) (l : List (Nat × Int)) (hl : l.length ≤ 100) (hlf : ∀ x, x ∈ l → x.1 < 4294967296) (hlN : ∀ x, x ∈ l → -9223372036854775808 ≤ x.2) (v : Value) (a : Addr) (W : World)
    (hv : AddsR W v l) (hg : W.cell? ⟨0, 0, none⟩ = some (.iface 101 (.pointer (some a)))) :
    Calls Tryd.prog 3 #[.int .i64 (k : Int), v] W fun e w' => e = .returned (.bool true) ∧ Ch [] W w' := by
  obtain ⟨A, c, rfl⟩ := hv.form
  obtain ⟨n, hn⟩ : ∃ n, l.length = n := ⟨_, rfl⟩
  have hgl := block_lt_of_cell hg
  have hl' := hl
  rw [hn] at hv hl
  rw [hn]
  have g1 : ¬ (2147483647 : Int) < (n : Int) := by omega
  have g2 : ¬ (k : Int) < 4 := by omega
  have g3 : ¬ (100 : Int) < (k : Int) := by omega
  have g4 : ¬ (100 : Int) < (n : Int) := by omega
  have hmm := @run_makeMap Tryd.prog
  have hm0 := MapAt.made W
  have h60 : (W.alloc (.map #[] 0)).ownsRow W.heap.size 2 1 (.slice none 0 0) 0 (toldCs l 0) := World.ownsRow_nil _ W.heap.size 2 1
  have hv' := Lib.hid hv
  have hn' := Lib.hid hn
  have hlf' := Lib.hid hlf
  have hlN' := Lib.hid hlN
  have hg' := Lib.hid hg
  have hl'' := Lib.hid hl'
  have hm0' := Lib.hid hm0
  have h60' := Lib.hid h60
  clear h60 hm0 hl' hg hlN hlf hn hv
  go_enter Tryd.func3, Tryd.ntmps3
  go_wp2_with fail
  go_loopw [6, 9, 10, 45] (fun s6 s9 s10 s45 wx => ∃ j : Nat, j ≤ n ∧ s45 = .int .i64 (j : Int) ∧ wx.ownsRow W.heap.size 2 1 s6 j (toldCs l j) ∧ MapAt wx W.heap.size (hasOf (l.take j)) j ∧ (∀ x, x ∈ l.take j → x.1 ≤ 1000 ∧ x.2 ≤ 1099511627776) ∧ Ch [] W wx) (fun _ _ _ s45 _ => n - (intOf s45).toNat)
  case atStart => exact ⟨0, Nat.zero_le _, rfl, h60'.out, hm0'.out, fun x hx => by simp at hx, (Ch.refl [] W).alloc _⟩
  case round =>
    obtain ⟨j, hjn, rfl, h6, hM, hok, hCr⟩ := hrel
    by_cases hlt : j < n
    · have hltI : (j : Int) < (n : Int) := by omega
      have hjl : j < l.length := by have := hn'.out; omega
      obtain ⟨g, o, c2, he, hgl2, c0, c1⟩ := (hv'.out.ch hCr).at_ j (by rw [hn'.out]; exact hlt)
      have hAo : A = some ⟨g, o, none⟩ := by injection he
      clear he
      subst hAo
      have hsnoc := take_snoc hjl
      have hmem : l[j] ∈ l := List.getElem_mem _
      have hf1 := hlf'.out _ hmem
      have hN1 := hlN'.out _ hmem
      obtain ⟨f, hf⟩ : ∃ f, (l[j]).1 = f := ⟨_, rfl⟩
      obtain ⟨N, hN⟩ : ∃ N, (l[j]).2 = N := ⟨_, rfl⟩
      have hx : l[j] = (f, N) := by rw [← hf, ← hN]
      rw [hx] at hsnoc
      rw [hf] at c0 hf1
      rw [hN] at c1 hN1
      obtain ⟨a6, c6, rfl⟩ := own_form h6
      obtain ⟨W0, hW0⟩ : ∃ w, wr.alloc (.cells #[.int .u32 (f : Int), .int .i64 N] 27) = w := ⟨_, rfl⟩
      have hC0 : Ch [] wr W0 := by rw [← hW0]; exact (Ch.refl [] wr).alloc _
      have hs0 : Bk W0 wr.heap.size 27 #[.int .u32 (f : Int), .int .i64 N] := by rw [← hW0]; exact Bk.new _ _ _
      have d0 := hs0.cell 0
      have d1 := hs0.cell 1
      simp at d0 d1
      have w1 : IntKind.i64.wrap ((j : Int) + 1) = ((j + 1 : Nat) : Int) := (IntWalk.i64_in _ (by omega)).trans (by omega)
      have hM0 := hM.ch hC0 (by simp)
      have h60 := own_ch h6 hC0 (fun g _ hm => by cases hm)
      have hlook := hM0.look_ok (g := f) (by omega)
      by_cases hbig : 1000 < f
      · have hbigI : (1000 : Int) < (f : Int) := by omega
        have h6' := Lib.hid h6
        have hM' := Lib.hid hM
        have hok' := Lib.hid hok
        have hCr' := Lib.hid hCr
        have hC0' := Lib.hid hC0
        have hs0' := Lib.hid hs0
        have hM0' := Lib.hid hM0
        have h60' := Lib.hid h60
        have hlook' := Lib.hid hlook
        have hsnoc' := Lib.hid hsnoc
        have hx' := Lib.hid hx
        have hf' := Lib.hid hf
        have hN' := Lib.hid hN
        have hmem' := Lib.hid hmem
        clear hmem hN hf hx hsnoc hlook h60 hM0 hs0 hC0 hCr hok hM h6
        go_wp2_with fail
        go_ret
        exact ⟨rfl, hCr'.out.trans hC0'.out⟩
      · have hbigI : ¬ (1000 : Int) < (f : Int) := by omega
        by_cases hmuch : (1099511627776 : Int) < N
        · have hmuch2 := hmuch
          have h6' := Lib.hid h6
          have hM' := Lib.hid hM
          have hok' := Lib.hid hok
          have hCr' := Lib.hid hCr
          have hC0' := Lib.hid hC0
          have hs0' := Lib.hid hs0
          have hM0' := Lib.hid hM0
          have h60' := Lib.hid h60
          have hlook' := Lib.hid hlook
          have hsnoc' := Lib.hid hsnoc
          have hx' := Lib.hid hx
          have hf' := Lib.hid hf
          have hN' := Lib.hid hN
          have hmem' := Lib.hid hmem
          clear hmem hN hf hx hsnoc hlook h60 hM0 hs0 hC0 hCr hok hM h6
          go_wp2_with fail
          go_ret
          exact ⟨rfl, hCr'.out.trans hC0'.out⟩
        · have hok2 : ∀ x, x ∈ l.take (j + 1) → x.1 ≤ 1000 ∧ x.2 ≤ 1099511627776 := fun x hxm => by
            rw [hsnoc] at hxm
            rcases List.mem_append.1 hxm with h0 | h0
            · exact hok x h0
            · simp at h0
              subst h0
              exact ⟨by omega, by omega⟩
          have hbnd := hasOf_le (l := l.take j) (fun x hx => (hok x hx).2) j (by simp; omega) f
          rw [List.take_take, Nat.min_self] at hbnd
          have hb2 : j * 1099511627776 ≤ 100 * 1099511627776 := Nat.mul_le_mul_right _ (by omega)
          obtain ⟨B, hB⟩ : ∃ B, (hasOf (l.take j) f).isSome = B := ⟨_, rfl⟩
          obtain ⟨p, hp⟩ : ∃ p, (hasOf (l.take j) f).getD 0 = p := ⟨_, rfl⟩
          rw [hB, hp] at hlook
          rw [hp] at hbnd
          have hp47 : p ≤ 109951162777600 := by omega
          clear hbnd hb2
          have h6' := Lib.hid h6
          have hM' := Lib.hid hM
          have hok' := Lib.hid hok
          have hCr' := Lib.hid hCr
          have hC0' := Lib.hid hC0
          have hs0' := Lib.hid hs0
          have hM0' := Lib.hid hM0
          have h60' := Lib.hid h60
          have hsnoc' := Lib.hid hsnoc
          have hx' := Lib.hid hx
          have hf' := Lib.hid hf
          have hN' := Lib.hid hN
          have hmem' := Lib.hid hmem
          have hok2' := Lib.hid hok2
          have hB' := Lib.hid hB
          have hp' := Lib.hid hp
          clear hp hB hok2 hmem hN hf hx hsnoc h60 hM0 hs0 hC0 hCr hok hM h6
          go_upto_block 2 with fail
          clear hlook
          go_cut [] (fun wx => MapAt wx W.heap.size (hasOf (l.take (j + 1))) (j + 1) ∧ Ch [W.heap.size] W0 wx)
          case first =>
            rcases Int.lt_trichotomy N 0 with hN0 | hN0 | hN0
            · cases B with
              | true =>
                have hput := hasOf_put hsnoc'.out (v := 0) (by
                  obtain ⟨u, hu⟩ := Option.isSome_iff_exists.1 hB'.out
                  rw [hu]; simp [stepV, hN0])
                have hput' := Lib.hid hput
                clear hput
                go_wp2_with (at_mapUpdate; refine wpList_mapPut rfl _ _ _ rfl rfl hM0'.out (by omega) f 0 rfl (by omega) rfl (by omega) ?_; intro w5 hM5 hC5; have hM5' := Lib.hid hM5; have hC5' := Lib.hid hC5; clear hM5 hC5)
                go_meet
                exact ⟨by rw [hput'.out]; exact hM5'.out, hC5'.out⟩
              | false =>
                have hNn : ¬ (0 : Int) < N := by omega
                have hst := hasOf_still hsnoc'.out (by
                  have h0 := hB'.out
                  cases hh : hasOf (l.take j) f with
                  | none => simp [stepV, hN0]
                  | some u => rw [hh] at h0; simp at h0)
                have hst' := Lib.hid hst
                clear hst
                go_wp2_with fail
                go_meet
                exact ⟨by rw [hst'.out]; exact hM0'.out.more (Nat.le_succ _), Ch.refl _ _⟩
            · subst hN0
              have hst := hasOf_still hsnoc'.out (by simp [stepV])
              have hst' := Lib.hid hst
              clear hst
              cases B with
              | true =>
                go_wp2_with fail
                go_meet
                exact ⟨by rw [hst'.out]; exact hM0'.out.more (Nat.le_succ _), Ch.refl _ _⟩
              | false =>
                go_wp2_with fail
                go_meet
                exact ⟨by rw [hst'.out]; exact hM0'.out.more (Nat.le_succ _), Ch.refl _ _⟩
            · obtain ⟨M, rfl⟩ : ∃ M : Nat, N = (M : Int) := ⟨N.toNat, by omega⟩
              have hM0p : 0 < M := by omega
              have hNn : ¬ (M : Int) < 0 := by omega
              have hput := hasOf_put hsnoc'.out (v := p + M) (by rw [stepV_pos _ _ hM0p, hp'.out])
              have hlook := hM0'.out.look (g := f) (by omega)
              rw [hp'.out] at hlook
              have ws : IntKind.i64.wrap ((p : Int) + (M : Int)) = ((p + M : Nat) : Int) := (IntWalk.i64_in _ (by omega)).trans (by omega)
              have hqb : p + M < 9223372036854775808 := by omega
              obtain ⟨q, hq⟩ : ∃ q, p + M = q := ⟨_, rfl⟩
              rw [hq] at hput ws hqb
              have hput' := Lib.hid hput
              have hq' := Lib.hid hq
              clear hq hput
              cases B with
              | true =>
                go_wp2_with (at_mapUpdate; refine wpList_mapPut rfl _ _ _ rfl rfl hM0'.out (by omega) f q rfl (by omega) rfl hqb ?_; intro w5 hM5 hC5; have hM5' := Lib.hid hM5; have hC5' := Lib.hid hC5; clear hM5 hC5)
                go_meet
                exact ⟨by rw [hput'.out]; exact hM5'.out, hC5'.out⟩
              | false =>
                go_wp2_with (at_mapUpdate; refine wpList_mapPut rfl _ _ _ rfl rfl hM0'.out (by omega) f q rfl (by omega) rfl hqb ?_; intro w5 hM5 hC5; have hM5' := Lib.hid hM5; have hC5' := Lib.hid hC5; clear hM5 hC5)
                go_meet
                exact ⟨by rw [hput'.out]; exact hM5'.out, hC5'.out⟩
          case rest =>
          obtain ⟨hM5, hC5⟩ := hcut
          have hmlt := hM'.out.lt
          have hs5 := hs0'.out.ch hC5 (by simp; omega)
          have e0 := hs5.cell 0
          simp at e0
          have hlook := hM5.look (g := f) (by omega)
          have htold : toldOf l j = (hasOf (l.take (j + 1)) f).getD 0 := by
            unfold toldOf
            rw [show l.getD j (0, 0) = l[j] by simp [hjl], hf'.out]
          rw [← htold] at hlook
          obtain ⟨V, hV⟩ : ∃ V, toldOf l j = V := ⟨_, rfl⟩
          rw [hV] at hlook
          have hCW5 : Ch [] W wc := (hCr'.out.trans hC0'.out).trans' hC5 fun k hk => .inr (by simp at hk; omega)
          have h65 := own_ch h60'.out hC5 (fun g hg hm => by
            simp at hm
            subst hm
            exact hM0'.out.notin h60'.out (by simpa using hg))
          have h6A := World.ownsRow.alloc h65 (.cells #[.int .i64 (V : Int)] 2)
          have hMA := hM5.ch ((Ch.refl [] wc).alloc (.cells #[.int .i64 (V : Int)] 2)) (by simp)
          have hszA := hCW5.size
          clear htold
          have hM5' := Lib.hid hM5
          have hC5' := Lib.hid hC5
          have hs5' := Lib.hid hs5
          have hCW5' := Lib.hid hCW5
          have h65' := Lib.hid h65
          have h6A' := Lib.hid h6A
          have hMA' := Lib.hid hMA
          have hV' := Lib.hid hV
          clear hV hMA h6A h65 hCW5 hs5 hC5 hM5
          go_wp2_with (at_builtin; refine wpList_append1 rfl (.tmp 85) (.tmp 90) 24 rfl W.heap.size 2 1 Tryd.underlying24 (by kernel_rfl) (by omega) (.slice a6 j c6) j (toldCs l j) rfl h6A'.out wc.heap.size 1 [.int .i64 (V : Int)] rfl rfl (Bk.at_ _ _ _ _ (by simp)) (by intro u hu; simp at hu; subst hu; rfl) (by omega) (by simp; omega) ?_; intro A' c' w6 hown6 hc6 hat6; have hown6' := Lib.hid hown6; have hc6' := Lib.hid hc6; clear hown6 hc6 hat6)
          go_roundw
          case rel =>
            refine ⟨j + 1, by omega, by go_num, by rw [toldCs_succ, hV'.out]; exact hown6'.out, hMA'.out.ch hc6'.out (hMA'.out.notin h6A'.out), hok2'.out, (hCW5'.out.alloc _).trans' hc6'.out fun k hk => .inr ?_⟩
            exact (h6A'.out.lt k (by simpa using hk)).1
          case measure => simp [intOf]; omega
    · obtain rfl : j = n := by omega
      obtain ⟨a6, c6, rfl⟩ := own_form h6
      have ht : l.take j = l := by rw [← hn'.out]; exact List.take_length
      rw [ht] at hM hok
      have hg4 := (hCr.cell 0 hgl (by simp)).trans hg'.out
      have hvr := hv'.out.ch hCr
      have hdis := implDiscards_any k hk hk2 l hl''.out (fun x hx => (hok x hx).1) hlN'.out (fun x hx => (hok x hx).2) _ a wr (by rw [← hn'.out] at hvr; exact hvr) hg4
      rw [hn'.out] at hdis
      have h6' := Lib.hid h6
      have hM' := Lib.hid hM
      have hok' := Lib.hid hok
      have hCr' := Lib.hid hCr
      have hdis' := Lib.hid hdis
      have ht' := Lib.hid ht
      have hvr' := Lib.hid hvr
      clear hvr ht hdis hCr hok hM h6
      go_wp2_with fail
      refine hdis'.out.mono ?_
      rintro e w4 ⟨d, vt, va, rfl, ht4, ha4, hAsc, hlk, hfits, hC4⟩
      obtain ⟨at4, ct4, rfl⟩ := own_form ht4
      obtain ⟨aa4, ca4, rfl⟩ := own_form ha4
      rw [hn'.out] at ht4
      have h64 := own_ch h6'.out hC4 (fun g hg hm => by cases hm)
      have hM4 := hM'.out.ch hC4 (by simp)
      have hCW4 := hCr'.out.trans hC4
      obtain ⟨ks, hks1, hks2, hlen⟩ := hM4.len 3
      have hkd : ks.length = d.size := (keys_count hAsc hlk hks1 hks2).trans Array.length_toList
      have hbest := bestN_all hAsc hlk (m := 1001) (fun x hx => by
        have h0 : (hasOf l x.1).isSome = true := by rw [← hlk x.1, (lookup_mem hAsc (v := x.2)).2 hx]; rfl
        rcases Nat.lt_or_ge x.1 1001 with h1 | h1
        · exact h1
        · rw [hasOf_none (fun y hy => by have := (hok'.out y hy).1; omega)] at h0
          cases h0)
      have hbest2 : bestOf d.toList = bestN (fun g => (hasOf l g).getD 0) 1001 := hbest
      obtain ⟨m, hm⟩ : ∃ m, d.size = m := ⟨_, rfl⟩
      rw [hkd, hm] at hlen
      obtain ⟨bf, hbf⟩ : ∃ b, (bestOf d.toList).1 = b := ⟨_, rfl⟩
      obtain ⟨bv, hbv⟩ : ∃ b, (bestOf d.toList).2 = b := ⟨_, rfl⟩
      rw [hbf, hbv, hn'.out, hm]
      clear hbest
      have ht4' := Lib.hid ht4
      have ha4' := Lib.hid ha4
      have hAsc' := Lib.hid hAsc
      have hlk' := Lib.hid hlk
      have hfits' := Lib.hid hfits
      have hC4' := Lib.hid hC4
      have h64' := Lib.hid h64
      have hM4' := Lib.hid hM4
      have hCW4' := Lib.hid hCW4
      have hks1' := Lib.hid hks1
      have hks2' := Lib.hid hks2
      have hkd' := Lib.hid hkd
      have hbest2' := Lib.hid hbest2
      have hm' := Lib.hid hm
      have hbf' := Lib.hid hbf
      have hbv' := Lib.hid hbv
      clear hbv hbf hm hbest2 hkd hks2 hks1 hCW4 hM4 h64 hC4 hfits hlk hAsc ha4 ht4
      go_wp2_with fail
      go_loopw [15, 16, 115] (fun s15 s16 s115 wx => ∃ i : Nat, i ≤ j ∧ s115 = .int .i64 (i : Int) ∧ w4 = wx) (fun _ _ s115 _ => j - (intOf s115).toNat)
      case atStart => exact ⟨0, Nat.zero_le _, rfl, rfl⟩
      case round =>
        obtain ⟨i, hij, rfl, rfl⟩ := hrel
        by_cases hlt2 : i < j
        · have hltI : (i : Int) < (j : Int) := by omega
          have hi0 : (0 : Int) ≤ (i : Int) := by omega
          have hget : (toldCs l j)[i]? = some (.int .i64 ((toldOf l i : Nat) : Int)) := by simp [toldCs, hlt2]
          obtain ⟨g6, rfl, cg6⟩ := Reads.of_own h64'.out i _ hget
          obtain ⟨g4, rfl, cg4⟩ := Reads.of_own ht4'.out i _ hget
          obtain ⟨V, hV⟩ : ∃ V, toldOf l i = V := ⟨_, rfl⟩
          rw [hV] at cg6 cg4
          have w1 : IntKind.i64.wrap ((i : Int) + 1) = ((i + 1 : Nat) : Int) := (IntWalk.i64_in _ (by omega)).trans (by omega)
          clear hget hlen
          go_wp2_with fail
          go_roundw
          case rel => exact ⟨i + 1, by omega, by go_num, by simp⟩
          case measure => simp [intOf]; omega
        · obtain rfl : i = j := by omega
          clear hlen
          obtain ⟨hh, hhh⟩ : ∃ h : Nat → Nat, (fun g => (hasOf l g).getD 0) = h := ⟨_, rfl⟩
          have hbest3 := hbest2'.out
          rw [hhh] at hbest3
          have hhh' := Lib.hid hhh
          have hbest3' := Lib.hid hbest3
          clear hbest3 hhh
          go_wp2_with fail
          go_loopw [17, 18, 19] (fun s17 s18 s19 wx => ∃ f : Nat, f ≤ 1001 ∧ s19 = .int .u32 (f : Int) ∧ s17 = .int .u32 ((bestN hh f).1 : Int) ∧ s18 = .int .i64 ((bestN hh f).2 : Int) ∧ MapAt wx W.heap.size (hasOf l) i ∧ wx.ownsRow W.heap.size 33 2 (.slice aa4 m ca4) m (rowCs d.toList) ∧ Ch [] W wx) (fun _ _ s19 _ => 1001 - (intOf s19).toNat)
          case atStart => exact ⟨0, by omega, rfl, rfl, rfl, hM4'.out, by have h0 := own_mono ha4'.out hCr'.out.size; rw [hm'.out] at h0; exact h0, hCW4'.out⟩
          case round =>
            obtain ⟨f, hf, rfl, rfl, rfl, hMf, haf, hCf⟩ := hrel
            by_cases hf1 : f ≤ 1000
            · have hfI : (f : Int) ≤ 1000 := by omega
              have hlook := hMf.look (g := f) (by omega)
              have hlook2 := (hMf.ch ((Ch.refl [] wr).drew) (by simp)).look (g := f) (by omega)
              have hhf : (hasOf l f).getD 0 = hh f := by rw [← hhh'.out]
              rw [hhf] at hlook hlook2
              have wf : IntKind.u32.wrap ((f : Int) + 1) = ((f + 1 : Nat) : Int) := (IntWalk.u32_in _ (by omega)).trans (by omega)
              obtain ⟨x, hx⟩ : ∃ x, hh f = x := ⟨_, rfl⟩
              obtain ⟨⟨b1, b2⟩, hb⟩ : ∃ b, bestN hh f = b := ⟨_, rfl⟩
              have hstep : bestN hh (f + 1) = if b2 < x then (f, x) else (b1, b2) := by rw [bestN, hb, hx]
              rw [hx] at hlook hlook2
              rw [hb]
              clear hhf
              by_cases hlt3 : b2 < x
              · have hltI : (b2 : Int) < (x : Int) := by omega
                rw [if_pos hlt3] at hstep
                have hMf' := Lib.hid hMf
                have haf' := Lib.hid haf
                have hCf' := Lib.hid hCf
                have hx' := Lib.hid hx
                have hb' := Lib.hid hb
                have hstep' := Lib.hid hstep
                clear hstep hb hx hCf haf hMf
                go_wp2_with fail
                go_region
                all_goals
                  go_wp2_with fail
                  go_roundw
                  case rel => exact ⟨f + 1, by omega, by go_num, by rw [hstep'.out], by rw [hstep'.out], hMf'.out.ch ((Ch.refl [] wr).drew) (by simp), haf'.out, hCf'.out.drew⟩
                  case measure => simp [intOf]; omega
              · have hltI : ¬ (b2 : Int) < (x : Int) := by omega
                rw [if_neg hlt3] at hstep
                have hMf' := Lib.hid hMf
                have haf' := Lib.hid haf
                have hCf' := Lib.hid hCf
                have hx' := Lib.hid hx
                have hb' := Lib.hid hb
                have hstep' := Lib.hid hstep
                clear hstep hb hx hCf haf hMf
                go_wp2_with fail
                go_roundw
                case rel => exact ⟨f + 1, by omega, by go_num, by rw [hstep'.out], by rw [hstep'.out], hMf'.out, haf'.out, hCf'.out⟩
                case measure => simp [intOf]; omega
            · obtain rfl : f = 1001 := by omega
              rw [show ((1001 : Nat) : Int) = 1001 from rfl]
              have hbf1 := congrArg Prod.fst hbest3'.out
              have hbv1 := congrArg Prod.snd hbest3'.out
              rw [hbf'.out] at hbf1
              rw [hbv'.out] at hbv1
              rw [← hbf1, ← hbv1]
              have hMf' := Lib.hid hMf
              have haf' := Lib.hid haf
              have hCf' := Lib.hid hCf
              have hbf1' := Lib.hid hbf1
              have hbv1' := Lib.hid hbv1
              clear hbv1 hbf1 hCf haf hMf
              go_wp2_with fail
              go_loopw [20, 22, 23, 142] (fun s20 s22 s23 s142 wx => ∃ t : Nat, t ≤ m ∧ s142 = .int .i64 (t : Int) ∧ MapAt wx W.heap.size (hasOf l) i ∧ wx.ownsRow W.heap.size 33 2 (.slice aa4 m ca4) m (rowCs d.toList) ∧ Ch [] W wx) (fun _ _ _ s142 _ => m - (intOf s142).toNat)
              case atStart => exact ⟨0, Nat.zero_le _, rfl, hMf'.out, haf'.out, hCf'.out⟩
              case round =>
                obtain ⟨t, htm, rfl, hMt, hat, hCt⟩ := hrel
                have hm101 : m ≤ 9223372036854775807 := by
                  rcases hat.2 with ⟨h0, _⟩ | ⟨g, cap, cur, h0, _, _, h1, h2, _⟩
                  · injection h0 with _ h0
                    omega
                  · unfold maxLen at h2
                    omega
                by_cases hlt4 : t < m
                · have hltI : (t : Int) < (m : Int) := by omega
                  have ht0 : (0 : Int) ≤ (t : Int) := by omega
                  have htd : t < d.toList.length := by rw [Array.length_toList, hm'.out]; exact hlt4
                  obtain ⟨hr0, hr1⟩ := rowCs_get htd
                  obtain ⟨gt, rfl, _, cr0⟩ := own_cell hat hr0
                  obtain ⟨gt', hgt', _, cr1⟩ := own_cell hat hr1
                  obtain rfl : gt = gt' := by injection hgt' with h; injection h
                  have hgl3 := block_lt_of_cell cr0
                  have hmemt : d.toList[t] ∈ d.toList := List.getElem_mem _
                  have hlkt : hasOf l (d.toList[t]).1 = some (d.toList[t]).2 := by rw [← hlk'.out, (lookup_mem hAsc'.out)]; exact hmemt
                  have hx1000 : (d.toList[t]).1 ≤ 1000 := by
                    rcases Nat.lt_or_ge (d.toList[t]).1 1001 with h1 | h1
                    · omega
                    · rw [hasOf_none (fun y hy => by have := (hok'.out y hy).1; omega)] at hlkt
                      cases hlkt
                  have hfit := (hfits'.out t (by rw [hm'.out]; exact hlt4)).2
                  rw [bang_get d (by rw [hm'.out]; exact hlt4)] at hfit
                  have hprev : ∀ u, u + 1 = t → ∃ z, wr.cell? ⟨gt, u * 2, none⟩ = some (.int .u64 ((z : Nat) : Int)) ∧ z < (d.toList[t]).1 := fun u hu => by
                    obtain ⟨hp0, _⟩ := rowCs_get (l := d.toList) (t := u) (by omega)
                    obtain ⟨gu, hgu, _, cu0⟩ := own_cell hat hp0
                    obtain rfl : gt = gu := by injection hgu with h; injection h
                    exact ⟨_, cu0, asc_get hAsc'.out (by omega) htd⟩
                  obtain ⟨x, hx⟩ : ∃ x, (d.toList[t]).1 = x := ⟨_, rfl⟩
                  obtain ⟨y, hy⟩ : ∃ y, (d.toList[t]).2 = y := ⟨_, rfl⟩
                  rw [hx] at cr0 hlkt hx1000 hprev
                  rw [hy] at cr1 hlkt hfit
                  have u32x : IntKind.u32.wrap (x : Int) = (x : Int) := IntWalk.u32_in _ (by omega)
                  have u64y : IntKind.u64.wrap (y : Int) = (y : Int) := IntWalk.u64_in _ (by omega)
                  have w1 : IntKind.i64.wrap ((t : Int) + 1) = ((t + 1 : Nat) : Int) := (IntWalk.i64_in _ (by omega)).trans (by omega)
                  obtain ⟨W0, hW0⟩ : ∃ w, wr.alloc (.cells #[.int .u64 (x : Int), .int .u64 (y : Int)] 33) = w := ⟨_, rfl⟩
                  have hC0 : Ch [] wr W0 := by rw [← hW0]; exact (Ch.refl [] wr).alloc _
                  have hs0 : Bk W0 wr.heap.size 33 #[.int .u64 (x : Int), .int .u64 (y : Int)] := by rw [← hW0]; exact Bk.new _ _ _
                  have d0 := hs0.cell 0
                  have d1 := hs0.cell 1
                  simp at d0 d1
                  have hM0 := hMt.ch hC0 (by simp)
                  have hlook := hM0.look_ok (g := x) (by omega)
                  rw [hlkt, Option.getD_some, Option.isSome_some] at hlook
                  have hat0 := own_ch hat hC0 (fun g _ hm => by cases hm)
                  have hCt0 := hCt.trans hC0
                  have hprev0 : ∀ u, u + 1 = t → ∃ z, W0.cell? ⟨gt, u * 2, none⟩ = some (.int .u64 ((z : Nat) : Int)) ∧ z < x := fun u hu => by
                    obtain ⟨z, h1, h2⟩ := hprev u hu
                    exact ⟨z, (hC0.cell _ hgl3 (by simp)).trans h1, h2⟩
                  clear hr0 hr1 hgt' hprev
                  have hprev0' := hprev0
                  clear hprev0
                  have hMt' := Lib.hid hMt
                  have hat' := Lib.hid hat
                  have hCt' := Lib.hid hCt
                  have hC0' := Lib.hid hC0
                  have hs0' := Lib.hid hs0
                  have hM0' := Lib.hid hM0
                  have hat0' := Lib.hid hat0
                  have hCt0' := Lib.hid hCt0
                  have hlkt' := Lib.hid hlkt
                  have hx' := Lib.hid hx
                  have hy' := Lib.hid hy
                  have hmemt' := Lib.hid hmemt
                  clear hmemt hy hx hlkt hCt0 hat0 hM0 hs0 hC0 hCt hat hMt
                  by_cases ht1 : t = 0
                  · have htF : decide ((0 : Int) < (t : Int)) = false := decide_eq_false (by omega)
                    have htF2 : decide (0 < t) = false := decide_eq_false (by omega)
                    have ht1' := Lib.hid ht1
                    clear ht1
                    go_wp2_with fail
                    go_quiet (fail)
                    all_goals
                      go_wp2_with fail
                      go_roundw
                      case rel => exact ⟨t + 1, by omega, by go_num, hM0'.out.ch ((Ch.refl [] _).drewN _) (by simp), hat0'.out, hCt0'.out.drewN _⟩
                      case measure => simp [intOf]; omega
                  · have htI : (0 : Int) < (t : Int) := by omega
                    have htT : decide ((0 : Int) < (t : Int)) = true := decide_eq_true (by omega)
                    have htT2 : decide (0 < t) = true := decide_eq_true (by omega)
                    obtain ⟨u, hu⟩ : ∃ u, u + 1 = t := ⟨t - 1, by omega⟩
                    obtain ⟨z, cz, hzx⟩ := hprev0' u hu
                    have wu : IntKind.i64.wrap ((t : Int) - 1) = (u : Int) := (IntWalk.i64_in _ (by omega)).trans (by omega)
                    have hu0 : (0 : Int) ≤ (u : Int) := by omega
                    have hum : (u : Int) < (m : Int) := by omega
                    have hzI : ¬ (x : Int) ≤ (z : Int) := by omega
                    have ht1' := Lib.hid ht1
                    have hu' := Lib.hid hu
                    clear hu ht1
                    go_wp2_with fail
                    go_quiet (fail)
                    all_goals
                      go_wp2_with fail
                      go_roundw
                      case rel => exact ⟨t + 1, by omega, by go_num, hM0'.out.ch ((Ch.refl [] _).drewN _) (by simp), hat0'.out, hCt0'.out.drewN _⟩
                      case measure => simp [intOf]; omega
                · obtain rfl : t = m := by omega
                  obtain ⟨W8, hW8⟩ : ∃ w, wr.alloc (.cells #[.int .u32 1, .int .i64 5] 27) = w := ⟨_, rfl⟩
                  have hC8 : Ch [] wr W8 := by rw [← hW8]; exact (Ch.refl [] wr).alloc _
                  have hs8 : Bk W8 wr.heap.size 27 #[.int .u32 1, .int .i64 5] := by rw [← hW8]; exact Bk.new _ _ _
                  have hg8 := ((hCt.trans hC8).cell 0 hgl (by simp)).trans hg'.out
                  have hdis2 := implDiscards_any 4 (by omega) (by omega) [(1, 5)] (by simp) (by simp) (by simp) (by simp) (.slice (some ⟨wr.heap.size, 0, none⟩) 1 1) a W8
                    ⟨⟨_, _, rfl⟩, fun j hj => by
                      have hj0 : j = 0 := by simp at hj; exact hj
                      subst hj0
                      exact ⟨wr.heap.size, 0, 1, rfl, hs8.lt, hs8.cell 0, hs8.cell 1⟩⟩ hg8
                  rw [show ((4 : Nat) : Int) = 4 from rfl] at hdis2
                  have hMt' := Lib.hid hMt
                  have hat' := Lib.hid hat
                  have hCt' := Lib.hid hCt
                  have hC8' := Lib.hid hC8
                  have hs8' := Lib.hid hs8
                  have hdis2' := Lib.hid hdis2
                  clear hdis2 hs8 hC8 hCt hat hMt
                  go_wp2_with fail
                  refine hdis2'.out.mono ?_
                  rintro e w9 ⟨d9, vt9, va9, rfl, ht9, ha9, _, _, _, hC9⟩
                  obtain ⟨at9, ct9, rfl⟩ := own_form ht9
                  obtain ⟨aa9, ca9, rfl⟩ := own_form ha9
                  obtain ⟨g9, rfl, _, c9⟩ := own_cell (o := 0) ht9 (x := .int .i64 5) rfl
                  have hl1 : [((1 : Nat), (5 : Int))].length = 1 := rfl
                  rw [hl1]
                  have ht9' := Lib.hid ht9
                  have ha9' := Lib.hid ha9
                  have hC9' := Lib.hid hC9
                  clear hC9 ha9 ht9
                  go_wp2_with fail
                  go_ret
                  exact ⟨rfl, (hCt'.out.trans hC8'.out).trans hC9'.out⟩
end Go.Proofs.YtjioghedokbgcaaDoor
