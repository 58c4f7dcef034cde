/-
  laws.FnManifestRead: the walk.
-/
import Derived.Test.YtkjgkjmaoebeoaaDoorMcs
import Derived.Test.YtkjgkjmaoebeoaaDoorMis
import Derived.Test.YtkjgkjmaoebeoaaDoorMct
import Derived.Test.YtkjgkjmaoebeoaaDoorMlx
namespace Go.Proofs.YtkjgkjmaoebeoaaDoor
open Go Go.RowKit
open Go.Proofs


set_option maxHeartbeats 8000000 in
set_option maxRecDepth 20000 in
theorem fnManifestRead_main (Ls : List (List RC)) (v : Value) (m : Nat) (a : Int) (w : World) (hv : SetsR w.heap.size w v Ls) (hl : Ls.length ≤ 9223372036854775807) (hid : ∀ L, L ∈ Ls → ∀ x, x ∈ L → x.id < 18446744073709551616) (hm : m < 65536) (hgs : Gs w.heap.size w) :
    Calls Tryd.prog 3 #[v, .int .u16 (m : Int), .int .i64 a] w fun e w' => e = .returned (.bool true) ∧ Ch [] w w' := by
  have hzz := zzFits9_any w.heap.size Ls v w hv hl
  obtain ⟨A, c, rfl⟩ := hv.form
  obtain ⟨n, hn⟩ : ∃ n, Ls.length = n := ⟨_, rfl⟩
  rw [hn] at hv hzz hl
  rw [hn]
  have hmm := @run_makeMap Tryd.prog
  have hv' := Lib.hid hv
  have hn' := Lib.hid hn
  have hid' := Lib.hid hid
  have hgs' := Lib.hid hgs
  have hzz' := Lib.hid hzz
  clear hzz hgs hid hn hv
  go_enter Tryd.func3, Tryd.ntmps3
  go_wp2_with fail
  refine hzz'.out.mono ?_
  rintro e w ⟨⟨hfit, rfl⟩ | rfl, rfl⟩
  case inr =>
    go_wp2_with fail
    go_ret
    exact ⟨rfl, Ch.refl _ _⟩
  have hfit' := Lib.hid hfit
  clear hfit
  go_wp2_with fail
  refine (manifestHead_any m hm _).mono ?_
  rintro e w2 ⟨rfl, hb2⟩
  have hC2 : Ch [] w w2 := Ch.of_below hb2
  have hlc := lChanges_any w.heap.size Ls (.slice A n c) w2 (hv'.out.ch hC2 (by simp)) hC2.size hfit'.out hid'.out
  have hb2' := Lib.hid hb2
  have hC2' := Lib.hid hC2
  have hlc' := Lib.hid hlc
  clear hlc hC2 hb2
  go_wp2_with fail
  refine hlc'.out.mono ?_
  rintro e w3 ⟨⟨hoks, rfl⟩ | rfl, hC3⟩
  case inr =>
    have hC3' := Lib.hid hC3
    clear hC3
    go_wp2_with fail
    go_ret
    exact ⟨rfl, hC2'.out.trans hC3'.out⟩
  have hhl : (headB m).length = 8 := headB_length m
  have hhs := mksize (headB m)
  rw [hhl] at hhs
  by_cases ha : a < 8
  ·
    have hC3' := Lib.hid hC3
    have hoks' := Lib.hid hoks
    clear hoks hC3
    go_wp2_with fail
    go_ret
    exact ⟨rfl, hC2'.out.trans hC3'.out⟩
  obtain ⟨t, rfl⟩ : ∃ t : Nat, a = (t : Int) := ⟨a.toNat, by omega⟩
  have hn20 : n ≤ 20 := by rw [← hn'.out]; exact hoks.len
  have hC3' := Lib.hid hC3
  have hoks' := Lib.hid hoks
  clear hoks hC3
  go_wp2_with fail
  obtain ⟨W0, hW0⟩ : ∃ W, (w3.alloc (.map #[] 0)).alloc (.cells #[.map (some w3.heap.size), .int .i64 0, .int .i64 0] 29) = W := ⟨_, rfl⟩
  have hC3w : Ch [] w w3 := hC2'.out.trans hC3'.out
  have hC0 : Ch [] w W0 := by rw [← hW0]; exact (hC3w.alloc _).alloc _
  have hb0 : BookAt (w3.heap.size + 1) w3.heap.size 1001 (10 * 0) (bok0.run ((chgs Ls).take 0).flatten) W0 := by
    rw [← hW0]
    exact ⟨Bk.at_ _ _ _ _ (by simp), ((LevAt.made w3).ch ((Ch.refl [] _).alloc _) (by simp)).more (by omega), Nat.le_refl _⟩
  try rw [hW0]
  have hsz3 := hC3w.size
  have hclen : (chgs Ls).length = n := by rw [← hn'.out]; simp [chgs]
  obtain ⟨Cs, hCs⟩ : ∃ C, chgs Ls = C := ⟨_, rfl⟩
  have hcap : ∀ j, (setsB (Cs.take j)).length ≤ 448 * j := fun j => by rw [← hCs]; exact sets_le hoks'.out j
  rw [hCs] at hb0 hclen
  clear hW0 hhs
  have hC0' := Lib.hid hC0
  have hb0' := Lib.hid hb0
  have hC3w' := Lib.hid hC3w
  have hCs' := Lib.hid hCs
  have hcap' := Lib.hid hcap
  have hclen' := Lib.hid hclen
  clear hclen hcap hCs hC3w hb0 hC0
  go_loopw [7, 9, 11, 36] (fun s7 s9 s11 s36 wx => ∃ j q : Nat, j ≤ n ∧ q ≤ j ∧ s36 = .int .i64 (j : Int) ∧ s7 = .string ⟨(headB m ++ setsB (Cs.take j)).toArray⟩ ∧ s9 = .int .i64 ((8 + (setsB (Cs.take q)).length : Nat) : Int) ∧ 8 + (setsB (Cs.take q)).length ≤ t ∧ (q < j → t < 8 + (setsB (Cs.take (q + 1))).length) ∧
      BookAt (w3.heap.size + 1) w3.heap.size 1001 (10 * q) (bok0.run (Cs.take q).flatten) wx ∧ Ch [] w wx) (fun _ _ _ s36 _ => n - (intOf s36).toNat)
  case atStart => exact ⟨0, 0, Nat.zero_le _, Nat.le_refl _, rfl, by simp [setsB], by simp [setsB], by simp [setsB]; omega, fun h => absurd h (by omega), hb0'.out, hC0'.out⟩
  case round =>
    obtain ⟨j, q, hj, hqj, rfl, rfl, rfl, hqt, hqn, hbr, hCr⟩ := hrel
    by_cases hlt : j < n
    · have hltI : (j : Int) < (n : Int) := by omega
      have hj0 : (0 : Int) ≤ (j : Int) := by omega
      have hjl : j < Ls.length := by rw [hn'.out]; exact hlt
      obtain ⟨g, o, c2, u, he, hgB, hgl, c0, hu⟩ := (hv'.out.ch hCr (by simp)).at_ j (by rw [hn'.out]; exact hlt)
      obtain rfl : A = some ⟨g, o, none⟩ := by injection he
      clear he
      obtain ⟨Au, cu, rfl⟩ := hu.form
      obtain ⟨he1, he2, he3⟩ := hoks'.out.each _ (List.getElem_mem hjl)
      have hoj := hoks'.out.oks j hjl
      have hnx := chgs_at hjl
      rw [← chgs_len, hCs'.out] at hoj
      rw [hCs'.out] at hnx
      obtain ⟨L, hL⟩ : ∃ L, Ls[j] = L := ⟨_, rfl⟩
      have hidL := hid'.out _ (List.getElem_mem hjl)
      rw [hL] at c0 hu he1 he2 he3 hoj hnx hidL
      have hcs := changeSet_any w.heap.size L _ wr hu he2 he3
      obtain ⟨k, hk⟩ : ∃ k, L.length = k := ⟨_, rfl⟩
      rw [hk] at c0 hu hcs
      obtain ⟨X, hX⟩ : ∃ X, setB (L.map RC.chg) = X := ⟨_, rfl⟩
      rw [hX] at hcs
      obtain ⟨H, hH⟩ : ∃ H, headB m ++ setsB (Cs.take j) = H := ⟨_, rfl⟩
      have hHX : headB m ++ setsB (Cs.take (j + 1)) = H ++ X := by rw [hnx, ← hH, ← hX]; simp [setsB]
      have hHl : H.length = 8 + (setsB (Cs.take j)).length := by rw [← hH, List.length_append, hhl]
      have hHXl : (H ++ X).length = 8 + (setsB (Cs.take (j + 1))).length := by rw [← hHX, List.length_append, hhl]
      have hcj := hcap'.out (j + 1)
      have hzH := mksize H
      have hzX := mksize X
      have hcat := mkcat H X
      have hsum : ¬ 9223372036854775807 < H.length + X.length := by rw [← List.length_append]; omega
      obtain ⟨E, hE⟩ : ∃ E, (H ++ X).length = E := ⟨_, rfl⟩
      have hEe : H.length + X.length = E := by rw [← hE, List.length_append]
      have hzE := mksize (H ++ X)
      rw [hE] at hzE
      have w1 : IntKind.i64.wrap ((j : Int) + 1) = ((j + 1 : Nat) : Int) := (IntWalk.i64_in _ (by omega)).trans (by omega)
      rw [hH]
      by_cases hin : E ≤ t
      · have hinI : (E : Int) ≤ (t : Int) := by omega
        have hu' := Lib.hid hu
        have hoj' := Lib.hid hoj
        have hnx' := Lib.hid hnx
        have hL' := Lib.hid hL
        have hcs' := Lib.hid hcs
        have hk' := Lib.hid hk
        have hX' := Lib.hid hX
        have hH' := Lib.hid hH
        have hHX' := Lib.hid hHX
        have hHl' := Lib.hid hHl
        have hHXl' := Lib.hid hHXl
        have hE' := Lib.hid hE
        have hbr' := Lib.hid hbr
        have hCr' := Lib.hid hCr
        have he3' := Lib.hid he3
        have hidL' := Lib.hid hidL
        clear hidL he3 hCr hbr hE hHXl hHl hHX hH hX hk hcs hL hnx hoj hu
        go_wp2_with fail
        refine hcs'.out.mono ?_
        rintro e w5 ⟨rfl, hC5⟩
        have hqe : q = j := by
          rcases Nat.lt_or_eq_of_le hqj with h | h
          · have h1 := hqn h
            have h2 := setsB_mono Cs (show q + 1 ≤ j + 1 by omega)
            have h3 := hHXl'.out
            have h4 := hE'.out
            omega
          · exact h
        subst hqe
        have hC05 := hCr'.out.trans hC5
        have hcall := bookChange_any w.heap.size (w3.heap.size + 1) w3.heap.size 1001 (10 * q) (bok0.run (Cs.take q).flatten) L (.slice Au k cu) w5 (hu'.out.ch hC5 (by simp)) (hbr'.out.ch hC5 (by simp) (by simp)) (by omega) hsz3 (by have := hk'.out; omega) (by omega) (by omega) hidL'.out (fun x hx => (he3'.out x hx).2.2)
        rw [hk'.out] at hcall
        have hC5' := Lib.hid hC5
        have hC05' := Lib.hid hC05
        have hcall' := Lib.hid hcall
        clear hcall hC05 hC5
        go_wp2_with fail
        refine hcall'.out.mono ?_
        rintro e w6 ⟨⟨ho, rfl, hb6⟩ | ⟨ho, rfl⟩, hC6⟩
        case inr => exact absurd hoj'.out ho
        have hC06 : Ch [] w w6 := hC05'.out.trans' hC6 (fun k hk => .inr (by simp at hk; omega))
        have hfl : (Cs.take (q + 1)).flatten = (Cs.take q).flatten ++ L.map RC.chg := by rw [hnx'.out]; simp
        have hb7 : BookAt (w3.heap.size + 1) w3.heap.size 1001 (10 * (q + 1)) (bok0.run (Cs.take (q + 1)).flatten) w6 := by
          rw [hfl, run_append]
          refine ⟨hb6.bk, hb6.mp.tight (m := 1001) (fun g hg => ?_), Nat.le_trans hb6.few (by have := hk'.out; omega)⟩
          have h0 := hoks'.out.each
          refine run_has (m := 1001) (fun g hg => ?_) _ (fun x hx => ?_) g hg
          · refine run_has (m := 1001) (b := bok0) (fun g hg => by cases hg) _ (fun x hx => ?_) g hg
            obtain ⟨M, hM, hxM⟩ := List.mem_flatten.1 hx
            have hM' := List.mem_of_mem_take hM
            rw [← hCs'.out] at hM'
            obtain ⟨M', hM2, rfl⟩ := List.mem_map.1 hM'
            obtain ⟨y, hy, rfl⟩ := List.mem_map.1 hxM
            exact Nat.lt_succ_of_le ((h0 M' hM2).2.2 y hy).2.1
          · obtain ⟨y, hy, rfl⟩ := List.mem_map.1 hx
            exact Nat.lt_succ_of_le (he3'.out y hy).2.1
        have ho' := Lib.hid ho
        have hb6' := Lib.hid hb6
        have hC6' := Lib.hid hC6
        have hC06' := Lib.hid hC06
        have hb7' := Lib.hid hb7
        have hfl' := Lib.hid hfl
        clear hfl hb7 hC06 hC6 hb6 ho
        go_wp2_with fail
        go_roundw
        case rel =>
          refine ⟨q + 1, q + 1, by omega, Nat.le_refl _, by go_num, ?_, ?_, ?_, fun h => absurd h (by omega), hb7'.out, hC06'.out⟩
          · rw [hHX'.out]
          · have h3 := hHXl'.out
            have h4 := hE'.out
            rw [← h3, h4]
          · have h3 := hHXl'.out
            have h4 := hE'.out
            omega
        case measure => simp [intOf]; omega
      · have hinI : ¬ (E : Int) ≤ (t : Int) := by omega
        have hu' := Lib.hid hu
        have hoj' := Lib.hid hoj
        have hnx' := Lib.hid hnx
        have hL' := Lib.hid hL
        have hcs' := Lib.hid hcs
        have hk' := Lib.hid hk
        have hX' := Lib.hid hX
        have hH' := Lib.hid hH
        have hHX' := Lib.hid hHX
        have hHl' := Lib.hid hHl
        have hHXl' := Lib.hid hHXl
        have hE' := Lib.hid hE
        have hbr' := Lib.hid hbr
        have hCr' := Lib.hid hCr
        have he3' := Lib.hid he3
        have hidL' := Lib.hid hidL
        clear hidL he3 hCr hbr hE hHXl hHl hHX hH hX hk hcs hL hnx hoj hu
        go_wp2_with fail
        refine hcs'.out.mono ?_
        rintro e w5 ⟨rfl, hC5⟩
        have hC05 := hCr'.out.trans hC5
        have hC5' := Lib.hid hC5
        have hC05' := Lib.hid hC05
        clear hC05 hC5
        go_wp2_with fail
        go_roundw
        case rel =>
          refine ⟨j + 1, q, by omega, by omega, by go_num, ?_, by first | rfl | simp, hqt, fun h => ?_, hbr'.out.ch hC5'.out (by simp) (by simp), hC05'.out⟩
          · rw [hHX'.out]
          · rcases Nat.lt_or_eq_of_le hqj with h1 | h1
            · exact hqn h1
            · subst h1
              have h3 := hHXl'.out
              have h4 := hE'.out
              omega
        case measure => simp [intOf]; omega
    · obtain rfl : j = n := by omega
      have htk : Cs.take j = Cs := List.take_of_length_le (by have := hclen'.out; omega)
      rw [htk]
      obtain ⟨T, hT⟩ : ∃ T, headB m ++ setsB Cs = T := ⟨_, rfl⟩
      have hTl : T.length = 8 + (setsB Cs).length := by rw [← hT, List.length_append, hhl]
      have hcT := hcap'.out j
      rw [htk] at hcT
      have hzT := mksize T
      obtain ⟨E, hE⟩ : ∃ E, T.length = E := ⟨_, rfl⟩
      rw [hE] at hzT
      rw [hT]
      by_cases hout : E < t
      · have houtI : (E : Int) < (t : Int) := by omega
        have hbr' := Lib.hid hbr
        have hCr' := Lib.hid hCr
        have hT' := Lib.hid hT
        have hTl' := Lib.hid hTl
        have hE' := Lib.hid hE
        clear hE hTl hT hCr hbr
        go_wp2_with fail
        go_ret
        exact ⟨rfl, hCr'.out⟩
      · have houtI : ¬ (E : Int) < (t : Int) := by omega
        obtain ⟨rest, hr1, hr2, hr3, hr4⟩ := cut_at (Cs := Cs) m (q := q) (t := t) hqt (fun h => hqn (by have := hclen'.out; omega))
        rw [hT] at hr1 hr2
        obtain ⟨en, hen⟩ : ∃ e, 8 + (setsB (Cs.take q)).length = e := ⟨_, rfl⟩
        rw [hen] at hr2 hqt ⊢
        have hx1 : (ByteArray.mk T.toArray).extract 0 t = ⟨(T.take t).toArray⟩ := by rw [extract_mk]; simp
        have hx2 : (ByteArray.mk T.toArray).extract en t = ⟨rest.toArray⟩ := by rw [extract_mk, hr2]
        have hrl : rest.length = t - en := by rw [← hr2, List.length_drop, List.length_take]; have := hE; omega
        have htl : (T.take t).length = t := by rw [List.length_take]; have := hE; omega
        have ht6 : t ≤ 1000000 := by have := hE; omega
        obtain ⟨mg, hmg⟩ : ∃ g, (m + 1) % 65536 = g := ⟨_, rfl⟩
        have wmg : IntKind.u16.wrap ((m : Int) + 1) = ((mg : Nat) : Int) := by rw [IntKind.wrap_u16]; omega
        have hmne : m ≠ mg := by omega
        have htl' := Lib.hid htl
        clear htl
        clear hmg
        have hrz := mksize rest
        obtain ⟨R, hR⟩ : ∃ R, rest.length = R := ⟨_, rfl⟩
        rw [hR] at hrz
        have hb32 : ∀ L, L ∈ Cs → (bodyB L).length < 4294967296 := fun M hM => by
          rw [← hCs'.out] at hM
          obtain ⟨M', hM', rfl⟩ := List.mem_map.1 hM
          obtain ⟨k1, k2, k3⟩ := hoks'.out.each M' hM'
          have h0 := bodyB_le (l := M'.map RC.chg) (fun c hc => by
            obtain ⟨x, hx, rfl⟩ := List.mem_map.1 hc
            obtain ⟨q1, q2, q3, q4⟩ := k3 x hx
            exact ⟨by show x.id < _; omega, by show x.lev.toNat < _; omega⟩)
          simp at h0
          omega
        by_cases h4 : 4 ≤ R
        · have h4I : (4 : Int) ≤ (R : Int) := by omega
          have hlong := fun W => long_any (rest.take 4) (rest.drop 4) (by rw [List.length_take]; omega) W
          simp only [List.take_append_drop] at hlong
          obtain ⟨K, hK⟩ : ∃ K, Lib.beNat (rest.take 4) = K := ⟨_, rfl⟩
          rw [hK] at hlong
          have hr3b := hr3
          have hr4b := hr4
          by_cases hKt : K ≤ t
          · have hKI : ¬ (t : Int) < (K : Int) := by omega
            have hcut : CutT rest t := cut_tail hr3b hr4b (by have := hclen'.out; omega) hb32 (.inr (by rw [hK]; exact hKt))
            have hbr' := Lib.hid hbr
            have hCr' := Lib.hid hCr
            have hT' := Lib.hid hT
            have hTl' := Lib.hid hTl
            have hE' := Lib.hid hE
            have hr1' := Lib.hid hr1
            have hr2' := Lib.hid hr2
            have hr3' := Lib.hid hr3
            have hr4' := Lib.hid hr4
            have hen' := Lib.hid hen
            have hlong' := Lib.hid hlong
            have hK' := Lib.hid hK
            have hcut' := Lib.hid hcut
            clear hcut hK hlong hen hr4 hr3 hr2 hr1 hE hTl hT hCr hbr
            clear hr3b hr4b
            go_wp2_with fail
            refine (hlong'.out _).mono ?_
            rintro e w5 ⟨rfl, hC5⟩
            have hC5w : Ch [] w w5 := hCr'.out.trans hC5
            have hC5' := Lib.hid hC5
            have hC5w' := Lib.hid hC5w
            clear hC5w hC5
            have hsame := read_same hoks'.out hCs'.out m q t (T.take t) rest w w5 hgs'.out hC5w'.out hm hr1'.out htl'.out ht6 hcut'.out
            rw [hen'.out] at hsame
            have hsame' := Lib.hid hsame
            clear hsame
            go_wp2_with fail
            refine hsame'.out.mono ?_
            rintro e w6 ⟨⟨A1, c1, A2, c2, ls, rfl, ho1, ho2, hso, hmm2⟩, hC6⟩
            have hC06 : Ch [] w w6 := (hC5w'.out).trans hC6
            have hCr6 : Ch [] wr w6 := (hC5'.out).trans hC6
            have ho1' := Lib.hid ho1
            have ho2' := Lib.hid ho2
            have hso' := Lib.hid hso
            have hmm2' := Lib.hid hmm2
            have hC6' := Lib.hid hC6
            have hC06' := Lib.hid hC06
            have hCr6' := Lib.hid hCr6
            clear hCr6 hC06 hC6 hmm2 hso ho2 ho1
            go_wp2_with fail
            obtain ⟨bb, hbb⟩ : ∃ b, bok0.run (Cs.take q).flatten = b := ⟨_, rfl⟩
            obtain ⟨l, hl⟩ : ∃ n, ls.length = n := ⟨_, rfl⟩
            rw [hbb, hl]
            obtain ⟨W7, hW7⟩ : ∃ W, w6.alloc (.cells #[.slice A1 l c1, .slice A2 l c2, .int .i64 (bb.made : Int), .int .i64 (bb.dropped : Int), .int .i64 (en : Int)] 37) = W := ⟨_, rfl⟩
            have hC67 : Ch [] w6 W7 := by rw [← hW7]; exact (Ch.refl [] w6).alloc _
            have hM7 : Bk W7 w6.heap.size 37 #[.slice A1 l c1, .slice A2 l c2, .int .i64 (bb.made : Int), .int .i64 (bb.dropped : Int), .int .i64 (en : Int)] := by rw [← hW7]; exact Bk.new _ _ _
            have hoth := read_other m mg t (T.take t) _ w W7 hgs'.out (hC06'.out.trans hC67) hm hmne hr1'.out htl'.out ht6
            rw [hW7]
            refine hoth.mono ?_
            rintro e w8 ⟨hno, hC8⟩
            unfold RmNo at hno
            subst hno
            have hC68 : Ch [] w6 w8 := hC67.trans hC8
            obtain ⟨W9, hW9⟩ : ∃ W, w8.alloc (.cells #[.slice none 0 0, .slice none 0 0, .int .i64 0, .int .i64 0, .int .i64 0] 37) = W := ⟨_, rfl⟩
            have hC69 : Ch [] w6 W9 := by rw [← hW9]; exact hC68.alloc _
            have hM9 : Bk W9 w6.heap.size 37 #[.slice A1 l c1, .slice A2 l c2, .int .i64 (bb.made : Int), .int .i64 (bb.dropped : Int), .int .i64 (en : Int)] := by rw [← hW9]; exact (hM7.ch hC8 (by simp)).alloc _
            have hB9 := hbr'.out.ch (hCr6'.out.trans hC69) (by simp) (by simp)
            have ho1b := own_ch ho1'.out hC69 (fun _ _ hm => by cases hm)
            have ho2b := own_ch ho2'.out hC69 (fun _ _ hm => by cases hm)
            have hlim : ∀ g v, bb.f g = some v → g < 1000000 ∧ v ≤ 6 := by rw [← hbb, ← hCs'.out]; exact lims hoks'.out q
            have hmm3 := hmm2'.out
            rw [hbb] at hB9 ho2b hmm3
            have hcall := bookIs_any _ (w3.heap.size + 1) w3.heap.size 1001 (10 * q) bb ls A1 A2 c1 c2 en W9 hB9 ho1b ho2b hso'.out hmm3 hlim
            rw [hl] at hcall
            have d0 := hM9.cell 0
            have d1 := hM9.cell 1
            have d2 := hM9.cell 2
            have d3 := hM9.cell 3
            have d4 := hM9.cell 4
            simp at d0 d1 d2 d3 d4
            rw [← hW9] at d0 d1 d2 d3 d4
            have hcall' := Lib.hid hcall
            have hB9' := Lib.hid hB9
            have ho1b' := Lib.hid ho1b
            have ho2b' := Lib.hid ho2b
            have hlim' := Lib.hid hlim
            have hmm3' := Lib.hid hmm3
            have hM9' := Lib.hid hM9
            have hC69' := Lib.hid hC69
            have hC68' := Lib.hid hC68
            have hoth' := Lib.hid hoth
            have hM7' := Lib.hid hM7
            have hC67' := Lib.hid hC67
            have hW7' := Lib.hid hW7
            have hC8' := Lib.hid hC8
            have hW9' := Lib.hid hW9
            clear hW9 hC8 hW7 hC67 hM7 hoth hC68 hC69 hM9 hmm3 hlim ho2b ho1b hB9 hcall
            go_wp2_with fail
            rw [hW9'.out]
            refine hcall'.out.mono ?_
            rintro e w10 ⟨rfl, hC10⟩
            have hM10 := hM9'.out.ch hC10 (by simp)
            have d4 := hM10.cell 4
            simp at d4
            have hC10' := Lib.hid hC10
            have hM10' := Lib.hid hM10
            clear hM10 hC10
            go_wp2_with fail
            go_ret
            exact ⟨rfl, hC06'.out.trans (hC69'.out.trans hC10'.out)⟩
          · have hKI : (t : Int) < (K : Int) := by omega
            have hbr' := Lib.hid hbr
            have hCr' := Lib.hid hCr
            have hT' := Lib.hid hT
            have hTl' := Lib.hid hTl
            have hE' := Lib.hid hE
            have hr1' := Lib.hid hr1
            have hr2' := Lib.hid hr2
            have hr3' := Lib.hid hr3
            have hr4' := Lib.hid hr4
            have hen' := Lib.hid hen
            have hlong' := Lib.hid hlong
            have hK' := Lib.hid hK
            clear hK hlong hen hr4 hr3 hr2 hr1 hE hTl hT hCr hbr
            clear hr3b hr4b
            go_wp2_with fail
            refine (hlong'.out _).mono ?_
            rintro e w5 ⟨rfl, hC5⟩
            have hC5' := Lib.hid hC5
            clear hC5
            go_wp2_with fail
            go_ret
            exact ⟨rfl, hCr'.out.trans hC5'.out⟩
        · have h4I : ¬ (4 : Int) ≤ (R : Int) := by omega
          have hcut : CutT rest t := .inl (by omega)
          have hbr' := Lib.hid hbr
          have hCr' := Lib.hid hCr
          have hT' := Lib.hid hT
          have hTl' := Lib.hid hTl
          have hE' := Lib.hid hE
          have hr1' := Lib.hid hr1
          have hr2' := Lib.hid hr2
          have hr3' := Lib.hid hr3
          have hr4' := Lib.hid hr4
          have hen' := Lib.hid hen
          have hcut' := Lib.hid hcut
          clear hcut hen hr4 hr3 hr2 hr1 hE hTl hT hCr hbr
          have hsame := read_same hoks'.out hCs'.out m q t (T.take t) rest w wr hgs'.out hCr'.out hm hr1'.out htl'.out ht6 hcut'.out
          rw [hen'.out] at hsame
          have hsame' := Lib.hid hsame
          clear hsame
          go_wp2_with fail
          refine hsame'.out.mono ?_
          rintro e w6 ⟨⟨A1, c1, A2, c2, ls, rfl, ho1, ho2, hso, hmm2⟩, hC6⟩
          have hC06 : Ch [] w w6 := (hCr'.out).trans hC6
          have hCr6 : Ch [] wr w6 := ((Ch.refl [] wr)).trans hC6
          have ho1' := Lib.hid ho1
          have ho2' := Lib.hid ho2
          have hso' := Lib.hid hso
          have hmm2' := Lib.hid hmm2
          have hC6' := Lib.hid hC6
          have hC06' := Lib.hid hC06
          have hCr6' := Lib.hid hCr6
          clear hCr6 hC06 hC6 hmm2 hso ho2 ho1
          go_wp2_with fail
          obtain ⟨bb, hbb⟩ : ∃ b, bok0.run (Cs.take q).flatten = b := ⟨_, rfl⟩
          obtain ⟨l, hl⟩ : ∃ n, ls.length = n := ⟨_, rfl⟩
          rw [hbb, hl]
          obtain ⟨W7, hW7⟩ : ∃ W, w6.alloc (.cells #[.slice A1 l c1, .slice A2 l c2, .int .i64 (bb.made : Int), .int .i64 (bb.dropped : Int), .int .i64 (en : Int)] 37) = W := ⟨_, rfl⟩
          have hC67 : Ch [] w6 W7 := by rw [← hW7]; exact (Ch.refl [] w6).alloc _
          have hM7 : Bk W7 w6.heap.size 37 #[.slice A1 l c1, .slice A2 l c2, .int .i64 (bb.made : Int), .int .i64 (bb.dropped : Int), .int .i64 (en : Int)] := by rw [← hW7]; exact Bk.new _ _ _
          have hoth := read_other m mg t (T.take t) _ w W7 hgs'.out (hC06'.out.trans hC67) hm hmne hr1'.out htl'.out ht6
          rw [hW7]
          refine hoth.mono ?_
          rintro e w8 ⟨hno, hC8⟩
          unfold RmNo at hno
          subst hno
          have hC68 : Ch [] w6 w8 := hC67.trans hC8
          obtain ⟨W9, hW9⟩ : ∃ W, w8.alloc (.cells #[.slice none 0 0, .slice none 0 0, .int .i64 0, .int .i64 0, .int .i64 0] 37) = W := ⟨_, rfl⟩
          have hC69 : Ch [] w6 W9 := by rw [← hW9]; exact hC68.alloc _
          have hM9 : Bk W9 w6.heap.size 37 #[.slice A1 l c1, .slice A2 l c2, .int .i64 (bb.made : Int), .int .i64 (bb.dropped : Int), .int .i64 (en : Int)] := by rw [← hW9]; exact (hM7.ch hC8 (by simp)).alloc _
          have hB9 := hbr'.out.ch (hCr6'.out.trans hC69) (by simp) (by simp)
          have ho1b := own_ch ho1'.out hC69 (fun _ _ hm => by cases hm)
          have ho2b := own_ch ho2'.out hC69 (fun _ _ hm => by cases hm)
          have hlim : ∀ g v, bb.f g = some v → g < 1000000 ∧ v ≤ 6 := by rw [← hbb, ← hCs'.out]; exact lims hoks'.out q
          have hmm3 := hmm2'.out
          rw [hbb] at hB9 ho2b hmm3
          have hcall := bookIs_any _ (w3.heap.size + 1) w3.heap.size 1001 (10 * q) bb ls A1 A2 c1 c2 en W9 hB9 ho1b ho2b hso'.out hmm3 hlim
          rw [hl] at hcall
          have d0 := hM9.cell 0
          have d1 := hM9.cell 1
          have d2 := hM9.cell 2
          have d3 := hM9.cell 3
          have d4 := hM9.cell 4
          simp at d0 d1 d2 d3 d4
          rw [← hW9] at d0 d1 d2 d3 d4
          have hcall' := Lib.hid hcall
          have hB9' := Lib.hid hB9
          have ho1b' := Lib.hid ho1b
          have ho2b' := Lib.hid ho2b
          have hlim' := Lib.hid hlim
          have hmm3' := Lib.hid hmm3
          have hM9' := Lib.hid hM9
          have hC69' := Lib.hid hC69
          have hC68' := Lib.hid hC68
          have hoth' := Lib.hid hoth
          have hM7' := Lib.hid hM7
          have hC67' := Lib.hid hC67
          have hW7' := Lib.hid hW7
          have hC8' := Lib.hid hC8
          have hW9' := Lib.hid hW9
          clear hW9 hC8 hW7 hC67 hM7 hoth hC68 hC69 hM9 hmm3 hlim ho2b ho1b hB9 hcall
          go_wp2_with fail
          rw [hW9'.out]
          refine hcall'.out.mono ?_
          rintro e w10 ⟨rfl, hC10⟩
          have hM10 := hM9'.out.ch hC10 (by simp)
          have d4 := hM10.cell 4
          simp at d4
          have hC10' := Lib.hid hC10
          have hM10' := Lib.hid hM10
          clear hM10 hC10
          go_wp2_with fail
          go_ret
          exact ⟨rfl, hC06'.out.trans (hC69'.out.trans hC10'.out)⟩
end Go.Proofs.YtkjgkjmaoebeoaaDoor
