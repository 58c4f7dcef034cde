/-
  laws.FnManifestTorn: the walk.
-/
import Derived.Test.YtkjgkjmaoebeoaaDoorMlx
import Derived.Test.YtkjgkjmaoebeoaaDoorMtn
import Derived.Lib.AtoiErrMem
namespace Go.Proofs.YtkjgkjmaoebeoaaDoor
open Go Go.RowKit
open Go.Proofs

section
variable {P : Program} {w : World} {ops : Array Oper} {rest : List Oper} {o : Oper} {a : Act} {Q : Exit → Act → World → Prop}
/-- '[]byte(s)', the new world named. -/
theorem wpList_s2bW (hg : o.guard = none) (src dst e : TypeId) (x : Operand) (hop : o.op = Op.convert src dst x)
    {u : TypeDesc} (hs : P.underlying src = some u) (hd : P.underlying dst = some (.slice e)) (he : P.underlying e = some (.int .u8))
    (s : ByteArray) (hx : a.eval x = .string s) (hK : wpList P ops Q rest (a.put o.dst (.slice (some ⟨w.heap.size, 0, none⟩) s.size (grownCap w s.size 0 e))) (Lib.bytesWorld w e s)) : wpList P ops Q (o :: rest) a w := by
  refine wpList_plain hg fun K hK' => ?_
  have hrun := Lib.run_convert_string_bytes (P := P) w src dst e s hs hd he
  unfold Oper.wp
  simp [execOp, hop, hx, hrun, Result.andThen]
  exact hK' _ _ hK
end
theorem bs_bytesWorld (W : World) (s : ByteArray) (e : TypeId) : Bs (Lib.bytesWorld W e s) W.heap.size 0 s.data.toList := by
  intro j hj
  have hj' : j < s.size := by rw [Array.length_toList] at hj; exact hj
  have h2 := Lib.bytesWorld_cell W e s j hj'
  rw [Nat.zero_add, h2]
  simp only [List.getD, List.getElem?_eq_getElem hj, Option.getD_some]
theorem bytesWorld_free (w : World) (e : TypeId) (s : ByteArray) (j : Nat) (hj : j < s.size) : (Lib.bytesWorld w e s).frozen? ⟨w.heap.size, j, none⟩ = false := by
  have hl : s.size ≤ (Lib.bytesCells w e s).size := by
    simp [Lib.bytesCells]
  simp [World.frozen?, Lib.bytesWorld_at_new]
  omega
theorem Bs.setAt {w : World} {b : Nat} {l : List UInt8} (h : Bs w b 0 l) (a : Nat) (y : UInt8) : Bs (w.setCell ⟨b, a, none⟩ (.int .u8 (y.toNat : Int))) b 0 (l.set a y) := by
  intro j hj
  have hj' : j < l.length := by simpa using hj
  by_cases hja : j = a
  · subst hja
    rw [Nat.zero_add, List.getElem_set_self]
    have h1 := h j hj'
    rw [Nat.zero_add] at h1
    exact World.cell?_setCell_same w _ _ h1
  · rw [List.getElem_set_ne (Ne.symm hja)]
    exact (World.cell?_setCell_other w ⟨b, a, none⟩ ⟨b, 0 + j, none⟩ _ (fun e => hja (by injection e with _ e; omega))).trans (h j hj')



set_option maxHeartbeats 8000000 in
set_option maxRecDepth 20000 in
theorem fnManifestTorn_main (Ls : List (List RC)) (v : Value) (m b : Nat) (a : Int) (w : World) (hv : SetsR w.heap.size w v Ls) (hl : Ls.length ≤ 9223372036854775807) (hid : ∀ L, L ∈ Ls → ∀ x, x ∈ L → x.id < 18446744073709551616) (hm : m < 65536) (hb8 : b < 256) (hgs : Gs w.heap.size w) :
    Calls Tryd.prog 4 #[v, .int .u16 (m : Int), .int .i64 a, .int .u8 (b : Int)] w fun e w' => e = .returned (.bool true) ∧ Ch [] w w' := by
  have hzz := zzFits9_any w.heap.size Ls v w hv hl
  obtain ⟨A, c, rfl⟩ := hv.form
  obtain ⟨n, hn⟩ : ∃ n, Ls.length = n := ⟨_, rfl⟩
  rw [hn] at hv hzz hl
  rw [hn]
  have hv' := Lib.hid hv
  have hn' := Lib.hid hn
  have hid' := Lib.hid hid
  have hgs' := Lib.hid hgs
  have hzz' := Lib.hid hzz
  clear hzz hgs hid hn hv
  go_enter Tryd.func4, Tryd.ntmps4
  go_wp2_with fail
  refine hzz'.out.mono ?_
  rintro e w ⟨⟨hfit, rfl⟩ | rfl, rfl⟩
  case inr =>
    go_wp2_with fail
    go_ret
    exact ⟨rfl, Ch.refl _ _⟩
  have hfit' := Lib.hid hfit
  clear hfit
  go_wp2_with fail
  refine (manifestHead_any m hm _).mono ?_
  rintro e w2 ⟨rfl, hb2⟩
  have hC2 : Ch [] w w2 := Ch.of_below hb2
  have hlc := lChanges_any w.heap.size Ls (.slice A n c) w2 (hv'.out.ch hC2 (by simp)) hC2.size hfit'.out hid'.out
  have hhl : (headB m).length = 8 := headB_length m
  have hhs := mksize (headB m)
  rw [hhl] at hhs
  have hb2' := Lib.hid hb2
  have hC2' := Lib.hid hC2
  have hlc' := Lib.hid hlc
  clear hlc hC2 hb2
  go_wp2_with fail
  refine hlc'.out.mono ?_
  rintro e w3 ⟨⟨hoks, rfl⟩ | rfl, hC3⟩
  case inr =>
    have hC3' := Lib.hid hC3
    clear hC3
    go_wp2_with fail
    go_ret
    exact ⟨rfl, hC2'.out.trans hC3'.out⟩
  by_cases hb0 : b = 0
  ·
    have hb0B : ((b : Int) == 0) = true := by simp [hb0]
    have hb0I : (b : Int) = 0 := by omega
    have hC3' := Lib.hid hC3
    have hoks' := Lib.hid hoks
    clear hoks hC3
    go_wp2_with fail
    go_ret
    exact ⟨rfl, hC2'.out.trans hC3'.out⟩
  have hb0B : ((b : Int) == 0) = false := by simp; omega
  by_cases ha : a < 8
  ·
    have hC3' := Lib.hid hC3
    have hoks' := Lib.hid hoks
    clear hoks hC3
    go_wp2_with fail
    go_ret
    exact ⟨rfl, hC2'.out.trans hC3'.out⟩
  obtain ⟨t, rfl⟩ : ∃ t : Nat, a = (t : Int) := ⟨a.toNat, by omega⟩
  have hn20 : n ≤ 20 := by rw [← hn'.out]; exact hoks.len
  have hC3w : Ch [] w w3 := hC2'.out.trans hC3
  have hC3' := Lib.hid hC3
  have hoks' := Lib.hid hoks
  clear hoks hC3
  go_wp2_with fail
  have hclen : (chgs Ls).length = n := by rw [← hn'.out]; simp [chgs]
  obtain ⟨Cs, hCs⟩ : ∃ C, chgs Ls = C := ⟨_, rfl⟩
  have hcap : ∀ j, (setsB (Cs.take j)).length ≤ 448 * j := fun j => by rw [← hCs]; exact sets_le hoks'.out j
  rw [hCs] at hclen
  clear hhs
  have hC3w' := Lib.hid hC3w
  have hCs' := Lib.hid hCs
  have hcap' := Lib.hid hcap
  have hclen' := Lib.hid hclen
  clear hclen hcap hCs hC3w
  go_loopw [9, 11, 37] (fun s9 s11 s37 wx => ∃ j : Nat, j ≤ n ∧ s37 = .int .i64 (j : Int) ∧ s9 = .string ⟨(headB m ++ setsB (Cs.take j)).toArray⟩ ∧ (∀ i, i < j → t < 8 + (setsB (Cs.take i)).length ∨ 8 + (setsB (Cs.take i)).length + 4 ≤ t) ∧ Ch [] w wx) (fun _ _ s37 _ => n - (intOf s37).toNat)
  case atStart => exact ⟨0, Nat.zero_le _, rfl, by simp [setsB], fun i h => absurd h (by omega), hC3w'.out⟩
  case round =>
    obtain ⟨j, hj, rfl, rfl, hfar, hCr⟩ := hrel
    by_cases hlt : j < n
    · have hltI : (j : Int) < (n : Int) := by omega
      have hj0 : (0 : Int) ≤ (j : Int) := by omega
      have hjl : j < Ls.length := by rw [hn'.out]; exact hlt
      obtain ⟨g, o, c2, u, he, hgB, hgl, c0, hu⟩ := (hv'.out.ch hCr (by simp)).at_ j (by rw [hn'.out]; exact hlt)
      obtain rfl : A = some ⟨g, o, none⟩ := by injection he
      clear he
      obtain ⟨Au, cu, rfl⟩ := hu.form
      obtain ⟨he1, he2, he3⟩ := hoks'.out.each _ (List.getElem_mem hjl)
      have hnx := chgs_at hjl
      rw [hCs'.out] at hnx
      obtain ⟨L, hL⟩ : ∃ L, Ls[j] = L := ⟨_, rfl⟩
      rw [hL] at c0 hu he1 he2 he3 hnx
      have hcs := changeSet_any w.heap.size L _ wr hu he2 he3
      obtain ⟨k, hk⟩ : ∃ k, L.length = k := ⟨_, rfl⟩
      rw [hk] at c0 hu hcs
      obtain ⟨X, hX⟩ : ∃ X, setB (L.map RC.chg) = X := ⟨_, rfl⟩
      rw [hX] at hcs
      obtain ⟨H, hH⟩ : ∃ H, headB m ++ setsB (Cs.take j) = H := ⟨_, rfl⟩
      have hHX : headB m ++ setsB (Cs.take (j + 1)) = H ++ X := by rw [hnx, ← hH, ← hX]; simp [setsB]
      have hHl : H.length = 8 + (setsB (Cs.take j)).length := by rw [← hH, List.length_append, hhl]
      have hHXl : (H ++ X).length = 8 + (setsB (Cs.take (j + 1))).length := by rw [← hHX, List.length_append, hhl]
      have hcj := hcap'.out (j + 1)
      obtain ⟨h, hh⟩ : ∃ h, H.length = h := ⟨_, rfl⟩
      have hzH := mksize H
      have hzX := mksize X
      have hcat := mkcat H X
      have hsum : ¬ 9223372036854775807 < h + X.length := by rw [← hh, ← List.length_append]; omega
      have h99 : h ≤ 1000000 := by rw [← hh]; rw [List.length_append] at hHXl; omega
      rw [hh] at hzH
      have w1 : IntKind.i64.wrap ((j : Int) + 1) = ((j + 1 : Nat) : Int) := (IntWalk.i64_in _ (by omega)).trans (by omega)
      have w4 : IntKind.i64.wrap ((h : Int) + 4) = ((h + 4 : Nat) : Int) := (IntWalk.i64_in _ (by omega)).trans (by omega)
      rw [hH]
      by_cases hmid : h ≤ t ∧ t < h + 4
      · have hm1 : (h : Int) ≤ (t : Int) := by omega
        have hm2 : (t : Int) < ((h + 4 : Nat) : Int) := by omega
        have hu' := Lib.hid hu
        have hnx' := Lib.hid hnx
        have hL' := Lib.hid hL
        have hcs' := Lib.hid hcs
        have hk' := Lib.hid hk
        have hX' := Lib.hid hX
        have hH' := Lib.hid hH
        have hHX' := Lib.hid hHX
        have hHl' := Lib.hid hHl
        have hHXl' := Lib.hid hHXl
        have hh' := Lib.hid hh
        have hCr' := Lib.hid hCr
        have he3' := Lib.hid he3
        have hfar' := Lib.hid hfar
        clear hfar he3 hCr hh hHXl hHl hHX hH hX hk hcs hL hnx hu
        go_wp2_with fail
        go_ret
        exact ⟨rfl, hCr'.out⟩
      have hnext : ∀ i, i < j + 1 → t < 8 + (setsB (Cs.take i)).length ∨ 8 + (setsB (Cs.take i)).length + 4 ≤ t := fun i hi => by
        by_cases hij : i < j
        · exact hfar i hij
        · obtain rfl : i = j := by omega
          omega
      by_cases hm1 : h ≤ t
      · have hm1I : (h : Int) ≤ (t : Int) := by omega
        have hm2I : ¬ (t : Int) < ((h + 4 : Nat) : Int) := by omega
        have hu' := Lib.hid hu
        have hnx' := Lib.hid hnx
        have hL' := Lib.hid hL
        have hcs' := Lib.hid hcs
        have hk' := Lib.hid hk
        have hX' := Lib.hid hX
        have hH' := Lib.hid hH
        have hHX' := Lib.hid hHX
        have hHl' := Lib.hid hHl
        have hHXl' := Lib.hid hHXl
        have hh' := Lib.hid hh
        have hCr' := Lib.hid hCr
        have he3' := Lib.hid he3
        have hfar' := Lib.hid hfar
        have hnext' := Lib.hid hnext
        clear hnext hfar he3 hCr hh hHXl hHl hHX hH hX hk hcs hL hnx hu
        go_wp2_with fail
        refine hcs'.out.mono ?_
        rintro e w5 ⟨rfl, hC5⟩
        have hC05 := hCr'.out.trans hC5
        have hC5' := Lib.hid hC5
        have hC05' := Lib.hid hC05
        clear hC05 hC5
        go_wp2_with fail
        go_roundw
        case rel => exact ⟨j + 1, by omega, by go_num, by rw [hHX'.out], hnext'.out, hC05'.out⟩
        case measure => simp [intOf]; omega
      · have hm1I : ¬ (h : Int) ≤ (t : Int) := by omega
        have hu' := Lib.hid hu
        have hnx' := Lib.hid hnx
        have hL' := Lib.hid hL
        have hcs' := Lib.hid hcs
        have hk' := Lib.hid hk
        have hX' := Lib.hid hX
        have hH' := Lib.hid hH
        have hHX' := Lib.hid hHX
        have hHl' := Lib.hid hHl
        have hHXl' := Lib.hid hHXl
        have hh' := Lib.hid hh
        have hCr' := Lib.hid hCr
        have he3' := Lib.hid he3
        have hfar' := Lib.hid hfar
        have hnext' := Lib.hid hnext
        clear hnext hfar he3 hCr hh hHXl hHl hHX hH hX hk hcs hL hnx hu
        go_wp2_with fail
        refine hcs'.out.mono ?_
        rintro e w5 ⟨rfl, hC5⟩
        have hC05 := hCr'.out.trans hC5
        have hC5' := Lib.hid hC5
        have hC05' := Lib.hid hC05
        clear hC05 hC5
        go_wp2_with fail
        go_roundw
        case rel => exact ⟨j + 1, by omega, by go_num, by rw [hHX'.out], hnext'.out, hC05'.out⟩
        case measure => simp [intOf]; omega
    · obtain rfl : j = n := by omega
      have htk : Cs.take j = Cs := List.take_of_length_le (by have := hclen'.out; omega)
      rw [htk]
      obtain ⟨T, hT⟩ : ∃ T, headB m ++ setsB Cs = T := ⟨_, rfl⟩
      have hTl : T.length = 8 + (setsB Cs).length := by rw [← hT, List.length_append, hhl]
      have hcT := hcap'.out j
      rw [htk] at hcT
      have hzT := mksize T
      obtain ⟨E, hE⟩ : ∃ E, T.length = E := ⟨_, rfl⟩
      rw [hE] at hzT
      rw [hT]
      by_cases hout : E ≤ t
      · have houtI : (E : Int) ≤ (t : Int) := by omega
        have hCr' := Lib.hid hCr
        have hT' := Lib.hid hT
        have hTl' := Lib.hid hTl
        have hE' := Lib.hid hE
        have hfar' := Lib.hid hfar
        clear hfar hE hTl hT hCr
        go_wp2_with fail
        go_ret
        exact ⟨rfl, hCr'.out⟩
      · have houtI : ¬ (E : Int) ≤ (t : Int) := by omega
        have hb32 : ∀ L, L ∈ Cs → (bodyB L).length < 4294967296 := fun M hM => by
          rw [← hCs'.out] at hM
          obtain ⟨M', hM', rfl⟩ := List.mem_map.1 hM
          obtain ⟨k1, k2, k3⟩ := hoks'.out.each M' hM'
          have h0 := bodyB_le (l := M'.map RC.chg) (fun c hc => by
            obtain ⟨x, hx, rfl⟩ := List.mem_map.1 hc
            obtain ⟨q1, q2, q3, q4⟩ := k3 x hx
            exact ⟨by show x.id < _; omega, by show x.lev.toNat < _; omega⟩)
          simp at h0
          omega
        have ht : t < T.length := by omega
        have htI : (t : Int) < (E : Int) := by omega
        have ht0 : (0 : Int) ≤ (t : Int) := by omega
        have hE6 : E ≤ 1000000 := by omega
        obtain ⟨x, hx⟩ : ∃ x : Nat, (T[t]).toNat = x := ⟨_, rfl⟩
        have hx8 : x < 256 := by rw [← hx]; exact UInt8.toNat_lt _
        have hxor := u8_xor_nat x b hx8 hb8
        obtain ⟨y, hy⟩ : ∃ y, x ^^^ b = y := ⟨_, rfl⟩
        have hy8 : y < 256 := by rw [← hy]; exact Nat.xor_lt_two_pow (n := 8) hx8 hb8
        rw [hy] at hxor
        obtain ⟨yb, hyb⟩ : ∃ b : UInt8, b.toNat = y := ⟨y.toUInt8, by simp; omega⟩
        have hyne : yb ≠ T[t] := fun h0 => hb0 (by
          have h1 : x ^^^ b = x ^^^ 0 := by rw [hy, ← hyb, h0, hx, Nat.xor_zero]
          exact xor_can' h1)
        obtain ⟨q, tail, hq1, hq2⟩ := torn_at m t hT (by omega) ht hyne (fun i hi => hfar i (by have := hclen'.out; omega)) hb32
        obtain ⟨Tn, hTn⟩ : ∃ Tn, T.set t yb = Tn := ⟨_, rfl⟩
        have hTnl : Tn.length = E := by rw [← hTn, List.length_set, hE]
        rw [hTn] at hq1
        rw [hE] at hq2
        obtain ⟨W3, hW3⟩ : ∃ W3, Lib.bytesWorld wr 5 ⟨T.toArray⟩ = W3 := ⟨_, rfl⟩
        obtain ⟨cp, hcp⟩ : ∃ c, grownCap wr E 0 5 = c := ⟨_, rfl⟩
        have hbs : Bs W3 wr.heap.size 0 T := by rw [← hW3]; exact bs_bytesWorld wr ⟨T.toArray⟩ 5
        have q1 : W3.cell? ⟨wr.heap.size, t, none⟩ = some (.int .u8 (x : Int)) := by
          have h := hbs t ht
          rw [Nat.zero_add, hx] at h
          exact h
        have f1 : W3.frozen? ⟨wr.heap.size, t, none⟩ = false := by rw [← hW3]; exact bytesWorld_free wr _ _ t (by rw [hzT]; omega)
        have hb3 : Below wr.heap.size wr W3 := by rw [← hW3]; exact Lib.bytesWorld_below wr _ _
        have hb4 := hb3.setCell (p := ⟨wr.heap.size, t, none⟩) (Nat.le_refl _) (.int .u8 (y : Int))
        have hC4 : Ch [] w _ := hCr.trans (Ch.of_below hb4)
        have hbT := hbs.setAt t yb
        rw [hyb, hTn] at hbT
        have hbad := read_bad hoks'.out hCs'.out m q E Tn tail w _ hgs'.out hC4 hm hq1 hTnl hE6 hq2
        have hCr' := Lib.hid hCr
        have hT' := Lib.hid hT
        have hTl' := Lib.hid hTl
        have hE' := Lib.hid hE
        have hfar' := Lib.hid hfar
        have hbad' := Lib.hid hbad
        have hbT' := Lib.hid hbT
        have hC4' := Lib.hid hC4
        have hb4' := Lib.hid hb4
        have hW3' := Lib.hid hW3
        have hcp' := Lib.hid hcp
        have hbs' := Lib.hid hbs
        have hb3' := Lib.hid hb3
        have hq1' := Lib.hid hq1
        have hq2' := Lib.hid hq2
        have hyne' := Lib.hid hyne
        have hyb' := Lib.hid hyb
        have hy' := Lib.hid hy
        have hx' := Lib.hid hx
        have hTn' := Lib.hid hTn
        have hTnl' := Lib.hid hTnl
        have hb32' := Lib.hid hb32
        clear hb32 hTnl hTn hx hy hyb hyne hq2 hq1 hb3 hbs hcp hW3 hb4 hC4 hbT hbad hfar hE hTl hT hCr
        go_wp2_with (first | (refine wpList_s2bW rfl 9 42 5 (.tmp 61) rfl Tryd.underlying9 Tryd.underlying42 Tryd.underlying5 ⟨T.toArray⟩ rfl ?_; rw [hzT, hcp'.out, hW3'.out]) | (refine wpList_b2s rfl 42 9 5 (.tmp 71) rfl Tryd.underlying42 Tryd.underlying5 Tryd.underlying9 wr.heap.size 0 E cp rfl Tn hTnl'.out hbT'.out ?_))
        refine hbad'.out.mono ?_
        rintro e w6 ⟨hno, hC6⟩
        unfold RmNo at hno
        subst hno
        have hC46 : Ch [] w w6 := hC4'.out.trans hC6
        have hC6' := Lib.hid hC6
        have hC46' := Lib.hid hC46
        clear hC46 hC6
        go_wp2_with fail
        obtain ⟨W7, hW7⟩ : ∃ W, w6.alloc (.cells #[.slice none 0 0, .slice none 0 0, .int .i64 0, .int .i64 0, .int .i64 0] 37) = W := ⟨_, rfl⟩
        have hC7 : Ch [] w W7 := by rw [← hW7]; exact hC46'.out.alloc _
        have hok := read_same hoks'.out hCs'.out m j E T [] w W7 hgs'.out hC7 hm (by rw [htk, List.append_nil]; exact hT'.out.symm) hE'.out hE6 (.inl (by simp))
        rw [hW7]
        refine hok.mono ?_
        rintro e w8 ⟨⟨A1, c1, A2, c2, ls, rfl, _, _, _, _⟩, hC8⟩
        have hC7' := Lib.hid hC7
        have hC8' := Lib.hid hC8
        have hok' := Lib.hid hok
        have hW7' := Lib.hid hW7
        clear hW7 hok hC8 hC7
        go_wp2_with fail
        go_ret
        exact ⟨rfl, (hC7'.out.trans hC8'.out).alloc _⟩
end Go.Proofs.YtkjgkjmaoebeoaaDoor
