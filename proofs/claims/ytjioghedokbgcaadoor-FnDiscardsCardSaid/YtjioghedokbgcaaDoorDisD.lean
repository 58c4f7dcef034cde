/-
  impl.Discards: the steps laid as two slices, and ZZDiscards over them.
-/
import Derived.Deep.RegionLaw
import Derived.Test.YtjioghedokbgcaaDoorDisZ
namespace Go.Proofs.YtjioghedokbgcaaDoor
open Go Go.RowKit
open Go.Proofs

/-- 'append(s, x)' of one element that was just laid, in a region that draws: told from an elder world. -/
theorem step_append1 {P : Program} {W0 w : World} {ops : Array Oper} {o : Oper} {a : Act} {K : Act → World → Prop} {Q : Exit → Act → World → Prop} {E : Prop} (hgd : o.guard = none) (s x : Operand) (t : TypeId)
    (ho : o.op = .call { callee := .builtin .append, args := #[s, x], argTypes := #[t, t] })
    (base : Nat) (e : TypeId) (size : Nat) (ht : P.underlying t = some (.slice e)) (hrow : (P.info? e).map (fun i => (i.zero.map (·.cells.size), i.size, decide (i.bytes ≤ 128))) = some (some size, size, true)) (hsz : 0 < size)
    (v : Value) (n : Nat) (xs : List Value) (hs : a.eval s = v) (S : List Nat) (hX : Ch S W0 w) (hS : ∀ g, v.ownBlock = some g → g ∉ S) (hown : W0.ownsRow base e size v n xs)
    (nb c : Nat) (news : List Value) (hx : a.eval x = .slice (some ⟨nb, 0, none⟩) 1 c) (hl : news.length = size) (hb : Bk w nb e news.toArray) (h1 : ∀ u ∈ news, u.oneCell' = true)
    (hn : n ≤ 1000000000000) (hbase : base ≤ W0.heap.size)
    (h : ∀ g cap w', w'.ownsRow base e size (.slice (some ⟨g, 0, none⟩) (n + 1) cap) (n + 1) (xs ++ news) → Ch (S ++ v.ownBlock.toList) W0 w' → Ch v.ownBlock.toList w w' → (∀ b t' cs, Bk w b t' cs → t' ≠ e → Bk w' b t' cs) → (∀ base' e' size' v' n' xs', w.ownsRow base' e' size' v' n' xs' → e' ≠ e → w'.ownsRow base' e' size' v' n' xs') → K (a.put o.dst (.slice (some ⟨g, 0, none⟩) (n + 1) cap)) w') :
    if Region.wanted o (yielded ops a.tmps) = true then Oper.wp P o a w K Q else E := by
  obtain ⟨i, z, hi, hz, h2, h3, h4⟩ := row_parts hrow
  have hownw := own_ch hown hX hS
  refine step_append_lies w hgd s x t ho base e i z size i.bytes ht hi hz h2 rfl h3 hsz v n xs hs hownw ⟨nb, 0, none⟩ 1 c news hx (by omega) ?_ h1 (by omega) (by unfold maxLen; omega) ?_ (Nat.le_trans hbase hX.size) _ rfl ?_
  · intro j u hj
    rw [Addr.add_lit, Nat.zero_add, hb.cell]
    simpa using hj
  · have : (n + 1) * i.bytes ≤ (1000000000000 + 1) * 128 := Nat.mul_le_mul (by omega) h4
    omega
  · intro g cap w' k1 k2 _ _
    have hc : Ch v.ownBlock.toList w w' := ⟨k2.os, k2.tape, k2.output, k2.size, fun k hk hkn => k2.block k hk fun he => hkn (by rw [← he]; simp)⟩
    exact h g cap w' k1 ((hX.mono fun y hy => .inl (List.mem_append_left _ hy)).trans' hc fun y hy => .inl (List.mem_append_right _ hy)) hc (fun b t' cs hb' ht' => hb'.ch hc (ty_notin hownw hb'.ty ht')) (fun base' e' size' v' n' xs' h' he' => own_ch h' hc fun g hg => ty_notin hownw (own_ty h' hg) he')

/-- Steps as they are handed in. -/
structure AddsR (w : World) (v : Value) (l : List (Nat × Int)) : Prop where
  form : ∃ A c, v = .slice A l.length c
  at_ : ∀ j (hj : j < l.length), ∃ b o c, v = .slice (some ⟨b, o, none⟩) l.length c ∧ b < w.heap.size ∧ w.cell? ⟨b, o + j * 2, none⟩ = some (.int .u32 ((l[j]).1 : Int)) ∧ w.cell? ⟨b, o + j * 2 + 1, none⟩ = some (.int .i64 (l[j]).2)
theorem AddsR.ch {w w' : World} {v : Value} {l : List (Nat × Int)} (h : AddsR w v l) (hc : Ch [] w w') : AddsR w' v l := by
  refine ⟨h.form, fun j hj => ?_⟩
  obtain ⟨b, o, c, e, hlt, c0, c1⟩ := h.at_ j hj
  exact ⟨b, o, c, e, Nat.lt_of_lt_of_le hlt hc.size, (hc.cell _ hlt (by simp)).trans c0, (hc.cell _ hlt (by simp)).trans c1⟩

theorem within_any (k : Nat) (hk : 4 ≤ k) (hk2 : k ≤ 1000) (W : World) : Calls Tryd.prog 6 #[.int .i64 (k : Int), .int .i64 4, .int .i64 1000] W fun e w' => e = .returned (.int .i64 (k : Int)) ∧ w' = W := by
  have h1 : (4 : Int) ≤ (k : Int) := by omega
  have h2 : (k : Int) ≤ 1000 := by omega
  have h3 : ¬ (k : Int) < 4 := by omega
  have h4 : ¬ (1000 : Int) < (k : Int) := by omega
  go_enter Tryd.func6, Tryd.ntmps6
  go_wp2_with fail
  go_ret
  exact ⟨by rw [show min (max (k : Int) 4) 1000 = (k : Int) by omega]; rfl, rfl⟩

theorem ZZPost.from {l : List (Nat × Int)} {W W1 w' : World} {e : Ending} (h : ZZPost l W1 e w') (hc : Ch [] W W1) : ZZPost l W e w' := by
  obtain ⟨d, vt, va, h1, h2, h3, h4, h5, h6, h7⟩ := h
  exact ⟨d, vt, va, h1, own_mono h2 hc.size, own_mono h3 hc.size, h4, h5, h6, hc.trans h7⟩

def filesCs (l : List (Nat × Int)) : List Value := l.map fun x => .int .u32 (x.1 : Int)
def addsCs (l : List (Nat × Int)) : List Value := l.map fun x => .int .i64 x.2

set_option maxHeartbeats 2000000 in
set_option maxRecDepth 20000 in
theorem implDiscards_any (k : Nat) (hk : 4 ≤ k) (hk2 : k ≤ 100) (l : List (Nat × Int)) (hl : l.length ≤ 100) (hlf : ∀ x, x ∈ l → x.1 ≤ 1000) (hlN : ∀ x, x ∈ l → -9223372036854775808 ≤ x.2) (hlM : ∀ x, x ∈ l → x.2 ≤ 1099511627776) (v : Value) (a : Addr) (W : World)
    (hv : AddsR W v l)
    (hg : W.cell? ⟨0, 0, none⟩ = some (.iface 101 (.pointer (some a)))) :
    Calls Tryd.prog 4 #[.int .i64 (k : Int), v] W fun e w' => ZZPost l W e w' := by
  obtain ⟨A, c, rfl⟩ := hv.form
  obtain ⟨n, hn⟩ : ∃ n, l.length = n := ⟨_, rfl⟩
  have hgl := block_lt_of_cell hg
  have hl' := hl
  rw [hn] at hv hl
  rw [hn]
  have h80 : W.ownsRow W.heap.size 25 1 (.slice none 0 0) 0 (filesCs (l.take 0)) := World.ownsRow_nil W W.heap.size 25 1
  have h90 : W.ownsRow W.heap.size 2 1 (.slice none 0 0) 0 (addsCs (l.take 0)) := World.ownsRow_nil W W.heap.size 2 1
  have hv' := Lib.hid hv
  have hn' := Lib.hid hn
  have hlf' := Lib.hid hlf
  have hlN' := Lib.hid hlN
  have hlM' := Lib.hid hlM
  have h80' := Lib.hid h80
  have h90' := Lib.hid h90
  have hg' := Lib.hid hg
  have hl'' := Lib.hid hl'
  clear hl' hg h90 h80 hlM hlN hlf hn hv
  go_enter Tryd.func4, Tryd.ntmps4
  go_wp2_with fail
  go_loopw [8, 9, 14] (fun s8 s9 s14 wx => ∃ j : Nat, j ≤ n ∧ s14 = .int .i64 (j : Int) ∧ wx.ownsRow W.heap.size 25 1 s8 j (filesCs (l.take j)) ∧ wx.ownsRow W.heap.size 2 1 s9 j (addsCs (l.take j)) ∧ Ch [] W wx) (fun _ _ s14 _ => n - (intOf s14).toNat)
  case atStart => exact ⟨0, Nat.zero_le _, rfl, h80'.out, h90'.out, Ch.refl _ _⟩
  case round =>
    obtain ⟨j, hjn, rfl, h8, h9, hCr⟩ := hrel
    by_cases hlt : j < n
    · have hltI : (j : Int) < (n : Int) := by omega
      have hjl : j < l.length := by have := hn'.out; omega
      obtain ⟨g, o, c2, he, hgl2, c0, c1⟩ := (hv'.out.ch hCr).at_ j (by rw [hn'.out]; exact hlt)
      have hAo : A = some ⟨g, o, none⟩ := by injection he
      clear he
      subst hAo
      have hsnoc := take_snoc hjl
      obtain ⟨f, hf⟩ : ∃ f, (l[j]).1 = f := ⟨_, rfl⟩
      obtain ⟨N, hN⟩ : ∃ N, (l[j]).2 = N := ⟨_, rfl⟩
      have hx : l[j] = (f, N) := by rw [← hf, ← hN]
      rw [hx] at hsnoc
      rw [hf] at c0
      rw [hN] at c1
      obtain ⟨a8, c8, rfl⟩ := own_form h8
      obtain ⟨a9, c9, rfl⟩ := own_form h9
      obtain ⟨W0, hW0⟩ : ∃ w, wr.alloc (.cells #[.int .u32 (f : Int), .int .i64 N] 27) = w := ⟨_, rfl⟩
      have hC0 : Ch [] wr W0 := by rw [← hW0]; exact (Ch.refl [] wr).alloc _
      have hs0 : Bk W0 wr.heap.size 27 #[.int .u32 (f : Int), .int .i64 N] := by rw [← hW0]; exact Bk.new _ _ _
      have h80 := own_ch h8 hC0 (fun g _ hm => by cases hm)
      have h90 := own_ch h9 hC0 (fun g _ hm => by cases hm)
      have d0 := hs0.cell 0
      have d1 := hs0.cell 1
      simp at d0 d1
      have w1 : IntKind.i64.wrap ((j : Int) + 1) = ((j + 1 : Nat) : Int) := (IntWalk.i64_in _ (by omega)).trans (by omega)
      have h8' := Lib.hid h8
      have h9' := Lib.hid h9
      have hCr' := Lib.hid hCr
      have hC0' := Lib.hid hC0
      have hs0' := Lib.hid hs0
      have h80' := Lib.hid h80
      have h90' := Lib.hid h90
      have hsnoc' := Lib.hid hsnoc
      have hx' := Lib.hid hx
      have hf' := Lib.hid hf
      have hN' := Lib.hid hN
      clear hN hf hx hsnoc h90 h80 hs0 hC0 hCr h9 h8
      have d0a : ∀ o, (W0.alloc o).cell? ⟨wr.heap.size, 0, none⟩ = some (.int .u32 (f : Int)) := fun o => (hs0'.out.alloc o).cell 0
      have d1a : ∀ o, (W0.alloc o).cell? ⟨wr.heap.size, 1, none⟩ = some (.int .i64 N) := fun o => (hs0'.out.alloc o).cell 1
      have hn8 : wr.heap.size ∉ [] ++ (Value.slice a8 j c8).ownBlock.toList := by simpa using ty_notin h80'.out hs0'.out.ty (by decide)
      have hn9 : ∀ g, (Value.slice a9 j c9).ownBlock = some g → g ∉ [] ++ (Value.slice a8 j c8).ownBlock.toList := fun g hg => by simpa using ty_notin h80'.out (own_ty h90'.out hg) (by decide)
      have hbase : W.heap.size ≤ W0.heap.size := Nat.le_trans hCr'.out.size hC0'.out.size
      have one1 : ∀ u ∈ [Value.int .u32 (f : Int)], u.oneCell' = true := by intro u hu; simp at hu; subst hu; rfl
      have one2 : ∀ u ∈ [Value.int .i64 N], u.oneCell' = true := by intro u hu; simp at hu; subst hu; rfl
      have e8 : filesCs (l.take j) ++ [.int .u32 (f : Int)] = filesCs (l.take (j + 1)) := by rw [hsnoc'.out]; simp [filesCs]
      have e9 : addsCs (l.take j) ++ [.int .i64 N] = addsCs (l.take (j + 1)) := by rw [hsnoc'.out]; simp [addsCs]
      have lt8 := h80'.out.lt
      have lt9 := h90'.out.lt
      have hn8' := Lib.hid hn8
      have hn9' := Lib.hid hn9
      have hbase' := Lib.hid hbase
      have one1' := Lib.hid one1
      have one2' := Lib.hid one2
      have e8' := Lib.hid e8
      have e9' := Lib.hid e9
      have lt8' := Lib.hid lt8
      have lt9' := Lib.hid lt9
      clear lt9 lt8 e9 e8 one2 one1 hbase hn9 hn8
      go_upto_region 6 with fail
      go_region_law (first | (refine step_append1 (W0 := W0) rfl (.tmp 18) (.tmp 21) 35 rfl W.heap.size 25 1 Tryd.underlying35 (by kernel_rfl) (by omega) (.slice a8 j c8) j (filesCs (l.take j)) rfl [] (by first | exact ((Ch.refl [] W0).alloc _).drew | exact (((Ch.refl [] W0).alloc _).alloc _).drew) (fun _ _ hm => by cases hm) h80'.out _ _ [.int .u32 (f : Int)] rfl rfl (by first | exact (Bk.at_ _ _ _ _ (by simp)).drew | exact ((Bk.at_ _ _ _ _ (by simp)).alloc _).drew) one1'.out (by omega) hbase'.out ?_; intro g2 cap2 w2 hown22 hC22 hCw22 hbk22 hro22; have d1b := (hs0'.out.ch hC22 hn8'.out).cell 1; simp at d1b; have hown22' := Lib.hid hown22; have hC22' := Lib.hid hC22; have hbk22' := Lib.hid hbk22; clear hown22 hC22 hCw22 hbk22 hro22) | (refine step_append1 (W0 := W0) rfl (.tmp 23) (.tmp 26) 24 rfl W.heap.size 2 1 Tryd.underlying24 (by kernel_rfl) (by omega) (.slice a9 j c9) j (addsCs (l.take j)) rfl ([] ++ (Value.slice a8 j c8).ownBlock.toList) (by first | exact hC22'.out | exact hC22'.out.alloc _) hn9'.out h90'.out _ _ [.int .i64 N] rfl rfl (by first | exact Bk.at_ _ _ _ _ (by simp) | exact hbk22'.out _ _ _ (Bk.at_ _ _ _ _ (by simp)).drew (by decide) | exact hbk22'.out _ _ _ ((Bk.at_ _ _ _ _ (by simp)).alloc _).drew (by decide)) one2'.out (by omega) hbase'.out ?_; intro g3 cap3 w3 hown27 hC27 hCw27 hbk27 hro27; have hr8 : w3.ownsRow _ _ _ _ _ _ := (by first | exact hro27 _ _ _ _ _ _ hown22'.out (by decide) | exact hro27 _ _ _ _ _ _ (World.ownsRow.alloc hown22'.out _) (by decide)); have hr8' := Lib.hid hr8; have hown27' := Lib.hid hown27; have hC27' := Lib.hid hC27; clear hr8 hown27 hC27 hCw27 hbk27 hro27))
      all_goals
        go_wp2_with fail
        go_roundw
        case rel =>
          refine ⟨j + 1, by omega, by go_num, by rw [← e8'.out]; exact hr8'.out, by rw [← e9'.out]; exact hown27'.out, ((hCr'.out.trans hC0'.out).trans' hC27'.out fun k hk => ?_)⟩
          rcases List.mem_append.1 hk with h0 | h0
          · exact .inr (lt8'.out k (by simpa using h0)).1
          · exact .inr (lt9'.out k (by simpa using h0)).1
        case measure => simp [intOf]; omega
    · obtain rfl : j = n := by omega
      obtain ⟨a8, c8, rfl⟩ := own_form h8
      obtain ⟨a9, c9, rfl⟩ := own_form h9
      have ht : l.take j = l := by rw [← hn'.out]; exact List.take_length
      rw [ht] at h8 h9
      have hg2 := (hCr.cell 0 hgl (by simp)).trans hg'.out
      have hzz := zzDiscards_any k hk hk2 l hl''.out hlf'.out hlN'.out hlM'.out a8 a9 c8 c9 a wr (Reads.of_own h8) (Reads.of_own h9) hg2
      rw [hn'.out] at hzz
      have h8' := Lib.hid h8
      have h9' := Lib.hid h9
      have hCr' := Lib.hid hCr
      have hg2' := Lib.hid hg2
      have hzz' := Lib.hid hzz
      have ht' := Lib.hid ht
      clear ht hzz hg2 hCr h9 h8
      go_wp2_with fail
      refine (within_any k hk (by omega) _).mono ?_
      rintro e w2 ⟨rfl, rfl⟩
      go_wp2_with fail
      refine hzz'.out.mono ?_
      rintro e w3 hP
      have hP2 := hP.from hCr'.out
      obtain ⟨d, vt, va, rfl, hrest⟩ := hP2
      have hP' := Lib.hid hP
      have hrest' := Lib.hid hrest
      clear hrest hP
      go_wp2_with fail
      refine bodyPost_ret (res_tmp4 rfl _ _ _) rfl ?_
      exact ⟨d, vt, va, rfl, hrest'.out⟩
end Go.Proofs.YtjioghedokbgcaaDoor
