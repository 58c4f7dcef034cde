/-
  impl.ManifestRead.
-/
import Derived.Test.YtkjgkjmaoebeoaaDoorMzm
import Derived.Test.YtkjgkjmaoebeoaaDoorMid
import Derived.Deep.CutBlock
import Derived.Deep.DeepCutAuto
import Derived.Defers
import Derived.Recover
import Derived.Deep.RegionLaw
import Derived.Deep.RegionHeld3
import Derived.Test.YtkjgkjmaoebeoaaDoorDem
import Derived.Deep.DeepMust
namespace Go.Proofs.YtkjgkjmaoebeoaaDoor
open Go Go.RowKit
open Go.Proofs

def idsU (l : List Nat) : List Value := l.map fun g : Nat => Value.int .u64 (g : Int)
def levU (f : Nat → Option Nat) (l : List Nat) : List Value := l.map fun g : Nat => Value.int .i64 (((f g).getD 0 : Nat) : Int)

/-- 'append(s, x)' of one element that was just laid, in a region that draws: told from an elder world. -/
theorem step_append1 {P : Program} {W0 w : World} {ops : Array Oper} {o : Oper} {a : Act} {K : Act → World → Prop} {Q : Exit → Act → World → Prop} {E : Prop} (hgd : o.guard = none) (s x : Operand) (t : TypeId)
    (ho : o.op = .call { callee := .builtin .append, args := #[s, x], argTypes := #[t, t] })
    (base : Nat) (e : TypeId) (size : Nat) (ht : P.underlying t = some (.slice e)) (hrow : (P.info? e).map (fun i => (i.zero.map (·.cells.size), i.size, decide (i.bytes ≤ 128))) = some (some size, size, true)) (hsz : 0 < size)
    (v : Value) (n : Nat) (xs : List Value) (hs : a.eval s = v) (S : List Nat) (hX : Ch S W0 w) (hS : ∀ g, v.ownBlock = some g → g ∉ S) (hown : W0.ownsRow base e size v n xs)
    (nb c : Nat) (news : List Value) (hx : a.eval x = .slice (some ⟨nb, 0, none⟩) 1 c) (hl : news.length = size) (hb : Bk w nb e news.toArray) (h1 : ∀ u ∈ news, u.oneCell' = true)
    (hn : n ≤ 1000000000000) (hbase : base ≤ W0.heap.size)
    (h : ∀ g cap w', w'.ownsRow base e size (.slice (some ⟨g, 0, none⟩) (n + 1) cap) (n + 1) (xs ++ news) → Ch (S ++ v.ownBlock.toList) W0 w' → Ch v.ownBlock.toList w w' → (∀ b t' cs, Bk w b t' cs → t' ≠ e → Bk w' b t' cs) → (∀ base' e' size' v' n' xs', w.ownsRow base' e' size' v' n' xs' → e' ≠ e → w'.ownsRow base' e' size' v' n' xs') → K (a.put o.dst (.slice (some ⟨g, 0, none⟩) (n + 1) cap)) w') :
    if Region.wanted o (yielded ops a.tmps) = true then Oper.wp P o a w K Q else E := by
  obtain ⟨i, z, hi, hz, h2, h3, h4⟩ := row_parts hrow
  have hownw := own_ch hown hX hS
  refine step_append_lies w hgd s x t ho base e i z size i.bytes ht hi hz h2 rfl h3 hsz v n xs hs hownw ⟨nb, 0, none⟩ 1 c news hx (by omega) ?_ h1 (by omega) (by unfold maxLen; omega) ?_ (Nat.le_trans hbase hX.size) _ rfl ?_
  · intro j u hj
    rw [Addr.add_lit, Nat.zero_add, hb.cell]
    simpa using hj
  · have : (n + 1) * i.bytes ≤ (1000000000000 + 1) * 128 := Nat.mul_le_mul (by omega) h4
    omega
  · intro g cap w' k1 k2 _ _
    have hc : Ch v.ownBlock.toList w w' := ⟨k2.os, k2.tape, k2.output, k2.size, fun k hk hkn => k2.block k hk fun he => hkn (by rw [← he]; simp)⟩
    exact h g cap w' k1 ((hX.mono fun y hy => .inl (List.mem_append_left _ hy)).trans' hc fun y hy => .inl (List.mem_append_right _ hy)) hc (fun b t' cs hb' ht' => hb'.ch hc (ty_notin hownw hb'.ty ht')) (fun base' e' size' v' n' xs' h' he' => own_ch h' hc fun g hg => ty_notin hownw (own_ty h' hg) he')

theorem catch_idle (p q : Addr) (w : World) :
    CallsD Tryd.prog 18 #[.pointer (some p), .pointer (some q)] .returning w fun e u' w' => e = .returned (.tuple #[]) ∧ u' = .returning ∧ w' = w := by
  refine callsD_of_wpS Tryd.func18 rfl fun c₀ cs hu => ?_
  apply wpS_seq
  apply wpS_region
  simp [wpOpsS, go_sem, recoverD, hu, Tryd.ntmps18, Exit.thenS]
  refine wpS_cond (t := false) (by simp [Act.eval, Array.replicate]) ?_
  simp only [Bool.false_eq_true, if_false]
  refine wpS_of_wp (wp_skip ?_)
  cases c₀
  simp_all [bodyPostS, results, Tryd.results18]

theorem own_mono {w : World} {base B e size n : Nat} {v : Value} {xs : List Value} (h : w.ownsRow base e size v n xs) (hB : B ≤ base) : w.ownsRow B e size v n xs := by
  refine ⟨h.1, ?_⟩
  rcases h.2 with h0 | ⟨g, cap, cur, h1, h2, h3⟩
  · exact .inl h0
  · exact .inr ⟨g, cap, cur, h1, Nat.le_trans hB h2, h3⟩

/-- A manifest as impl tells it. -/
def RmOk (b : Bok) (n : Nat) (w : World) (e : Ending) (w' : World) : Prop := ∃ A1 c1 A2 c2 l, e = .returned (.tuple #[.agg #[.slice A1 (l : List Nat).length c1, .slice A2 l.length c2, .int .i64 (b.made : Int), .int .i64 (b.dropped : Int), .int .i64 (n : Int)], .bool true]) ∧
  w'.ownsRow w.heap.size 45 1 (.slice A1 l.length c1) l.length (idsU l) ∧ w'.ownsRow w.heap.size 3 1 (.slice A2 l.length c2) l.length (levU b.f l) ∧ l.Pairwise (fun x y => x < y) ∧ (∀ g, g ∈ l ↔ (b.f g).isSome = true)
def RmNo (e : Ending) : Prop := e = .returned (.tuple #[.agg #[.slice none 0 0, .slice none 0 0, .int .i64 0, .int .i64 0, .int .i64 0], .bool false])


set_option maxHeartbeats 4000000 in
set_option maxRecDepth 20000 in
theorem implManifestRead_any (same bad : Bool) (m mg : Nat) (b tail rest : List UInt8) (Ls : List (List Chg)) (w : World) (hgs : Gs w.heap.size w) (hN : b.length ≤ 1000000) (hm : m < 65536)
    (hlev : ∀ g l, (bok0.run Ls.flatten).f g = some l → g < 1000000 ∧ l ≤ 6)
    (h1 : same = false → b = headB m ++ rest ∧ m ≠ mg)
    (h2 : same = true → mg = m ∧ b = headB m ++ (setsB Ls ++ tail) ∧ (∀ j (h : j < Ls.length), (bok0.run (Ls.take j).flatten).oks Ls[j]) ∧ (∀ L, L ∈ Ls → L.length ≤ 1000 ∧ ∀ x, x ∈ L → 1 ≤ x.id ∧ x.id < 1000000 ∧ x.lev ≤ 6) ∧ Ls.length ≤ 100 ∧ ((bad = true ∧ BadT tail b.length) ∨ (bad = false ∧ CutT tail b.length))) :
    Calls Tryd.prog 11 #[.string ⟨b.toArray⟩, .int .u16 (mg : Int)] w fun e w' => ((same = true ∧ bad = false ∧ RmOk (bok0.run Ls.flatten) (8 + (setsB Ls).length) w e w') ∨ ((same = false ∨ bad = true) ∧ RmNo e)) ∧ Ch [] w w' := by
  have hmf : ∀ (fn : Fn) (first cap : Array Value) (w : World), (Instr.makeFunc fn first cap).run Tryd.prog w = .ok (.func fn first cap) w := fun _ _ _ _ => rfl
  have hgs' := Lib.hid hgs
  have h1' := Lib.hid h1
  have h2' := Lib.hid h2
  have hlev' := Lib.hid hlev
  clear hlev h2 h1 hgs
  go_enter_defers Tryd.func11, Tryd.ntmps11
  go_wp2_with (refine wpList_s2b rfl 9 42 5 (.tmp 13) rfl Tryd.underlying9 Tryd.underlying42 Tryd.underlying5 ⟨b.toArray⟩ rfl ?_)
  intro w1 c hb1 hz1 hbs hsc
  have hbs : Bs w1 (w.heap.size + 2) 0 b := by simpa using hbs
  have hsc : b.length ≤ c := by first | exact hsc | simpa using hsc
  have hz1 : w1.heap.size = w.heap.size + 3 := by simpa using hz1
  have hcA : Ch [] w w1 := by
    have h0 : Ch [] w ((w.alloc (.cells #[.slice none 0 0, .slice none 0 0, .int .i64 0, .int .i64 0, .int .i64 0] 37)).alloc (.cells #[.bool false] 4)) := ((Ch.refl [] w).alloc _).alloc _
    exact h0.trans (Ch.of_below (by simpa using hb1))
  have k0 : Bk w1 w.heap.size 37 #[.slice none 0 0, .slice none 0 0, .int .i64 0, .int .i64 0, .int .i64 0] := ((Bk.at_ w _ _ _ rfl).alloc _).below hb1 (by omega)
  have k1 : Bk w1 (w.heap.size + 1) 4 #[.bool false] := (Bk.at_ _ _ _ _ (by simp)).below hb1 (by omega)
  have hzz := zzManifest_any same bad (w.heap.size + 2) b.length c m mg b tail rest Ls w1 hbs rfl hsc (by omega) ((hgs'.out.ch hcA (by simp)).mono hcA.size) hN hm h1'.out h2'.out
  have hsz : (ByteArray.mk b.toArray).size = b.length := by simp [ByteArray.size]
  have hb1' := Lib.hid hb1
  have hbs' := Lib.hid hbs
  have hcA' := Lib.hid hcA
  have k0' := Lib.hid k0
  have k1' := Lib.hid k1
  have hzz' := Lib.hid hzz
  clear hzz k1 k0 hcA hbs hb1
  go_wp2_with fail
  refine hzz'.out.mono ?_
  rintro e w2 ⟨⟨hs, hbd, A, k, cv, tb, rfl, htb⟩ | ⟨hsb, a, rfl⟩, hc2⟩
  case inr =>
    have k0b := k0'.out.ch hc2 (by simp)
    have k1b := k1'.out.ch hc2 (by simp)
    have hcB : Ch [] w w2 := hcA'.out.trans hc2
    have x0 := k0b.cell 0
    have x1 := k0b.cell 1
    have x2 := k0b.cell 2
    have x3 := k0b.cell 3
    have x4 := k0b.cell 4
    have y0 := k0b.free 0
    have y1 := k0b.free 1
    have y2 := k0b.free 2
    have y3 := k0b.free 3
    have y4 := k0b.free 4
    have z0 := k1b.cell 0
    have v0 := k1b.free 0
    simp at x0 x1 x2 x3 x4 z0
    have l0 := k0b.lt
    have l1 := k1b.lt
    have k0b' := Lib.hid k0b
    have k1b' := Lib.hid k1b
    have hcB' := Lib.hid hcB
    have hc2' := Lib.hid hc2
    clear hc2 hcB k1b k0b
    go_wp2_with fail
    obtain ⟨WE, hWE⟩ : ∃ W, (((((((w2.setCell ⟨w.heap.size, 0, none⟩ (.slice none 0 0)).setCell ⟨w.heap.size, 1, none⟩ (.slice none 0 0)).setCell ⟨w.heap.size, 2, none⟩ (.int .i64 0)).setCell ⟨w.heap.size, 3, none⟩ (.int .i64 0)).setCell ⟨w.heap.size, 4, none⟩ (.int .i64 0)).setCell ⟨w.heap.size + 1, 0, none⟩ (.bool false)).alloc (.cells #[.slice none 0 0, .map none, .int .i64 0, .int .i64 0] 57)) = W := ⟨_, rfl⟩
    have hE0 : Bk WE w.heap.size 37 #[.slice none 0 0, .slice none 0 0, .int .i64 0, .int .i64 0, .int .i64 0] := by
      rw [← hWE]
      refine Bk.alloc ?_ _
      refine Bk.far ?_ (by show w.heap.size ≠ w.heap.size + 1; omega) _
      simpa using (((((k0b'.out.set 0 (.slice none 0 0)).set 1 (.slice none 0 0)).set 2 (.int .i64 0)).set 3 (.int .i64 0)).set 4 (.int .i64 0))
    have hE1 : Bk WE (w.heap.size + 1) 4 #[.bool false] := by
      rw [← hWE]
      refine Bk.alloc ?_ _
      have h0 := ((((((k1b'.out.far (p := ⟨w.heap.size, 0, none⟩) (by show w.heap.size + 1 ≠ w.heap.size; omega) (.slice none 0 0)).far (p := ⟨w.heap.size, 1, none⟩) (by show w.heap.size + 1 ≠ w.heap.size; omega) (.slice none 0 0)).far (p := ⟨w.heap.size, 2, none⟩) (by show w.heap.size + 1 ≠ w.heap.size; omega) (.int .i64 0)).far (p := ⟨w.heap.size, 3, none⟩) (by show w.heap.size + 1 ≠ w.heap.size; omega) (.int .i64 0)).far (p := ⟨w.heap.size, 4, none⟩) (by show w.heap.size + 1 ≠ w.heap.size; omega) (.int .i64 0)).set 0 (.bool false))
      simpa using h0
    have hCE : Ch [] w WE := by
      rw [← hWE]
      exact ((((((hcB'.out.setCell (p := ⟨w.heap.size, 0, none⟩) (.inr (Nat.le_refl _)) _).setCell (p := ⟨w.heap.size, 1, none⟩) (.inr (Nat.le_refl _)) _).setCell (p := ⟨w.heap.size, 2, none⟩) (.inr (Nat.le_refl _)) _).setCell (p := ⟨w.heap.size, 3, none⟩) (.inr (Nat.le_refl _)) _).setCell (p := ⟨w.heap.size, 4, none⟩) (.inr (Nat.le_refl _)) _).setCell (p := ⟨w.heap.size + 1, 0, none⟩) (.inr (by show w.heap.size ≤ w.heap.size + 1; omega)) _).alloc _
    rw [hWE]
    clear x0 x1 x2 x3 x4 y0 y1 y2 y3 y4 z0 v0 hWE
    have e0 := hE0.cell 0
    have e1 := hE0.cell 1
    have e2 := hE0.cell 2
    have e3 := hE0.cell 3
    have e4 := hE0.cell 4
    have e5 := hE1.cell 0
    simp at e0 e1 e2 e3 e4 e5
    refine leaves_cons (f := 18) (args := #[.pointer (some ⟨w.heap.size, 0, none⟩), .pointer (some ⟨w.heap.size + 1, 0, none⟩)]) (by simp) (by simp [go_sem]) ?_
    refine (catch_idle _ _ _).mono ?_
    rintro e u' w'' ⟨rfl, rfl, rfl⟩
    refine ⟨.tuple #[.agg #[.slice none 0 0, .slice none 0 0, .int .i64 0, .int .i64 0, .int .i64 0], .bool false], by simp [results, Tryd.results11, go_sem, e0, e1, e2, e3, e4, e5], .inr ⟨hsb, rfl⟩, hCE⟩
  obtain ⟨f, hf⟩ : ∃ f, (bok0.run Ls.flatten).f = f := ⟨_, rfl⟩
  have hlev2 := hlev'.out
  rw [hf] at htb hlev2
  obtain ⟨md, hmd⟩ : ∃ f, (bok0.run Ls.flatten).made = f := ⟨_, rfl⟩
  obtain ⟨dr, hdr⟩ : ∃ f, (bok0.run Ls.flatten).dropped = f := ⟨_, rfl⟩
  obtain ⟨en, hen⟩ : ∃ f, 8 + (setsB Ls).length = f := ⟨_, rfl⟩
  rw [hmd, hdr, hen]
  obtain ⟨W3, hW3⟩ : ∃ W, w2.alloc (.cells #[.slice A k cv, .map (some tb), .int .i64 (md : Int), .int .i64 (dr : Int)] 57) = W := ⟨_, rfl⟩
  have hC3 : Ch [] w W3 := by rw [← hW3]; exact (hcA'.out.trans hc2).alloc _
  have hC23 : Ch [] w2 W3 := by rw [← hW3]; exact (Ch.refl [] w2).alloc _
  have hX3 : Bk W3 w2.heap.size 57 #[.slice A k cv, .map (some tb), .int .i64 (md : Int), .int .i64 (dr : Int)] := by rw [← hW3]; exact Bk.new _ _ _
  have htb3 := htb.ch hC23 (by simp)
  have k03 := (k0'.out.ch hc2 (by simp)).ch hC23 (by simp)
  have k13 := (k1'.out.ch hc2 (by simp)).ch hC23 (by simp)
  have hids := zzIDs_any w2.heap.size tb 1000000 _ _ _ f W3 hX3 htb3 (Nat.le_refl _)
  have hsw2 := hc2.size
  have hsw3 := hC23.size
  have hx3l := hX3.lt
  have hc2' := Lib.hid hc2
  have hC3' := Lib.hid hC3
  have hC23' := Lib.hid hC23
  have hX3' := Lib.hid hX3
  have htb3' := Lib.hid htb3
  have k03' := Lib.hid k03
  have k13' := Lib.hid k13
  have hids' := Lib.hid hids
  have hf' := Lib.hid hf
  have hmd' := Lib.hid hmd
  have hdr' := Lib.hid hdr
  have hen' := Lib.hid hen
  have htb' := Lib.hid htb
  have hlev2' := Lib.hid hlev2
  clear hlev2 htb hen hdr hmd hf hids k13 k03 htb3 hX3 hC23 hC3 hc2
  go_wp2_with fail
  try rw [hW3]
  refine hids'.out.mono ?_
  rintro e w4 ⟨A4, c4, l, rfl, hl1, hl2, hl3, hc4⟩
  obtain ⟨n, hn⟩ : ∃ n, l.length = n := ⟨_, rfl⟩
  rw [hn]
  have hn6 : n ≤ 1000000 := by
    have h0 := List.Nodup.length_le_of_subset (l₁ := l) (l₂ := List.range 1000000) (hl2.imp fun h => Nat.ne_of_lt h) (fun g hg => by
      obtain ⟨v, hv⟩ := Option.isSome_iff_exists.1 ((hl3 g).1 hg)
      exact List.mem_range.2 (hlev2'.out g v hv).1)
    rw [List.length_range] at h0
    omega
  have hC4 := hC3'.out.trans hc4
  have hX4 := hX3'.out.ch hc4 (by simp)
  have htb4 := htb3'.out.ch hc4 (by simp)
  have k04 := k03'.out.ch hc4 (by simp)
  have k14 := k13'.out.ch hc4 (by simp)
  have hsw4 := hc4.size
  have r10 : w4.ownsRow w4.heap.size 45 1 (.slice none 0 0) 0 (idsU (l.take 0)) := World.ownsRow_nil w4 w4.heap.size 45 1
  have r20 : w4.ownsRow w4.heap.size 3 1 (.slice none 0 0) 0 (levU f (l.take 0)) := World.ownsRow_nil w4 w4.heap.size 3 1
  have hl1' := Lib.hid hl1
  have hl2' := Lib.hid hl2
  have hl3' := Lib.hid hl3
  have hc4' := Lib.hid hc4
  have hn' := Lib.hid hn
  have hC4' := Lib.hid hC4
  have hX4' := Lib.hid hX4
  have htb4' := Lib.hid htb4
  have k04' := Lib.hid k04
  have k14' := Lib.hid k14
  have r10' := Lib.hid r10
  have r20' := Lib.hid r20
  clear r20 r10 k14 k04 htb4 hX4 hC4 hn hc4 hl3 hl2 hl1
  clear hW3
  obtain ⟨B4, hB4⟩ : ∃ B, w4.heap.size = B := ⟨_, rfl⟩
  rw [hB4] at hsw4 r10' r20'
  have hB4' := Lib.hid hB4
  clear hB4
  go_wp2_with fail
  go_loopw [10, 25] (fun s10 s25 wx => ∃ j : Nat, j ≤ n ∧ s25 = .int .i64 (j : Int) ∧ ∃ A1 c1 A2 c2, Bk wx w.heap.size 37 #[.slice A1 j c1, .slice A2 j c2, .int .i64 0, .int .i64 0, .int .i64 0] ∧ wx.ownsRow B4 45 1 (.slice A1 j c1) j (idsU (l.take j)) ∧ wx.ownsRow B4 3 1 (.slice A2 j c2) j (levU f (l.take j)) ∧ Ch [w.heap.size] w4 wx) (fun _ s25 _ => n - (intOf s25).toNat)
  case atStart => exact ⟨0, Nat.zero_le _, rfl, none, 0, none, 0, k04'.out, r10'.out, r20'.out, Ch.refl _ _⟩
  case round =>
    obtain ⟨j, hjn, rfl, A1, c1, A2, c2, hm, hr1, hr2, hCr⟩ := hrel
    by_cases hlt : j < n
    · have hltI : (j : Int) < (n : Int) := by omega
      have hj0 : (0 : Int) ≤ (j : Int) := by omega
      have hjl : j < l.length := by rw [hn'.out]; exact hlt
      obtain ⟨g4, rfl, hg4, ci⟩ := hl1'.out j hjl
      have hgl4 := block_lt_of_cell ci
      have ci2 := (hCr.cell j hgl4 (by simp; omega)).trans ci
      obtain ⟨g, hg⟩ : ∃ g, l[j] = g := ⟨_, rfl⟩
      have hmem : (f g).isSome = true := by rw [← hg]; exact (hl3'.out _).1 (List.getElem_mem _)
      obtain ⟨lv, hlv⟩ := Option.isSome_iff_exists.1 hmem
      have hbl := hlev2'.out g lv hlv
      rw [hg] at ci2
      clear ci
      have hsnoc : l.take (j + 1) = l.take j ++ [g] := by rw [List.take_add_one, List.getElem?_eq_getElem hjl, hg]; rfl
      have htbr := htb4'.out.ch hCr (by simp; exact fun h => htb4'.out.noTy _ (h ▸ k04'.out.ty))
      have hXr := hX4'.out.ch hCr (by simp; omega)
      have b0 := hm.cell 0
      have b1 := hm.cell 1
      have x1 := hXr.cell 1
      simp at b0 b1 x1
      have b0a : ∀ o, (wr.alloc o).cell? ⟨w.heap.size, 0, none⟩ = some (.slice A1 j c1) := fun o => (hm.alloc o).cell 0
      have b1a : ∀ o, (wr.alloc o).cell? ⟨w.heap.size, 1, none⟩ = some (.slice A2 j c2) := fun o => (hm.alloc o).cell 1
      have b0aa : ∀ o o2, ((wr.alloc o).alloc o2).cell? ⟨w.heap.size, 0, none⟩ = some (.slice A1 j c1) := fun o o2 => ((hm.alloc o).alloc o2).cell 0
      have b1aa : ∀ o o2, ((wr.alloc o).alloc o2).cell? ⟨w.heap.size, 1, none⟩ = some (.slice A2 j c2) := fun o o2 => ((hm.alloc o).alloc o2).cell 1
      have x1a : ∀ o, (wr.alloc o).cell? ⟨w2.heap.size, 1, none⟩ = some (.map (some tb)) := fun o => (hXr.alloc o).cell 1
      have hlk : ∀ W, Ch [] wr W → (Instr.lookup 55 (.map (some tb)) (.int .u64 (g : Int)) false).run Tryd.prog W = .ok (.agg #[.int .u8 (lv : Int), .int .u64 0, .int .u32 0]) W := fun W hC => by
        have h0 := (htbr.ch hC (by simp)).look (g := g) (by omega)
        rw [hlv] at h0
        exact h0
      have hlA := hlk _ ((Ch.refl [] wr).drew)
      have hlB : ∀ o, (Instr.lookup 55 (.map (some tb)) (.int .u64 (g : Int)) false).run Tryd.prog (wr.alloc o).drew = .ok (.agg #[.int .u8 (lv : Int), .int .u64 0, .int .u32 0]) (wr.alloc o).drew := fun o => hlk _ (((Ch.refl [] wr).alloc o).drew)
      have hlC : ∀ o, (Instr.lookup 55 (.map (some tb)) (.int .u64 (g : Int)) false).run Tryd.prog (wr.drew.alloc o) = .ok (.agg #[.int .u8 (lv : Int), .int .u64 0, .int .u32 0]) (wr.drew.alloc o) := fun o => hlk _ (((Ch.refl [] wr).drew).alloc o)
      have hfld : ∀ W, (Instr.field 65 (.agg #[.int .u8 (lv : Int), .int .u64 0, .int .u32 0]) 0).run Tryd.prog W = .ok (.int .u8 (lv : Int)) W := fun _ => by kernel_rfl
      have w8 : IntKind.i64.wrap (lv : Int) = (lv : Int) := IntWalk.i64_in _ (by omega)
      have w1j : IntKind.i64.wrap ((j : Int) + 1) = ((j + 1 : Nat) : Int) := (IntWalk.i64_in _ (by omega)).trans (by omega)
      have hn1 : w.heap.size ∉ [] ++ (Value.slice A1 j c1).ownBlock.toList := by simpa using ty_notin hr1 hm.ty (by decide)
      have hn1x : w2.heap.size ∉ [] ++ (Value.slice A1 j c1).ownBlock.toList := by simpa using ty_notin hr1 hXr.ty (by decide)
      have hn1t : tb ∉ [] ++ (Value.slice A1 j c1).ownBlock.toList := by
        simp
        exact fun h => htbr.noTy _ (own_ty hr1 (by simpa using h))
      have hn2 : ∀ g, (Value.slice A2 j c2).ownBlock = some g → g ∉ [] ++ (Value.slice A1 j c1).ownBlock.toList := fun g hg => by simpa using ty_notin hr1 (own_ty hr2 hg) (by decide)
      have hnm2 : w.heap.size ∉ ([] ++ (Value.slice A1 j c1).ownBlock.toList) ++ (Value.slice A2 j c2).ownBlock.toList := by
        intro hmm
        rcases List.mem_append.1 hmm with h0 | h0
        · exact hn1 h0
        · exact ty_notin hr2 hm.ty (by decide) h0
      have hbase : B4 ≤ wr.heap.size := by rw [← hB4'.out]; exact hCr.size
      have one1 : ∀ u ∈ [Value.int .u64 (g : Int)], u.oneCell' = true := by intro u hu; simp at hu; subst hu; rfl
      have one2 : ∀ u ∈ [Value.int .i64 (lv : Int)], u.oneCell' = true := by intro u hu; simp at hu; subst hu; rfl
      have e8 : idsU (l.take j) ++ [.int .u64 (g : Int)] = idsU (l.take (j + 1)) := by rw [hsnoc]; simp [idsU]
      have e9 : levU f (l.take j) ++ [.int .i64 (lv : Int)] = levU f (l.take (j + 1)) := by rw [hsnoc]; simp [levU, hlv]
      have lt1 := hr1.lt
      have lt2 := hr2.lt
      obtain ⟨SS, hSS⟩ : ∃ S, ([] ++ (Value.slice A1 j c1).ownBlock.toList) ++ (Value.slice A2 j c2).ownBlock.toList = S := ⟨_, rfl⟩
      have hSS1 : ∀ k, k ∈ [] ++ (Value.slice A1 j c1).ownBlock.toList → k ∈ SS ∨ wr.heap.size ≤ k := fun k hk => .inl (by rw [← hSS]; exact List.mem_append_left _ hk)
      have hSS2 : ∀ k, k ∈ ([] ++ (Value.slice A1 j c1).ownBlock.toList) ++ (Value.slice A2 j c2).ownBlock.toList → k ∈ SS ∨ wr.heap.size ≤ k := fun k hk => .inl (by rw [← hSS]; exact hk)
      have hkeep : ∀ W', Ch SS wr W' → (W'.cell? ⟨w.heap.size, 0, none⟩ = some (.slice A1 j c1) ∧ W'.cell? ⟨w.heap.size, 1, none⟩ = some (.slice A2 j c2)) ∧ W'.cell? ⟨w2.heap.size, 1, none⟩ = some (.map (some tb)) ∧ (Instr.lookup 55 (.map (some tb)) (.int .u64 (g : Int)) false).run Tryd.prog W' = .ok (.agg #[.int .u8 (lv : Int), .int .u64 0, .int .u32 0]) W' := fun W' hC => by
        have hmW := hm.ch hC (by rw [← hSS]; exact hnm2)
        refine ⟨⟨hmW.cell 0, hmW.cell 1⟩, ?_, ?_⟩
        · have h0 := (hXr.ch hC (by
            rw [← hSS]
            intro hk
            rcases List.mem_append.1 hk with hk | hk
            · exact hn1x hk
            · exact ty_notin hr2 hXr.ty (by decide) hk)).cell 1
          simpa using h0
        · have h0 := (htbr.ch hC (by
            rw [← hSS]
            intro hk
            rcases List.mem_append.1 hk with hk | hk
            · exact hn1t hk
            · exact htbr.noTy _ (own_ty hr2 (by simpa using hk)))).look (g := g) (by omega)
          rw [hlv] at h0
          exact h0
      have hkeep2 : ∀ W', Ch (w.heap.size :: SS) wr W' → W'.cell? ⟨w2.heap.size, 1, none⟩ = some (.map (some tb)) ∧ (Instr.lookup 55 (.map (some tb)) (.int .u64 (g : Int)) false).run Tryd.prog W' = .ok (.agg #[.int .u8 (lv : Int), .int .u64 0, .int .u32 0]) W' := fun W' hC => by
        refine ⟨?_, ?_⟩
        · have h0 := (hXr.ch hC (by
            intro hk
            rcases List.mem_cons.1 hk with hk | hk
            · exact hXr.ty.ne hm.ty (by decide) hk
            · rw [← hSS] at hk
              rcases List.mem_append.1 hk with hk | hk
              · exact hn1x hk
              · exact ty_notin hr2 hXr.ty (by decide) hk)).cell 1
          simpa using h0
        · have h0 := (htbr.ch hC (by
            intro hk
            rcases List.mem_cons.1 hk with hk | hk
            · exact htbr.noTy _ (hk ▸ hm.ty)
            · rw [← hSS] at hk
              rcases List.mem_append.1 hk with hk | hk
              · exact hn1t hk
              · exact htbr.noTy _ (own_ty hr2 (by simpa using hk)))).look (g := g) (by omega)
          rw [hlv] at h0
          exact h0
      clear hlA hlB hlC
      have hkeep' := Lib.hid hkeep
      have hkeep2' := Lib.hid hkeep2
      have hSS' := Lib.hid hSS
      clear hSS hkeep2 hkeep
      have hm' := Lib.hid hm
      have hr1' := Lib.hid hr1
      have hr2' := Lib.hid hr2
      have hCr' := Lib.hid hCr
      have hg' := Lib.hid hg
      have hmem' := Lib.hid hmem
      have hlv' := Lib.hid hlv
      have hbl' := Lib.hid hbl
      have hsnoc' := Lib.hid hsnoc
      have htbr' := Lib.hid htbr
      have hXr' := Lib.hid hXr
      have hlk' := Lib.hid hlk
      have hn1' := Lib.hid hn1
      have hn1x' := Lib.hid hn1x
      have hn1t' := Lib.hid hn1t
      have hn2' := Lib.hid hn2
      have hnm2' := Lib.hid hnm2
      have hbase' := Lib.hid hbase
      have one1' := Lib.hid one1
      have one2' := Lib.hid one2
      have e8' := Lib.hid e8
      have e9' := Lib.hid e9
      have lt1' := Lib.hid lt1
      have lt2' := Lib.hid lt2
      clear lt2 lt1 e9 e8 one2 one1 hbase hnm2 hn2 hn1t hn1x hn1 hlk hXr htbr hsnoc hbl hlv hmem hg hCr hr2 hr1 hm
      go_upto_region 8 with fail
      clear b0 b1 x1 b0a b1a b0aa b1aa x1a
      refine wp_region_dem (fun W' => W'.cell? ⟨w.heap.size, 0, none⟩ = some (.slice A1 j c1) ∧ W'.cell? ⟨w.heap.size, 1, none⟩ = some (.slice A2 j c2)) (fun W' => W'.cell? ⟨w2.heap.size, 1, none⟩ = some (.map (some tb)) ∧ (Instr.lookup 55 (.map (some tb)) (.int .u64 (g : Int)) false).run Tryd.prog W' = .ok (.agg #[.int .u8 (lv : Int), .int .u64 0, .int .u32 0]) W') 16 (by kernel_rfl) (hkeep'.out _ ((Ch.refl SS wr).drew)).1 (hkeep'.out _ ((Ch.refl SS wr).drew)).2 ?_
      intro hHeld
      refine wpAnyD_take (v := ?vA0) (i := 0) false (some 29) (by simp only [List.getElem?_toArray, List.getElem?_cons_zero]; rfl) rfl (by kernel_rfl) (by kernel_rfl) (by kernel_rfl) (by kernel_rfl) (by kernel_rfl) (by kernel_rfl) (fun _ _ _ h => h) (by rfl) hHeld ?hyA0 ?restA0
      case hyA0 =>
        rintro wz ⟨hz1, z3, z4⟩
        clear hz1
        first
          | (go_simp; done)
          | (go_simp; with_reducible rfl)
      clear hHeld
      intro hHeld
      try simp only [Act.put, List.setIfInBounds_toArray, List.set_cons_zero, List.set_cons_succ]
      refine wpAnyD_take (v := ?vA2) (i := 2) false (some 31) (by simp only [List.getElem?_toArray, List.getElem?_cons_succ, List.getElem?_cons_zero]; rfl) rfl (by kernel_rfl) (by kernel_rfl) (by kernel_rfl) (by kernel_rfl) (by kernel_rfl) (by kernel_rfl) (fun _ _ _ h => h) (by rfl) hHeld ?hyA2 ?restA2
      case hyA2 =>
        rintro wz ⟨hz1, z3, z4⟩
        try obtain ⟨z1, z2⟩ := hz1 rfl
        clear hz1
        first
          | (go_simp; done)
          | (go_simp; with_reducible rfl)
      clear hHeld
      intro hHeld
      try simp only [Act.put, List.setIfInBounds_toArray, List.set_cons_zero, List.set_cons_succ]
      refine wpAnyD_take (v := ?vA5) (i := 5) false (some 34) (by simp only [List.getElem?_toArray, List.getElem?_cons_succ, List.getElem?_cons_zero]; rfl) rfl (by kernel_rfl) (by kernel_rfl) (by kernel_rfl) (by kernel_rfl) (by kernel_rfl) (by kernel_rfl) (fun _ _ _ h => h) (by rfl) hHeld ?hyA5 ?restA5
      case hyA5 =>
        rintro wz ⟨hz1, z3, z4⟩
        try obtain ⟨z1, z2⟩ := hz1 rfl
        clear hz1
        first
          | (go_simp; done)
          | (go_simp; with_reducible rfl)
      clear hHeld
      intro hHeld
      try simp only [Act.put, List.setIfInBounds_toArray, List.set_cons_zero, List.set_cons_succ]
      refine wpAnyD_take (v := ?vA7) (i := 7) false (some 36) (by simp only [List.getElem?_toArray, List.getElem?_cons_succ, List.getElem?_cons_zero]; rfl) rfl (by kernel_rfl) (by kernel_rfl) (by kernel_rfl) (by kernel_rfl) (by kernel_rfl) (by kernel_rfl) (fun _ _ _ h => h) (by rfl) hHeld ?hyA7 ?restA7
      case hyA7 =>
        rintro wz ⟨hz1, z3, z4⟩
        try obtain ⟨z1, z2⟩ := hz1 rfl
        clear hz1
        first
          | (go_simp; done)
          | (go_simp; with_reducible rfl)
      clear hHeld
      intro hHeld
      try simp only [Act.put, List.setIfInBounds_toArray, List.set_cons_zero, List.set_cons_succ]
      refine wpAnyD_take (v := ?vA9) (i := 9) false (some 38) (by simp only [List.getElem?_toArray, List.getElem?_cons_succ, List.getElem?_cons_zero]; rfl) rfl (by kernel_rfl) (by kernel_rfl) (by kernel_rfl) (by kernel_rfl) (by kernel_rfl) (by kernel_rfl) (fun _ _ _ h => h) (by rfl) hHeld ?hyA9 ?restA9
      case hyA9 =>
        rintro wz ⟨hz1, z3, z4⟩
        try obtain ⟨z1, z2⟩ := hz1 rfl
        clear hz1
        first
          | (go_simp; done)
          | (go_simp; with_reducible rfl)
      clear hHeld
      intro hHeld
      try simp only [Act.put, List.setIfInBounds_toArray, List.set_cons_zero, List.set_cons_succ]
      refine wpAnyD_take (v := ?vA1) (i := 1) true (some 30) (by simp only [List.getElem?_toArray, List.getElem?_cons_succ, List.getElem?_cons_zero]; rfl) rfl (by kernel_rfl) (by kernel_rfl) (by kernel_rfl) (by kernel_rfl) (by kernel_rfl) (by kernel_rfl) (fun _ _ _ h => h) (by rfl) hHeld ?hyA1 ?restA1
      case hyA1 =>
        rintro wz ⟨hz1, z3, z4⟩
        try obtain ⟨z1, z2⟩ := hz1 rfl
        clear hz1
        first
          | (go_simp; done)
          | (go_simp; with_reducible rfl)
      clear hHeld
      intro hHeld
      try simp only [Act.put, List.setIfInBounds_toArray, List.set_cons_zero, List.set_cons_succ]
      refine wpAnyD_take (v := ?vA6) (i := 6) true (some 35) (by simp only [List.getElem?_toArray, List.getElem?_cons_succ, List.getElem?_cons_zero]; rfl) rfl (by kernel_rfl) (by kernel_rfl) (by kernel_rfl) (by kernel_rfl) (by kernel_rfl) (by kernel_rfl) (fun _ _ _ h => h) (by rfl) hHeld ?hyA6 ?restA6
      case hyA6 =>
        rintro wz ⟨hz1, z3, z4⟩
        try obtain ⟨z1, z2⟩ := hz1 rfl
        clear hz1
        first
          | (go_simp; done)
          | (go_simp; with_reducible rfl)
      clear hHeld
      intro hHeld
      try simp only [Act.put, List.setIfInBounds_toArray, List.set_cons_zero, List.set_cons_succ]
      refine wpAnyD_take (v := ?vA8) (i := 8) false (some 37) (by simp only [List.getElem?_toArray, List.getElem?_cons_succ, List.getElem?_cons_zero]; rfl) rfl (by kernel_rfl) (by kernel_rfl) (by kernel_rfl) (by kernel_rfl) (by kernel_rfl) (by kernel_rfl) (fun _ _ _ h => h) (by rfl) hHeld ?hyA8 ?restA8
      case hyA8 =>
        rintro wz ⟨hz1, z3, z4⟩
        try obtain ⟨z1, z2⟩ := hz1 rfl
        clear hz1
        first
          | (go_simp; done)
          | (go_simp; with_reducible rfl)
      clear hHeld
      intro hHeld
      try simp only [Act.put, List.setIfInBounds_toArray, List.set_cons_zero, List.set_cons_succ]
      refine wpAnyD_take (v := ?vA10) (i := 10) false (some 39) (by simp only [List.getElem?_toArray, List.getElem?_cons_succ, List.getElem?_cons_zero]; rfl) rfl (by kernel_rfl) (by kernel_rfl) (by kernel_rfl) (by kernel_rfl) (by kernel_rfl) (by kernel_rfl) (fun _ _ _ h => h) (by rfl) hHeld ?hyA10 ?restA10
      case hyA10 =>
        rintro wz ⟨hz1, z3, z4⟩
        try obtain ⟨z1, z2⟩ := hz1 rfl
        clear hz1
        first
          | (go_simp; done)
          | (go_simp; with_reducible rfl)
      clear hHeld
      intro hHeld
      try simp only [Act.put, List.setIfInBounds_toArray, List.set_cons_zero, List.set_cons_succ]
      refine wpAnyD_take (v := ?vA11) (i := 11) false (some 40) (by simp only [List.getElem?_toArray, List.getElem?_cons_succ, List.getElem?_cons_zero]; rfl) rfl (by kernel_rfl) (by kernel_rfl) (by kernel_rfl) (by kernel_rfl) (by kernel_rfl) (by kernel_rfl) (fun _ _ _ h => h) (by rfl) hHeld ?hyA11 ?restA11
      case hyA11 =>
        rintro wz ⟨hz1, z3, z4⟩
        try obtain ⟨z1, z2⟩ := hz1 rfl
        clear hz1
        first
          | (go_simp; done)
          | (go_simp; with_reducible rfl)
      clear hHeld
      intro hHeld
      try simp only [Act.put, List.setIfInBounds_toArray, List.set_cons_zero, List.set_cons_succ]
      refine wpAnyD_take (v := ?vA12) (i := 12) false (some 41) (by simp only [List.getElem?_toArray, List.getElem?_cons_succ, List.getElem?_cons_zero]; rfl) rfl (by kernel_rfl) (by kernel_rfl) (by kernel_rfl) (by kernel_rfl) (by kernel_rfl) (by kernel_rfl) (fun _ _ _ h => h) (by rfl) hHeld ?hyA12 ?restA12
      case hyA12 =>
        rintro wz ⟨hz1, z3, z4⟩
        try obtain ⟨z1, z2⟩ := hz1 rfl
        clear hz1
        first
          | (go_simp; done)
          | (go_simp; with_reducible rfl)
      clear hHeld
      intro hHeld
      try simp only [Act.put, List.setIfInBounds_toArray, List.set_cons_zero, List.set_cons_succ]
      refine wpAnyD_ready (rs := [3, 13]) (by kernel_rfl) (by simp) ?_
      refine AllReadyD.cons (by simp only [List.getElem?_toArray, List.getElem?_cons_succ, List.getElem?_cons_zero]; rfl) (fun K hK => ?_) (AllReadyD.cons (by simp only [List.getElem?_toArray, List.getElem?_cons_succ, List.getElem?_cons_zero]; rfl) (fun K hK => ?_) AllReadyD.nil)
      ·
        go_simp
        refine hK.out _ _ ⟨fun _ => (hkeep'.out _ (((Ch.refl SS wr).alloc _).drew)).1, (hkeep'.out _ (((Ch.refl SS wr).alloc _).drew)).2⟩ ?_
        clear hK K hHeld
        intro hHeld
        refine wpAnyD_ready (rs := [4, 13]) (by kernel_rfl) (by simp) ?_
        refine AllReadyD.cons (by simp only [List.getElem?_toArray, List.getElem?_cons_succ, List.getElem?_cons_zero]; rfl) (fun K hK => ?_) (AllReadyD.cons (by simp only [List.getElem?_toArray, List.getElem?_cons_succ, List.getElem?_cons_zero]; rfl) (fun K hK => ?_) AllReadyD.nil)
        ·
          refine step_append1 (W0 := wr) rfl (.tmp 30) (.tmp 32) 34 rfl B4 45 1 Tryd.underlying34 (by kernel_rfl) (by omega) (.slice A1 j c1) j (idsU (l.take j)) rfl [] (((Ch.refl [] wr).alloc _).drew) (fun _ _ hm => by cases hm) hr1'.out _ _ [.int .u64 (g : Int)] rfl rfl ((Bk.at_ _ _ _ _ (by simp)).drew) one1'.out (by omega) hbase'.out ?_
          intro g2 cap2 w22 hown22 hC22 hCw22 hbk22 hro22
          have hC22b := hC22.mono hSS1
          have hown22' := Lib.hid hown22
          have hC22' := Lib.hid hC22
          have hbk22' := Lib.hid hbk22
          clear hown22 hC22 hCw22 hbk22 hro22
          try simp only [Act.put, List.setIfInBounds_toArray, List.set_cons_zero, List.set_cons_succ]
          refine hK.out _ _ ⟨fun _ => (hkeep'.out _ (hC22b)).1, (hkeep'.out _ (hC22b)).2⟩ ?_
          clear hK K hHeld
          intro hHeld
          refine wpAnyD_take (v := ?vB15) (i := 15) false (some 44) (by simp only [List.getElem?_toArray, List.getElem?_cons_succ, List.getElem?_cons_zero]; rfl) rfl (by kernel_rfl) (by kernel_rfl) (by kernel_rfl) (by kernel_rfl) (by kernel_rfl) (by kernel_rfl) (fun _ _ _ h => h) (by rfl) hHeld ?hyB15 ?restB15
          case hyB15 =>
            rintro wz ⟨hz1, z3, z4⟩
            try obtain ⟨z1, z2⟩ := hz1 rfl
            clear hz1
            first
              | (go_simp; done)
              | (go_simp; with_reducible rfl)
          clear hHeld
          intro hHeld
          try simp only [Act.put, List.setIfInBounds_toArray, List.set_cons_zero, List.set_cons_succ]
          refine wpAnyD_ready (rs := [13]) (by kernel_rfl) (by simp) ?_
          refine AllReadyD.cons (by simp only [List.getElem?_toArray, List.getElem?_cons_succ, List.getElem?_cons_zero]; rfl) (fun K hK => ?_) AllReadyD.nil
          go_simp
          refine hK.out _ _ ⟨fun _ => (hkeep'.out _ (hC22b.alloc _)).1, (hkeep'.out _ (hC22b.alloc _)).2⟩ ?_
          clear hK K hHeld
          intro hHeld
          refine wpAnyD_ready (rs := [14]) (by kernel_rfl) (by simp) ?_
          refine AllReadyD.cons (by simp only [List.getElem?_toArray, List.getElem?_cons_succ, List.getElem?_cons_zero]; rfl) (fun K hK => ?_) AllReadyD.nil
          refine step_append1 (W0 := wr) rfl (.tmp 35) (.tmp 42) 35 rfl B4 3 1 Tryd.underlying35 (by kernel_rfl) (by omega) (.slice A2 j c2) j (levU f (l.take j)) rfl ([] ++ (Value.slice A1 j c1).ownBlock.toList) (hC22'.out.alloc _) hn2'.out hr2'.out _ _ [.int .i64 (lv : Int)] rfl rfl (Bk.at_ _ _ _ _ (by simp)) one2'.out (by omega) hbase'.out ?_
          intro g3 cap3 w33 hown33 hC33 hCw33 hbk33 hro33
          have hr8 := hro33 _ _ _ _ _ _ (World.ownsRow.alloc hown22'.out _) (by decide)
          have hm33 := hm'.out.ch hC33 hnm2'.out
          have b0d := hm33.cell 0
          have b1d := hm33.cell 1
          have q0d := hm33.free 0
          have q1d := hm33.free 1
          simp at b0d b1d
          have hC33b := hC33.mono hSS2
          have hm33' := Lib.hid hm33
          have hr8' := Lib.hid hr8
          have hown33' := Lib.hid hown33
          have hC33' := Lib.hid hC33
          clear hr8 hown33 hC33 hCw33 hbk33 hro33 hm33
          try simp only [Act.put, List.setIfInBounds_toArray, List.set_cons_zero, List.set_cons_succ]
          refine hK.out _ _ ⟨fun _ => (hkeep'.out _ (hC33b)).1, (hkeep'.out _ (hC33b)).2⟩ ?_
          clear hK K hHeld
          intro hHeld
          refine wpAnyD_ready (rs := [16]) (by kernel_rfl) (by simp) ?_
          refine AllReadyD.cons (by simp only [List.getElem?_toArray, List.getElem?_cons_succ, List.getElem?_cons_zero]; rfl) (fun K hK => ?_) AllReadyD.nil
          go_simp
          have hC34b : Ch (w.heap.size :: SS) wr (w33.setCell ⟨w.heap.size, 0, none⟩ (.slice (some ⟨g2, 0, none⟩) (j + 1) cap2)) := (hC33b.mono (fun k hk => .inl (List.mem_cons_of_mem _ hk))).setCell (p := ⟨w.heap.size, 0, none⟩) (.inl (by simp)) _
          refine hK.out _ _ ⟨fun h => absurd h (by decide), hkeep2'.out _ hC34b⟩ ?_
          clear hK K hHeld
          intro hHeld
          try simp only [Act.put, List.setIfInBounds_toArray, List.set_cons_zero, List.set_cons_succ]
          refine wpAnyD_take (v := ?vE17T1) (i := 17) false (some 45) (by simp only [List.getElem?_toArray, List.getElem?_cons_succ, List.getElem?_cons_zero]; rfl) rfl (by kernel_rfl) (by kernel_rfl) (by kernel_rfl) (by kernel_rfl) (by kernel_rfl) (by kernel_rfl) (fun _ _ _ h => h) (by rfl) hHeld ?hyE17T1 ?restE17T1
          case hyE17T1 =>
            rintro wz ⟨hz1, z3, z4⟩
            try obtain ⟨z1, z2⟩ := hz1 rfl
            clear hz1
            first
              | (go_simp; done)
              | (go_simp; with_reducible rfl)
          clear hHeld
          intro hHeld
          try simp only [Act.put, List.setIfInBounds_toArray, List.set_cons_zero, List.set_cons_succ]
          refine wpAnyD_ready (rs := [18]) (by kernel_rfl) (by simp) ?_
          refine AllReadyD.cons (by simp only [List.getElem?_toArray, List.getElem?_cons_succ, List.getElem?_cons_zero]; rfl) (fun K hK => ?_) AllReadyD.nil
          go_simp
          refine hK.out _ _ ⟨fun h => absurd h (by decide), hkeep2'.out _ (hC34b.setCell (p := ⟨w.heap.size, 1, none⟩) (.inl (by simp)) _)⟩ ?_
          clear hK K hHeld
          intro hHeld
          try simp only [Act.put, List.setIfInBounds_toArray, List.set_cons_zero, List.set_cons_succ]
          refine wpAnyD_done (by kernel_rfl) ?_ _
          refine NoPanic.normal ?_
          have hmF := (hm33'.out.set 0 (.slice (some ⟨g2, 0, none⟩) (j + 1) cap2)).set 1 (.slice (some ⟨g3, 0, none⟩) (j + 1) cap3)
          simp at hmF
          have hCF : Ch [w.heap.size] w33 ((w33.setCell ⟨w.heap.size, 0, none⟩ (.slice (some ⟨g2, 0, none⟩) (j + 1) cap2)).setCell ⟨w.heap.size, 1, none⟩ (.slice (some ⟨g3, 0, none⟩) (j + 1) cap3)) := ((Ch.refl [w.heap.size] w33).setCell (p := ⟨w.heap.size, 0, none⟩) (.inl (by simp)) _).setCell (p := ⟨w.heap.size, 1, none⟩) (.inl (by simp)) _
          clear hHeld b0d b1d q0d q1d
          have hmF' := Lib.hid hmF
          have hCF' := Lib.hid hCF
          have hC34b' := Lib.hid hC34b
          clear hC34b hCF hmF
          go_wp2_with fail
          go_roundw
          case rel =>
            refine ⟨j + 1, by omega, by go_num, _, _, _, _, hmF'.out, ?_, ?_, ?_⟩
            · rw [← e8'.out]
              exact own_ch hr8'.out hCF'.out (fun b hb => by simpa using (own_ty hr8'.out hb).ne hm33'.out.ty (by decide))
            · rw [← e9'.out]
              exact own_ch hown33'.out hCF'.out (fun b hb => by simpa using (own_ty hown33'.out hb).ne hm33'.out.ty (by decide))
            · refine (hCr'.out.trans' hC33'.out (fun k hk => .inr ?_)).trans hCF'.out
              rw [hB4'.out]
              rcases List.mem_append.1 hk with h0 | h0
              · exact (lt1'.out k (by simpa using h0)).1
              · exact (lt2'.out k (by simpa using h0)).1
          case measure => simp [intOf]; omega
        ·
          go_simp
          refine hK.out _ _ ⟨fun _ => (hkeep'.out _ ((((Ch.refl SS wr).alloc _).alloc _).drew)).1, (hkeep'.out _ ((((Ch.refl SS wr).alloc _).alloc _).drew)).2⟩ ?_
          clear hK K hHeld
          intro hHeld
          refine wpAnyD_ready (rs := [4]) (by kernel_rfl) (by simp) ?_
          refine AllReadyD.cons (by simp only [List.getElem?_toArray, List.getElem?_cons_succ, List.getElem?_cons_zero]; rfl) (fun K hK => ?_) AllReadyD.nil
          refine step_append1 (W0 := wr) rfl (.tmp 30) (.tmp 32) 34 rfl B4 45 1 Tryd.underlying34 (by kernel_rfl) (by omega) (.slice A1 j c1) j (idsU (l.take j)) rfl [] ((((Ch.refl [] wr).alloc _).alloc _).drew) (fun _ _ hm => by cases hm) hr1'.out _ _ [.int .u64 (g : Int)] rfl rfl (((Bk.at_ _ _ _ _ (by simp)).alloc _).drew) one1'.out (by omega) hbase'.out ?_
          intro g2 cap2 w22 hown22 hC22 hCw22 hbk22 hro22
          have hC22b := hC22.mono hSS1
          have hown22' := Lib.hid hown22
          have hC22' := Lib.hid hC22
          have hbk22' := Lib.hid hbk22
          clear hown22 hC22 hCw22 hbk22 hro22
          try simp only [Act.put, List.setIfInBounds_toArray, List.set_cons_zero, List.set_cons_succ]
          refine hK.out _ _ ⟨fun _ => (hkeep'.out _ (hC22b)).1, (hkeep'.out _ (hC22b)).2⟩ ?_
          clear hK K hHeld
          intro hHeld
          refine wpAnyD_take (v := ?vC15) (i := 15) false (some 44) (by simp only [List.getElem?_toArray, List.getElem?_cons_succ, List.getElem?_cons_zero]; rfl) rfl (by kernel_rfl) (by kernel_rfl) (by kernel_rfl) (by kernel_rfl) (by kernel_rfl) (by kernel_rfl) (fun _ _ _ h => h) (by rfl) hHeld ?hyC15 ?restC15
          case hyC15 =>
            rintro wz ⟨hz1, z3, z4⟩
            try obtain ⟨z1, z2⟩ := hz1 rfl
            clear hz1
            first
              | (go_simp; done)
              | (go_simp; with_reducible rfl)
          clear hHeld
          intro hHeld
          try simp only [Act.put, List.setIfInBounds_toArray, List.set_cons_zero, List.set_cons_succ]
          refine wpAnyD_ready (rs := [14]) (by kernel_rfl) (by simp) ?_
          refine AllReadyD.cons (by simp only [List.getElem?_toArray, List.getElem?_cons_succ, List.getElem?_cons_zero]; rfl) (fun K hK => ?_) AllReadyD.nil
          refine step_append1 (W0 := wr) rfl (.tmp 35) (.tmp 42) 35 rfl B4 3 1 Tryd.underlying35 (by kernel_rfl) (by omega) (.slice A2 j c2) j (levU f (l.take j)) rfl ([] ++ (Value.slice A1 j c1).ownBlock.toList) (hC22'.out) hn2'.out hr2'.out _ _ [.int .i64 (lv : Int)] rfl rfl (hbk22'.out _ _ _ (Bk.at_ _ _ _ _ (by simp)).drew (by decide)) one2'.out (by omega) hbase'.out ?_
          intro g3 cap3 w33 hown33 hC33 hCw33 hbk33 hro33
          have hr8 := hro33 _ _ _ _ _ _ (hown22'.out) (by decide)
          have hm33 := hm'.out.ch hC33 hnm2'.out
          have b0d := hm33.cell 0
          have b1d := hm33.cell 1
          have q0d := hm33.free 0
          have q1d := hm33.free 1
          simp at b0d b1d
          have hC33b := hC33.mono hSS2
          have hm33' := Lib.hid hm33
          have hr8' := Lib.hid hr8
          have hown33' := Lib.hid hown33
          have hC33' := Lib.hid hC33
          clear hr8 hown33 hC33 hCw33 hbk33 hro33 hm33
          try simp only [Act.put, List.setIfInBounds_toArray, List.set_cons_zero, List.set_cons_succ]
          refine hK.out _ _ ⟨fun _ => (hkeep'.out _ (hC33b)).1, (hkeep'.out _ (hC33b)).2⟩ ?_
          clear hK K hHeld
          intro hHeld
          refine wpAnyD_ready (rs := [16]) (by kernel_rfl) (by simp) ?_
          refine AllReadyD.cons (by simp only [List.getElem?_toArray, List.getElem?_cons_succ, List.getElem?_cons_zero]; rfl) (fun K hK => ?_) AllReadyD.nil
          go_simp
          have hC34b : Ch (w.heap.size :: SS) wr (w33.setCell ⟨w.heap.size, 0, none⟩ (.slice (some ⟨g2, 0, none⟩) (j + 1) cap2)) := (hC33b.mono (fun k hk => .inl (List.mem_cons_of_mem _ hk))).setCell (p := ⟨w.heap.size, 0, none⟩) (.inl (by simp)) _
          refine hK.out _ _ ⟨fun h => absurd h (by decide), hkeep2'.out _ hC34b⟩ ?_
          clear hK K hHeld
          intro hHeld
          try simp only [Act.put, List.setIfInBounds_toArray, List.set_cons_zero, List.set_cons_succ]
          refine wpAnyD_take (v := ?vE17T2) (i := 17) false (some 45) (by simp only [List.getElem?_toArray, List.getElem?_cons_succ, List.getElem?_cons_zero]; rfl) rfl (by kernel_rfl) (by kernel_rfl) (by kernel_rfl) (by kernel_rfl) (by kernel_rfl) (by kernel_rfl) (fun _ _ _ h => h) (by rfl) hHeld ?hyE17T2 ?restE17T2
          case hyE17T2 =>
            rintro wz ⟨hz1, z3, z4⟩
            try obtain ⟨z1, z2⟩ := hz1 rfl
            clear hz1
            first
              | (go_simp; done)
              | (go_simp; with_reducible rfl)
          clear hHeld
          intro hHeld
          try simp only [Act.put, List.setIfInBounds_toArray, List.set_cons_zero, List.set_cons_succ]
          refine wpAnyD_ready (rs := [18]) (by kernel_rfl) (by simp) ?_
          refine AllReadyD.cons (by simp only [List.getElem?_toArray, List.getElem?_cons_succ, List.getElem?_cons_zero]; rfl) (fun K hK => ?_) AllReadyD.nil
          go_simp
          refine hK.out _ _ ⟨fun h => absurd h (by decide), hkeep2'.out _ (hC34b.setCell (p := ⟨w.heap.size, 1, none⟩) (.inl (by simp)) _)⟩ ?_
          clear hK K hHeld
          intro hHeld
          try simp only [Act.put, List.setIfInBounds_toArray, List.set_cons_zero, List.set_cons_succ]
          refine wpAnyD_done (by kernel_rfl) ?_ _
          refine NoPanic.normal ?_
          have hmF := (hm33'.out.set 0 (.slice (some ⟨g2, 0, none⟩) (j + 1) cap2)).set 1 (.slice (some ⟨g3, 0, none⟩) (j + 1) cap3)
          simp at hmF
          have hCF : Ch [w.heap.size] w33 ((w33.setCell ⟨w.heap.size, 0, none⟩ (.slice (some ⟨g2, 0, none⟩) (j + 1) cap2)).setCell ⟨w.heap.size, 1, none⟩ (.slice (some ⟨g3, 0, none⟩) (j + 1) cap3)) := ((Ch.refl [w.heap.size] w33).setCell (p := ⟨w.heap.size, 0, none⟩) (.inl (by simp)) _).setCell (p := ⟨w.heap.size, 1, none⟩) (.inl (by simp)) _
          clear hHeld b0d b1d q0d q1d
          have hmF' := Lib.hid hmF
          have hCF' := Lib.hid hCF
          have hC34b' := Lib.hid hC34b
          clear hC34b hCF hmF
          go_wp2_with fail
          go_roundw
          case rel =>
            refine ⟨j + 1, by omega, by go_num, _, _, _, _, hmF'.out, ?_, ?_, ?_⟩
            · rw [← e8'.out]
              exact own_ch hr8'.out hCF'.out (fun b hb => by simpa using (own_ty hr8'.out hb).ne hm33'.out.ty (by decide))
            · rw [← e9'.out]
              exact own_ch hown33'.out hCF'.out (fun b hb => by simpa using (own_ty hown33'.out hb).ne hm33'.out.ty (by decide))
            · refine (hCr'.out.trans' hC33'.out (fun k hk => .inr ?_)).trans hCF'.out
              rw [hB4'.out]
              rcases List.mem_append.1 hk with h0 | h0
              · exact (lt1'.out k (by simpa using h0)).1
              · exact (lt2'.out k (by simpa using h0)).1
          case measure => simp [intOf]; omega
      ·
        go_simp
        refine hK.out _ _ ⟨fun _ => (hkeep'.out _ (((Ch.refl SS wr).alloc _).drew)).1, (hkeep'.out _ (((Ch.refl SS wr).alloc _).drew)).2⟩ ?_
        clear hK K hHeld
        intro hHeld
        refine wpAnyD_ready (rs := [3]) (by kernel_rfl) (by simp) ?_
        refine AllReadyD.cons (by simp only [List.getElem?_toArray, List.getElem?_cons_succ, List.getElem?_cons_zero]; rfl) (fun K hK => ?_) AllReadyD.nil
        go_simp
        refine hK.out _ _ ⟨fun _ => (hkeep'.out _ ((((Ch.refl SS wr).alloc _).alloc _).drew)).1, (hkeep'.out _ ((((Ch.refl SS wr).alloc _).alloc _).drew)).2⟩ ?_
        clear hK K hHeld
        intro hHeld
        refine wpAnyD_ready (rs := [4]) (by kernel_rfl) (by simp) ?_
        refine AllReadyD.cons (by simp only [List.getElem?_toArray, List.getElem?_cons_succ, List.getElem?_cons_zero]; rfl) (fun K hK => ?_) AllReadyD.nil
        refine step_append1 (W0 := wr) rfl (.tmp 30) (.tmp 32) 34 rfl B4 45 1 Tryd.underlying34 (by kernel_rfl) (by omega) (.slice A1 j c1) j (idsU (l.take j)) rfl [] ((((Ch.refl [] wr).alloc _).alloc _).drew) (fun _ _ hm => by cases hm) hr1'.out _ _ [.int .u64 (g : Int)] rfl rfl ((Bk.at_ _ _ _ _ (by simp)).drew) one1'.out (by omega) hbase'.out ?_
        intro g2 cap2 w22 hown22 hC22 hCw22 hbk22 hro22
        have hC22b := hC22.mono hSS1
        have hown22' := Lib.hid hown22
        have hC22' := Lib.hid hC22
        have hbk22' := Lib.hid hbk22
        clear hown22 hC22 hCw22 hbk22 hro22
        try simp only [Act.put, List.setIfInBounds_toArray, List.set_cons_zero, List.set_cons_succ]
        refine hK.out _ _ ⟨fun _ => (hkeep'.out _ (hC22b)).1, (hkeep'.out _ (hC22b)).2⟩ ?_
        clear hK K hHeld
        intro hHeld
        refine wpAnyD_take (v := ?vD15) (i := 15) false (some 44) (by simp only [List.getElem?_toArray, List.getElem?_cons_succ, List.getElem?_cons_zero]; rfl) rfl (by kernel_rfl) (by kernel_rfl) (by kernel_rfl) (by kernel_rfl) (by kernel_rfl) (by kernel_rfl) (fun _ _ _ h => h) (by rfl) hHeld ?hyD15 ?restD15
        case hyD15 =>
          rintro wz ⟨hz1, z3, z4⟩
          try obtain ⟨z1, z2⟩ := hz1 rfl
          clear hz1
          first
            | (go_simp; done)
            | (go_simp; with_reducible rfl)
        clear hHeld
        intro hHeld
        try simp only [Act.put, List.setIfInBounds_toArray, List.set_cons_zero, List.set_cons_succ]
        refine wpAnyD_ready (rs := [14]) (by kernel_rfl) (by simp) ?_
        refine AllReadyD.cons (by simp only [List.getElem?_toArray, List.getElem?_cons_succ, List.getElem?_cons_zero]; rfl) (fun K hK => ?_) AllReadyD.nil
        refine step_append1 (W0 := wr) rfl (.tmp 35) (.tmp 42) 35 rfl B4 3 1 Tryd.underlying35 (by kernel_rfl) (by omega) (.slice A2 j c2) j (levU f (l.take j)) rfl ([] ++ (Value.slice A1 j c1).ownBlock.toList) (hC22'.out) hn2'.out hr2'.out _ _ [.int .i64 (lv : Int)] rfl rfl (hbk22'.out _ _ _ ((Bk.at_ _ _ _ _ (by simp)).alloc _).drew (by decide)) one2'.out (by omega) hbase'.out ?_
        intro g3 cap3 w33 hown33 hC33 hCw33 hbk33 hro33
        have hr8 := hro33 _ _ _ _ _ _ (hown22'.out) (by decide)
        have hm33 := hm'.out.ch hC33 hnm2'.out
        have b0d := hm33.cell 0
        have b1d := hm33.cell 1
        have q0d := hm33.free 0
        have q1d := hm33.free 1
        simp at b0d b1d
        have hC33b := hC33.mono hSS2
        have hm33' := Lib.hid hm33
        have hr8' := Lib.hid hr8
        have hown33' := Lib.hid hown33
        have hC33' := Lib.hid hC33
        clear hr8 hown33 hC33 hCw33 hbk33 hro33 hm33
        try simp only [Act.put, List.setIfInBounds_toArray, List.set_cons_zero, List.set_cons_succ]
        refine hK.out _ _ ⟨fun _ => (hkeep'.out _ (hC33b)).1, (hkeep'.out _ (hC33b)).2⟩ ?_
        clear hK K hHeld
        intro hHeld
        refine wpAnyD_ready (rs := [16]) (by kernel_rfl) (by simp) ?_
        refine AllReadyD.cons (by simp only [List.getElem?_toArray, List.getElem?_cons_succ, List.getElem?_cons_zero]; rfl) (fun K hK => ?_) AllReadyD.nil
        go_simp
        have hC34b : Ch (w.heap.size :: SS) wr (w33.setCell ⟨w.heap.size, 0, none⟩ (.slice (some ⟨g2, 0, none⟩) (j + 1) cap2)) := (hC33b.mono (fun k hk => .inl (List.mem_cons_of_mem _ hk))).setCell (p := ⟨w.heap.size, 0, none⟩) (.inl (by simp)) _
        refine hK.out _ _ ⟨fun h => absurd h (by decide), hkeep2'.out _ hC34b⟩ ?_
        clear hK K hHeld
        intro hHeld
        try simp only [Act.put, List.setIfInBounds_toArray, List.set_cons_zero, List.set_cons_succ]
        refine wpAnyD_take (v := ?vE17T3) (i := 17) false (some 45) (by simp only [List.getElem?_toArray, List.getElem?_cons_succ, List.getElem?_cons_zero]; rfl) rfl (by kernel_rfl) (by kernel_rfl) (by kernel_rfl) (by kernel_rfl) (by kernel_rfl) (by kernel_rfl) (fun _ _ _ h => h) (by rfl) hHeld ?hyE17T3 ?restE17T3
        case hyE17T3 =>
          rintro wz ⟨hz1, z3, z4⟩
          try obtain ⟨z1, z2⟩ := hz1 rfl
          clear hz1
          first
            | (go_simp; done)
            | (go_simp; with_reducible rfl)
        clear hHeld
        intro hHeld
        try simp only [Act.put, List.setIfInBounds_toArray, List.set_cons_zero, List.set_cons_succ]
        refine wpAnyD_ready (rs := [18]) (by kernel_rfl) (by simp) ?_
        refine AllReadyD.cons (by simp only [List.getElem?_toArray, List.getElem?_cons_succ, List.getElem?_cons_zero]; rfl) (fun K hK => ?_) AllReadyD.nil
        go_simp
        refine hK.out _ _ ⟨fun h => absurd h (by decide), hkeep2'.out _ (hC34b.setCell (p := ⟨w.heap.size, 1, none⟩) (.inl (by simp)) _)⟩ ?_
        clear hK K hHeld
        intro hHeld
        try simp only [Act.put, List.setIfInBounds_toArray, List.set_cons_zero, List.set_cons_succ]
        refine wpAnyD_done (by kernel_rfl) ?_ _
        refine NoPanic.normal ?_
        have hmF := (hm33'.out.set 0 (.slice (some ⟨g2, 0, none⟩) (j + 1) cap2)).set 1 (.slice (some ⟨g3, 0, none⟩) (j + 1) cap3)
        simp at hmF
        have hCF : Ch [w.heap.size] w33 ((w33.setCell ⟨w.heap.size, 0, none⟩ (.slice (some ⟨g2, 0, none⟩) (j + 1) cap2)).setCell ⟨w.heap.size, 1, none⟩ (.slice (some ⟨g3, 0, none⟩) (j + 1) cap3)) := ((Ch.refl [w.heap.size] w33).setCell (p := ⟨w.heap.size, 0, none⟩) (.inl (by simp)) _).setCell (p := ⟨w.heap.size, 1, none⟩) (.inl (by simp)) _
        clear hHeld b0d b1d q0d q1d
        have hmF' := Lib.hid hmF
        have hCF' := Lib.hid hCF
        have hC34b' := Lib.hid hC34b
        clear hC34b hCF hmF
        go_wp2_with fail
        go_roundw
        case rel =>
          refine ⟨j + 1, by omega, by go_num, _, _, _, _, hmF'.out, ?_, ?_, ?_⟩
          · rw [← e8'.out]
            exact own_ch hr8'.out hCF'.out (fun b hb => by simpa using (own_ty hr8'.out hb).ne hm33'.out.ty (by decide))
          · rw [← e9'.out]
            exact own_ch hown33'.out hCF'.out (fun b hb => by simpa using (own_ty hown33'.out hb).ne hm33'.out.ty (by decide))
          · refine (hCr'.out.trans' hC33'.out (fun k hk => .inr ?_)).trans hCF'.out
            rw [hB4'.out]
            rcases List.mem_append.1 hk with h0 | h0
            · exact (lt1'.out k (by simpa using h0)).1
            · exact (lt2'.out k (by simpa using h0)).1
        case measure => simp [intOf]; omega
    · obtain rfl : j = n := by omega
      have htl : l.take j = l := List.take_of_length_le (by have := hn'.out; omega)
      rw [htl] at hr1 hr2
      have hXr := hX4'.out.ch hCr (by simp; omega)
      have hok := k14'.out.ch hCr (by simp)
      have b0 := hm.cell 0
      have b1 := hm.cell 1
      have b2 := hm.cell 2
      have b3 := hm.cell 3
      have b4 := hm.cell 4
      have q0 := hm.free 0
      have q1 := hm.free 1
      have q2 := hm.free 2
      have q3 := hm.free 3
      have q4 := hm.free 4
      have x2 := hXr.cell 2
      have x3 := hXr.cell 3
      have o0 := hok.cell 0
      have p0 := hok.free 0
      simp at b0 b1 b2 b3 b4 x2 x3 o0
      have nx : ¬ w.heap.size = w2.heap.size := by omega
      have nx2 : ¬ w2.heap.size = w.heap.size := by omega
      have hml := hm.lt
      have hokl := hok.lt
      have hm' := Lib.hid hm
      have hr1' := Lib.hid hr1
      have hr2' := Lib.hid hr2
      have hCr' := Lib.hid hCr
      have hXr' := Lib.hid hXr
      have hok' := Lib.hid hok
      have htl' := Lib.hid htl
      clear htl hok hXr hCr hr2 hr1 hm
      go_upto_region 10 with fail
      go_region
      all_goals
        go_wp2_with fail
        obtain ⟨WE, hWE⟩ : ∃ W, (((((((((wr.setCell ⟨w.heap.size, 2, none⟩ (.int .i64 (md : Int))).setCell ⟨w.heap.size, 3, none⟩ (.int .i64 (dr : Int))).setCell ⟨w.heap.size, 4, none⟩ (.int .i64 (en : Int))).setCell ⟨w.heap.size, 0, none⟩ (.slice A1 j c1)).setCell ⟨w.heap.size, 1, none⟩ (.slice A2 j c2)).setCell ⟨w.heap.size, 2, none⟩ (.int .i64 (md : Int))).setCell ⟨w.heap.size, 3, none⟩ (.int .i64 (dr : Int))).setCell ⟨w.heap.size, 4, none⟩ (.int .i64 (en : Int))).setCell ⟨w.heap.size + 1, 0, none⟩ (.bool true)).drew = W := ⟨_, rfl⟩
        have hne1 : w.heap.size + 1 ≠ w.heap.size := by omega
        have hE0 : Bk WE w.heap.size 37 #[.slice A1 j c1, .slice A2 j c2, .int .i64 (md : Int), .int .i64 (dr : Int), .int .i64 (en : Int)] := by
          rw [← hWE]
          refine Bk.drew (Bk.far ?_ (by show w.heap.size ≠ w.heap.size + 1; omega) _)
          simpa using ((((((((hm'.out.set 2 (.int .i64 (md : Int))).set 3 (.int .i64 (dr : Int))).set 4 (.int .i64 (en : Int))).set 0 (.slice A1 j c1)).set 1 (.slice A2 j c2)).set 2 (.int .i64 (md : Int))).set 3 (.int .i64 (dr : Int))).set 4 (.int .i64 (en : Int)))
        have hE1 : Bk WE (w.heap.size + 1) 4 #[.bool true] := by
          rw [← hWE]
          refine Bk.drew ?_
          simpa using (((((((((hok'.out.far (p := ⟨w.heap.size, 2, none⟩) hne1 (.int .i64 (md : Int))).far (p := ⟨w.heap.size, 3, none⟩) hne1 (.int .i64 (dr : Int))).far (p := ⟨w.heap.size, 4, none⟩) hne1 (.int .i64 (en : Int))).far (p := ⟨w.heap.size, 0, none⟩) hne1 (.slice A1 j c1)).far (p := ⟨w.heap.size, 1, none⟩) hne1 (.slice A2 j c2)).far (p := ⟨w.heap.size, 2, none⟩) hne1 (.int .i64 (md : Int))).far (p := ⟨w.heap.size, 3, none⟩) hne1 (.int .i64 (dr : Int))).far (p := ⟨w.heap.size, 4, none⟩) hne1 (.int .i64 (en : Int))).set 0 (.bool true))
        have hCE : Ch [w.heap.size, w.heap.size + 1] wr WE := by
          rw [← hWE]
          exact ((((((((((Ch.refl [w.heap.size, w.heap.size + 1] wr).setCell (p := ⟨w.heap.size, 2, none⟩) (.inl (by simp)) _).setCell (p := ⟨w.heap.size, 3, none⟩) (.inl (by simp)) _).setCell (p := ⟨w.heap.size, 4, none⟩) (.inl (by simp)) _).setCell (p := ⟨w.heap.size, 0, none⟩) (.inl (by simp)) _).setCell (p := ⟨w.heap.size, 1, none⟩) (.inl (by simp)) _).setCell (p := ⟨w.heap.size, 2, none⟩) (.inl (by simp)) _).setCell (p := ⟨w.heap.size, 3, none⟩) (.inl (by simp)) _).setCell (p := ⟨w.heap.size, 4, none⟩) (.inl (by simp)) _).setCell (p := ⟨w.heap.size + 1, 0, none⟩) (.inl (by simp)) _).drew
        rw [hWE]
        clear b0 b1 b2 b3 b4 q0 q1 q2 q3 q4 x2 x3 o0 p0 hWE
        have e0 := hE0.cell 0
        have e1 := hE0.cell 1
        have e2 := hE0.cell 2
        have e3 := hE0.cell 3
        have e4 := hE0.cell 4
        have e5 := hE1.cell 0
        simp at e0 e1 e2 e3 e4 e5
        refine leaves_cons (f := 18) (args := #[.pointer (some ⟨w.heap.size, 0, none⟩), .pointer (some ⟨w.heap.size + 1, 0, none⟩)]) (by simp) (by simp [go_sem]) ?_
        refine (catch_idle _ _ _).mono ?_
        rintro e u' w'' ⟨rfl, rfl, rfl⟩
        have hfin : ∀ W, Ch [w.heap.size, w.heap.size + 1] wr W → ((same = true ∧ bad = false ∧ RmOk (bok0.run Ls.flatten) (8 + (setsB Ls).length) w (.returned (.tuple #[.agg #[.slice A1 j c1, .slice A2 j c2, .int .i64 (md : Int), .int .i64 (dr : Int), .int .i64 (en : Int)], .bool true])) W) ∨ ((same = false ∨ bad = true) ∧ RmNo (.returned (.tuple #[.agg #[.slice A1 j c1, .slice A2 j c2, .int .i64 (md : Int), .int .i64 (dr : Int), .int .i64 (en : Int)], .bool true])))) ∧ Ch [] w W := fun W hcq => by
          have hrr1 := own_ch hr1'.out hcq (fun g hg hmm => by
            simp at hmm
            rcases hmm with h | h
            · exact (own_ty hr1'.out hg).ne hm'.out.ty (by decide) h
            · exact (own_ty hr1'.out hg).ne hok'.out.ty (by decide) h)
          have hrr2 := own_ch hr2'.out hcq (fun g hg hmm => by
            simp at hmm
            rcases hmm with h | h
            · exact (own_ty hr2'.out hg).ne hm'.out.ty (by decide) h
            · exact (own_ty hr2'.out hg).ne hok'.out.ty (by decide) h)
          have hbw : w.heap.size ≤ B4 := by have := hC4'.out.size; rw [hB4'.out] at this; exact this
          refine ⟨.inl ⟨hs, hbd, A1, c1, A2, c2, l, ?_, ?_, ?_, hl2'.out, ?_⟩, ?_⟩
          · rw [hn'.out, hmd'.out, hdr'.out, hen'.out]
          · rw [hn'.out]
            exact own_mono hrr1 hbw
          · rw [hn'.out, hf'.out]
            exact own_mono hrr2 hbw
          · rw [hf'.out]
            exact hl3'.out
          · exact (hC4'.out.trans' hCr'.out (fun k hk => .inr (by simp at hk; omega))).trans' hcq (fun k hk => .inr (by simp at hk; omega))
        refine ⟨.tuple #[.agg #[.slice A1 j c1, .slice A2 j c2, .int .i64 (md : Int), .int .i64 (dr : Int), .int .i64 (en : Int)], .bool true], by simp [results, Tryd.results11, go_sem, e0, e1, e2, e3, e4, e5], hfin _ hCE⟩
end Go.Proofs.YtkjgkjmaoebeoaaDoor
