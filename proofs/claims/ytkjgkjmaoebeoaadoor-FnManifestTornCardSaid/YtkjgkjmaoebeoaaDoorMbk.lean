/-
  The specification's book: tables with their levels, how many were made and dropped.
-/
import Derived.Deep.CutBlock
import Derived.Deep.DeepCutAuto
import Derived.Deep.QuietTactic
import Derived.Test.YtkjgkjmaoebeoaaDoorMac
import Derived.Test.YtkjgkjmaoebeoaaDoorWt
namespace Go.Proofs.YtkjgkjmaoebeoaaDoor
open Go Go.RowKit Go.Maps
open Go.Proofs

theorem zeroI (w : World) : (zeroValue 3).run Tryd.prog w = .ok (.int .i64 0) w := by kernel_rfl
theorem wfI {v : Nat} (h : v < 9223372036854775808) : (Lit.int .i64 (v : Int)).wf = true := WalkArith.wf_i64 ⟨by omega, by omega⟩

/-- Block b is a map of at most n entries that says f. -/
def LevAt (w : World) (b : Nat) (f : Nat → Option Nat) (n : Nat) : Prop :=
  ∃ D : DataW Unit, w.ownsMap Tryd.prog 45 (plainElem Tryd.prog 3) b n D ∧
    (∀ g : Nat, D.atKey (.int .u64 (g : Int)) (.lit (.int .i64 0)) = .lit (.int .i64 (((f g).getD 0 : Nat) : Int)) ∧ has D (.int .u64 (g : Int)) = (f g).isSome) ∧
    ∃ ks : List Nat, ks.Nodup ∧ size D = ks.length ∧ ∀ g, g ∈ ks ↔ (f g).isSome = true

section
variable {w w' : World} {b n : Nat} {f : Nat → Option Nat} {S : List Nat}
theorem LevAt.lt (h : LevAt w b f n) : b < w.heap.size := by
  obtain ⟨D, h1, _⟩ := h
  exact h1.lt
theorem LevAt.ch (h : LevAt w b f n) (hc : Ch S w w') (hb : b ∉ S) : LevAt w' b f n := by
  obtain ⟨D, h1, h2⟩ := h
  have hlt := h1.lt
  obtain ⟨es, clock, e1, e2⟩ := h1
  exact ⟨D, ⟨es, clock, (hc.block b hlt hb).trans e1, e2⟩, h2⟩
theorem LevAt.made (w : World) : LevAt (w.alloc (.map #[] 0)) w.heap.size (fun _ => none) 0 :=
  ⟨.map [], World.ownsMap_made _ _ _ _, fun g => ⟨rfl, rfl⟩, [], List.nodup_nil, rfl, fun g => by simp⟩
theorem LevAt.look (h : LevAt w b f n) {g : Nat} (hg : g < 18446744073709551616) : (Instr.lookup 27 (.map (some b)) (.int .u64 (g : Int)) false).run Tryd.prog w = .ok (.int .i64 (((f g).getD 0 : Nat) : Int)) w := by
  obtain ⟨D, h1, h2, _⟩ := h
  obtain ⟨c, hrun, hat, _⟩ := h1.lookup_int keyedT Tryd.underlying27 Tryd.underlying3 (zeroI w) (keyOf_int_mk Tryd.underlying45 (wfT hg))
  have e := (Lit.int.inj (DataW.lit.inj ((h2 g).1.symm.trans hat))).2
  rw [hrun, e]
theorem LevAt.look_ok (h : LevAt w b f n) {g : Nat} (hg : g < 18446744073709551616) : (Instr.lookup 27 (.map (some b)) (.int .u64 (g : Int)) true).run Tryd.prog w = .ok (.tuple #[.int .i64 (((f g).getD 0 : Nat) : Int), .bool (f g).isSome]) w := by
  obtain ⟨D, h1, h2, _⟩ := h
  obtain ⟨v, ps, hrun, hv⟩ := h1.look_ok keyedT Tryd.underlying27 (zeroI w) (plainElem_int Tryd.underlying3 (wfI (v := 0) (by decide))) (keyOf_int_mk Tryd.underlying45 (wfT hg))
  obtain ⟨c, rfl, hc, _⟩ := plainElem_int_inv Tryd.underlying3 hv
  simp only [Prod.mk.injEq] at hc
  have e := (Lit.int.inj (DataW.lit.inj ((h2 g).1.symm.trans hc.1))).2
  rw [hrun, (h2 g).2, e]
theorem LevAt.len (h : LevAt w b f n) (ty : TypeId) : ∃ ks : List Nat, ks.Nodup ∧ (∀ g, g ∈ ks ↔ (f g).isSome = true) ∧ (Builtin.len_ #[27] ty #[.map (some b)]).run Tryd.prog w = .ok (.int .i64 (ks.length : Int)) w := by
  obtain ⟨D, h1, _, ks, h3, h4, h5⟩ := h
  exact ⟨ks, h3, h5, by rw [h1.len Tryd.underlying27 ty, h4]⟩

theorem LevAt.put_law {D : DataW Unit} {g v : Nat} (hm : Tidy D) (h2 : ∀ g : Nat, D.atKey (.int .u64 (g : Int)) (.lit (.int .i64 0)) = .lit (.int .i64 (((f g).getD 0 : Nat) : Int)) ∧ has D (.int .u64 (g : Int)) = (f g).isSome)
    (h3 : ∃ ks : List Nat, ks.Nodup ∧ size D = ks.length ∧ ∀ g, g ∈ ks ↔ (f g).isSome = true) :
    (∀ x : Nat, (D.put (.int .u64 (g : Int)) (.lit (.int .i64 (v : Int)))).atKey (.int .u64 (x : Int)) (.lit (.int .i64 0)) = .lit (.int .i64 (((if x = g then some v else f x).getD 0 : Nat) : Int)) ∧ has (D.put (.int .u64 (g : Int)) (.lit (.int .i64 (v : Int)))) (.int .u64 (x : Int)) = (if x = g then some v else f x).isSome) ∧
    ∃ ks : List Nat, ks.Nodup ∧ size (D.put (.int .u64 (g : Int)) (.lit (.int .i64 (v : Int)))) = ks.length ∧ ∀ x, x ∈ ks ↔ (if x = g then some v else f x).isSome = true := by
  have hk : WideAt.IsKeyLit (.int .u64 (g : Int)) := trivial
  refine ⟨fun x => ?_, ?_⟩
  · by_cases e : x = g
    · subst e
      rw [if_pos rfl]
      exact ⟨atKey_put_same hm.isMap hk _ _, has_put_same hm.isMap hk _⟩
    · have hne : (Lit.int .u64 (x : Int)) ≠ .int .u64 (g : Int) := fun h => e (by injection h with _ h; omega)
      rw [if_neg e, atKey_put_other hne, has_put_other hne]
      exact h2 x
  · obtain ⟨ks, k1, k2, k3⟩ := h3
    rw [size_put hm, (h2 g).2]
    by_cases hs : (f g).isSome = true
    · rw [if_pos hs]
      refine ⟨ks, k1, k2, fun x => ?_⟩
      by_cases e : x = g
      · subst e
        simp [(k3 x).2 hs]
      · rw [if_neg e]; exact k3 x
    · rw [if_neg hs]
      refine ⟨g :: ks, List.nodup_cons.2 ⟨fun h => hs ((k3 g).1 h), k1⟩, by rw [k2]; rfl, fun x => ?_⟩
      by_cases e : x = g
      · subst e; simp
      · rw [if_neg e]
        simp only [List.mem_cons, e, false_or]
        exact k3 x
end


theorem LevAt.more {w : World} {b n m : Nat} {f : Nat → Option Nat} (h : LevAt w b f n) (hm : n ≤ m) : LevAt w b f m := by
  obtain ⟨D, h1, h2⟩ := h
  exact ⟨D, h1.mono hm, h2⟩
theorem LevAt.noTy {w : World} {b n : Nat} {f : Nat → Option Nat} (h : LevAt w b f n) (t : TypeId) : ¬ TyAt w b t := fun ⟨cs, hc⟩ => by
  obtain ⟨D, ⟨es, clock, hb, _⟩, _⟩ := h
  rw [hb] at hc
  cases hc
theorem LevAt.put {w : World} {b n : Nat} {f : Nat → Option Nat} (h : LevAt w b f n) (hn : n < 1000000000) {g v : Nat} (hg : g < 18446744073709551616) (hv : v < 9223372036854775808) : ∃ w', (Instr.mapUpdate 27 (.map (some b)) (.int .u64 (g : Int)) (.int .i64 (v : Int))).run Tryd.prog w = .ok () w' ∧ LevAt w' b (fun x => if x = g then some v else f x) (n + 1) ∧ Ch [b] w w' := by
  obtain ⟨D, h1, h2, h3⟩ := h
  obtain ⟨w', hrun, h1', hgr⟩ := h1.update keyedT Tryd.underlying27 (by unfold maxLen; omega) (keyOf_int_mk Tryd.underlying45 (wfT hg)) (plainElem_int Tryd.underlying3 (wfI hv))
  exact ⟨w', hrun, ⟨_, h1', LevAt.put_law (h1.tidy keyedT) h2 h3⟩, Ch.of_grown hgr⟩
theorem LevAt.drop {w : World} {b n : Nat} {f : Nat → Option Nat} (h : LevAt w b f n) {g : Nat} (hg : g < 18446744073709551616) (ty : TypeId) : ∃ w', (Builtin.delete_ #[27, 45] ty #[.map (some b), .int .u64 (g : Int)]).run Tryd.prog w = .ok (.tuple #[]) w' ∧ LevAt w' b (fun x => if x = g then none else f x) n ∧ Ch [b] w w' := by
  obtain ⟨D, h1, h2, ks, k1, k2, k3⟩ := h
  have hm := h1.tidy keyedT
  obtain ⟨w', hrun, h1', hgr⟩ := h1.drop keyedT Tryd.underlying27 (keyOf_int_mk Tryd.underlying45 (wfT hg)) ty
  refine ⟨w', hrun, ⟨_, h1', fun x => ?_, ?_⟩, Ch.of_grown hgr.grown⟩
  · dsimp only
    by_cases e : x = g
    · subst e
      rw [if_pos rfl]
      exact ⟨atKey_del_same _, has_del_same⟩
    · rw [if_neg e, atKey_del_other (litNe e), has_del_other (litNe e)]
      exact h2 x
  · have hs := size_del hm (k := .int .u64 (g : Int))
    rw [(h2 g).2] at hs
    by_cases hg2 : (f g).isSome = true
    · rw [if_pos hg2] at hs
      have hmem := (k3 g).2 hg2
      refine ⟨ks.erase g, k1.erase g, by rw [List.length_erase_of_mem hmem]; omega, fun x => ?_⟩
      dsimp only
      rw [k1.mem_erase_iff]
      by_cases e : x = g
      · subst e; simp
      · rw [if_neg e]
        simp [e, k3 x]
    · rw [if_neg hg2] at hs
      refine ⟨ks, k1, by omega, fun x => ?_⟩
      dsimp only
      by_cases e : x = g
      · subst e
        simp
        exact fun h => hg2 ((k3 x).1 h)
      · rw [if_neg e]; exact k3 x

theorem step_drop (b : Bok) (id L : Nat) : b.step ⟨id, L, true⟩ = ⟨fun x => if x = id then none else b.f x, b.made, b.dropped + 1⟩ := rfl
theorem step_make (b : Bok) (id L : Nat) : b.step ⟨id, L, false⟩ = ⟨fun x => if x = id then some L else b.f x, b.made + 1, b.dropped⟩ := rfl
theorem LevAt.tight {w : World} {b n m : Nat} {f : Nat → Option Nat} (h : LevAt w b f n) (hk : ∀ g, (f g).isSome = true → g < m) : LevAt w b f m := by
  obtain ⟨D, ⟨es, clock, e1, F, e2, rfl⟩, h2, ks, k1, k2, k3⟩ := h
  refine ⟨_, ⟨es, clock, e1, F, ?_, rfl⟩, h2, ks, k1, k2, k3⟩
  have h0 : ks.length ≤ m := by
    have h1 := List.Nodup.length_le_of_subset (l₁ := ks) (l₂ := List.range m) k1 (fun g hg => List.mem_range.2 (hk g ((k3 g).1 hg)))
    rwa [List.length_range] at h1
  rw [size_eq, length_read] at k2
  omega

/-- A change as the law hands it in. -/
structure RC where
  id : Nat
  lev : Int
  drop : Bool
def RC.chg (c : RC) : Chg := ⟨c.id, c.lev.toNat, c.drop⟩
/-- A set of changes in memory, below B. -/
structure RcsR (B : Nat) (w : World) (v : Value) (l : List RC) : Prop where
  form : ∃ A c, v = .slice A l.length c
  at_ : ∀ j (hj : j < l.length), ∃ b o c, v = .slice (some ⟨b, o, none⟩) l.length c ∧ b < B ∧ b < w.heap.size ∧ w.cell? ⟨b, o + j * 3, none⟩ = some (.int .u64 ((l[j]).id : Int)) ∧ w.cell? ⟨b, o + j * 3 + 1, none⟩ = some (.int .i64 (l[j]).lev) ∧ w.cell? ⟨b, o + j * 3 + 2, none⟩ = some (.bool (l[j]).drop)
theorem RcsR.ch {B : Nat} {S : List Nat} {w w' : World} {v : Value} {l : List RC} (h : RcsR B w v l) (hc : Ch S w w') (hS : ∀ k, k ∈ S → B ≤ k) : RcsR B w' v l := by
  refine ⟨h.form, fun j hj => ?_⟩
  obtain ⟨b, o, c, e, hB, hlt, c0, c1, c2⟩ := h.at_ j hj
  have hn : b ∉ S := fun hm => by have := hS _ hm; omega
  exact ⟨b, o, c, e, hB, Nat.lt_of_lt_of_le hlt hc.size, (hc.cell _ hlt hn).trans c0, (hc.cell _ hlt hn).trans c1, (hc.cell _ hlt hn).trans c2⟩

/-- The book in memory. -/
structure BookAt (bk mb n k : Nat) (b : Bok) (w : World) : Prop where
  bk : Bk w bk 29 #[.map (some mb), .int .i64 (b.made : Int), .int .i64 (b.dropped : Int)]
  mp : LevAt w mb b.f n
  few : b.made + b.dropped ≤ k

theorem BookAt.ch {bk mb n k : Nat} {b : Bok} {S : List Nat} {w w' : World} (h : BookAt bk mb n k b w) (hc : Ch S w w') (h1 : bk ∉ S) (h2 : mb ∉ S) : BookAt bk mb n k b w' := ⟨h.bk.ch hc h1, h.mp.ch hc h2, h.few⟩

set_option maxHeartbeats 4000000 in
set_option maxRecDepth 20000 in
theorem bookChange_any (B bk mb n k : Nat) (b : Bok) (l : List RC) (v : Value) (w : World) (hv : RcsR B w v l) (hb : BookAt bk mb n k b w) (hB1 : B ≤ bk) (hB2 : B ≤ mb) (hl : l.length ≤ 1000) (hn : n ≤ 1000000) (hk : k ≤ 1000000000000000) (hid : ∀ x, x ∈ l → x.id < 18446744073709551616) (hlev : ∀ x, x ∈ l → 0 ≤ x.lev ∧ x.lev ≤ 6) :
    Calls Tryd.prog 9 #[.pointer (some ⟨bk, 0, none⟩), v] w fun e w' =>
      ((b.oks (l.map RC.chg) ∧ e = .returned (.bool true) ∧ BookAt bk mb (n + l.length) (k + l.length) (b.run (l.map RC.chg)) w') ∨ (¬ b.oks (l.map RC.chg) ∧ e = .returned (.bool false))) ∧ Ch [bk, mb] w w' := by
  obtain ⟨A, c, rfl⟩ := hv.form
  obtain ⟨N, hN⟩ : ∃ N, l.length = N := ⟨_, rfl⟩
  rw [hN] at hv hl
  rw [hN]
  have hv' := Lib.hid hv
  have hN' := Lib.hid hN
  have hb' := Lib.hid hb
  have hid' := Lib.hid hid
  have hlev' := Lib.hid hlev
  clear hlev hid hb hN hv
  go_enter Tryd.func9, Tryd.ntmps9
  go_wp2_with fail
  go_loopw [4, 6, 7, 8, 11] (fun s4 s6 s7 s8 s11 wx => ∃ j : Nat, j ≤ N ∧ s11 = .int .i64 (j : Int) ∧ (∀ i (h : i < (l.map RC.chg).length), i < j → (l.map RC.chg)[i].drop = true ∨ (b.run ((l.map RC.chg).take i)).f (l.map RC.chg)[i].id = none) ∧ BookAt bk mb (n + j) (k + j) (b.run ((l.map RC.chg).take j)) wx ∧ Ch [bk, mb] w wx) (fun _ _ _ _ s11 _ => N - (intOf s11).toNat)
  case atStart => exact ⟨0, Nat.zero_le _, rfl, fun i _ h => absurd h (by omega), hb'.out, Ch.refl _ _⟩
  case round =>
    obtain ⟨j, hj, rfl, hok, hbr, hCr⟩ := hrel
    by_cases hlt : j < N
    · have hltI : (j : Int) < (N : Int) := by omega
      have hj0 : (0 : Int) ≤ (j : Int) := by omega
      have hjl : j < l.length := by rw [hN'.out]; exact hlt
      have hjm : j < (l.map RC.chg).length := by simpa using hjl
      obtain ⟨g, o, c2, he, hgB, hgl, c0, c1, c3⟩ := (hv'.out.ch hCr (by simp; exact ⟨hB1, hB2⟩)).at_ j (by rw [hN'.out]; exact hlt)
      obtain rfl : A = some ⟨g, o, none⟩ := by injection he
      clear he
      obtain ⟨x, hx⟩ : ∃ x, l[j] = x := ⟨_, rfl⟩
      have hxm : x ∈ l := by rw [← hx]; exact List.getElem_mem _
      have hxi := hid'.out x hxm
      have hxl := hlev'.out x hxm
      have hget : (l.map RC.chg)[j] = x.chg := by rw [List.getElem_map, hx]
      have hrun := Bok.run_snoc b hjm
      rw [hget] at hrun
      rw [hx] at c0 c1 c3
      obtain ⟨id, lv, dr⟩ := x
      obtain ⟨L, rfl⟩ : ∃ L : Nat, lv = (L : Int) := ⟨lv.toNat, by have := hxl.1; simp at this; omega⟩
      simp only [RC.chg, Int.toNat_natCast] at hrun hget hxi hxl
      obtain ⟨bj, hbj⟩ : ∃ r, b.run ((l.map RC.chg).take j) = r := ⟨_, rfl⟩
      rw [hbj] at hbr hrun
      obtain ⟨W0, hW0⟩ : ∃ W, wr.alloc (.cells #[.int .u64 (id : Int), .int .i64 (L : Int), .bool dr] 47) = W := ⟨_, rfl⟩
      have hC0 : Ch [] wr W0 := by rw [← hW0]; exact (Ch.refl [] wr).alloc _
      have hs0 : Bk W0 wr.heap.size 47 #[.int .u64 (id : Int), .int .i64 (L : Int), .bool dr] := by rw [← hW0]; exact Bk.new _ _ _
      have d0 := hs0.cell 0
      have d1 := hs0.cell 1
      have d2 := hs0.cell 2
      simp at d0 d1 d2
      have hb0 := hbr.ch hC0 (by simp) (by simp)
      have k0 := hb0.bk.cell 0
      have k1 := hb0.bk.cell 1
      have k2 := hb0.bk.cell 2
      simp at k0 k1 k2
      have hlook := hb0.mp.look_ok (g := id) hxi
      obtain ⟨is, his⟩ : ∃ v, (bj.f id).isSome = v := ⟨_, rfl⟩
      obtain ⟨q, hq⟩ : ∃ v, (bj.f id).getD 0 = v := ⟨_, rfl⟩
      have hlook2 : ∀ z, (Instr.lookup 27 (.map (some mb)) (.int .u64 (id : Int)) true).run Tryd.prog (W0.drewN z) = .ok (.tuple #[.int .i64 (q : Int), .bool is]) (W0.drewN z) := fun z => by
        have h0 := (hb0.mp.ch ((Ch.refl [] W0).drewN z) (by simp)).look_ok (g := id) hxi
        rw [his, hq] at h0
        exact h0
      clear hlook
      have w1 : IntKind.i64.wrap ((j : Int) + 1) = ((j + 1 : Nat) : Int) := (IntWalk.i64_in _ (by omega)).trans (by omega)
      have hfew := hb0.few
      have m1 : IntKind.i64.wrap ((bj.made : Int) + 1) = ((bj.made + 1 : Nat) : Int) := (IntWalk.i64_in _ (by omega)).trans (by omega)
      have m2 : IntKind.i64.wrap ((bj.dropped : Int) + 1) = ((bj.dropped + 1 : Nat) : Int) := (IntWalk.i64_in _ (by omega)).trans (by omega)
      have hnS : ∀ t, TyAt W0 bk t → bk ∉ [mb] := fun t ht => by simp; exact fun h => hb0.mp.noTy t (h ▸ ht)
      have hnX : wr.heap.size ∉ [mb] := by simp; exact fun h => hb0.mp.noTy _ (h ▸ hs0.ty)
      have hnext : (∀ i (h : i < (l.map RC.chg).length), i < j → (l.map RC.chg)[i].drop = true ∨ (b.run ((l.map RC.chg).take i)).f (l.map RC.chg)[i].id = none) → (dr = true ∨ bj.f id = none) → ∀ i (h : i < (l.map RC.chg).length), i < j + 1 → (l.map RC.chg)[i].drop = true ∨ (b.run ((l.map RC.chg).take i)).f (l.map RC.chg)[i].id = none := fun h1 h2 i hi hij => by
        rcases Nat.lt_or_eq_of_le (Nat.le_of_lt_succ hij) with h | h
        · exact h1 i hi h
        · subst h
          rw [hget, hbj]
          exact h2
      cases dr with
      | true =>
        have hok' := Lib.hid hok
        have hbr' := Lib.hid hbr
        have hCr' := Lib.hid hCr
        have hC0' := Lib.hid hC0
        have hs0' := Lib.hid hs0
        have hb0' := Lib.hid hb0
        have hx' := Lib.hid hx
        have hxm' := Lib.hid hxm
        have hget' := Lib.hid hget
        have hrun' := Lib.hid hrun
        have hbj' := Lib.hid hbj
        have his' := Lib.hid his
        have hq' := Lib.hid hq
        have hnext' := Lib.hid hnext
        have hnS' := Lib.hid hnS
        have hnX' := Lib.hid hnX
        have hxl' := Lib.hid hxl
        have hW0' := Lib.hid hW0
        clear hW0 hxl hnX hnS hnext hq his hbj hrun hget hxm hx hb0 hs0 hC0 hCr hbr hok
        go_wp2_with fail
        rw [hW0'.out]
        go_quiet (fail)
        obtain ⟨w5, hdel, hm5, hC5⟩ := (hb0'.out.mp.ch ((Ch.refl [] W0).drewN (nq + 1)) (by simp)).drop (g := id) hxi 0
        have hC05 : Ch [mb] W0 w5 := ((Ch.refl [mb] W0).drewN (nq + 1)).trans hC5
        have hbk5 := hb0'.out.bk.ch hC05 (hnS'.out _ hb0'.out.bk.ty)
        have k5 := hbk5.cell 2
        have g5 := hbk5.free 2
        simp at k5
        clear hlook2
        have hm5' := Lib.hid hm5
        have hC5' := Lib.hid hC5
        have hC05' := Lib.hid hC05
        have hbk5' := Lib.hid hbk5
        clear hbk5 hC05 hC5 hm5
        go_upto_region 8 with fail
        refine wp_tail 6 (by kernel_rfl) (by kernel_rfl) ?_
        simp only [List.take_succ_cons, List.take_zero, List.drop_succ_cons, List.drop_zero]
        repeat still_step
        refine wpStill_nil ?_
        go_wp2_with fail
        have hC7 : Ch [bk] w5 (w5.setCell ⟨bk, 2, none⟩ (.int .i64 ((bj.dropped : Int) + 1))) := (Ch.refl [bk] w5).setCell (p := ⟨bk, 2, none⟩) (.inl (by simp)) _
        have hb7 := hbk5'.out.set 2 (.int .i64 ((bj.dropped : Int) + 1))
        simp at hb7
        have hCw : Ch [bk, mb] w (w5.setCell ⟨bk, 2, none⟩ (.int .i64 ((bj.dropped : Int) + 1))) := ((hCr'.out.trans_nil hC0'.out).trans' hC05'.out (by simp)).trans' hC7 (by simp)
        have hm7 := hm5'.out.ch hC7 (by simp; exact fun h => hm5'.out.noTy _ (h ▸ hbk5'.out.ty))
        have hC7' := Lib.hid hC7
        have hb7' := Lib.hid hb7
        have hCw' := Lib.hid hCw
        have hm7' := Lib.hid hm7
        clear hm7 hCw hb7 hC7
        go_roundw
        case rel =>
          refine ⟨j + 1, by omega, by go_num, hnext'.out hok'.out (.inl trivial), ⟨?_, ?_, ?_⟩, by simpa using hCw'.out⟩
          · rw [hrun'.out, step_drop]
            simpa using hb7'.out
          · rw [hrun'.out, step_drop]
            exact hm7'.out.more (by omega)
          · rw [hrun'.out, step_drop]
            show bj.made + (bj.dropped + 1) ≤ k + (j + 1)
            omega
        case measure => simp [intOf]; omega
      | false =>
        cases is with
        | true =>
          have hok' := Lib.hid hok
          have hbr' := Lib.hid hbr
          have hCr' := Lib.hid hCr
          have hC0' := Lib.hid hC0
          have hs0' := Lib.hid hs0
          have hb0' := Lib.hid hb0
          have hx' := Lib.hid hx
          have hxm' := Lib.hid hxm
          have hget' := Lib.hid hget
          have hrun' := Lib.hid hrun
          have hbj' := Lib.hid hbj
          have his' := Lib.hid his
          have hq' := Lib.hid hq
          have hnext' := Lib.hid hnext
          have hnS' := Lib.hid hnS
          have hnX' := Lib.hid hnX
          have hxl' := Lib.hid hxl
          have hW0' := Lib.hid hW0
          clear hW0 hxl hnX hnS hnext hq his hbj hrun hget hxm hx hb0 hs0 hC0 hCr hbr hok
          go_wp2_with fail
          rw [hW0'.out]
          go_quiet (fail)
          go_wp2_with fail
          go_ret
          refine ⟨.inr ⟨fun h => ?_, rfl⟩, (hCr'.out.trans_nil hC0'.out).drewN _⟩
          have h0 := h j hjm
          rw [hget'.out, hbj'.out] at h0
          rcases h0 with h0 | h0
          · cases h0
          · have h1 := his'.out
            simp at h0
            rw [h0] at h1
            cases h1
        | false =>
          have hok' := Lib.hid hok
          have hbr' := Lib.hid hbr
          have hCr' := Lib.hid hCr
          have hC0' := Lib.hid hC0
          have hs0' := Lib.hid hs0
          have hb0' := Lib.hid hb0
          have hx' := Lib.hid hx
          have hxm' := Lib.hid hxm
          have hget' := Lib.hid hget
          have hrun' := Lib.hid hrun
          have hbj' := Lib.hid hbj
          have his' := Lib.hid his
          have hq' := Lib.hid hq
          have hnext' := Lib.hid hnext
          have hnS' := Lib.hid hnS
          have hnX' := Lib.hid hnX
          have hxl' := Lib.hid hxl
          have hW0' := Lib.hid hW0
          clear hW0 hxl hnX hnS hnext hq his hbj hrun hget hxm hx hb0 hs0 hC0 hCr hbr hok
          go_wp2_with fail
          rw [hW0'.out]
          go_quiet (fail)
          obtain ⟨w5, hput, hm5, hC5⟩ := (hb0'.out.mp.ch ((Ch.refl [] W0).drewN (nq + 1)) (by simp)).put (by omega) (g := id) (v := L) hxi (by have := hxl'.out.2; omega)
          have hC05 : Ch [mb] W0 w5 := ((Ch.refl [mb] W0).drewN (nq + 1)).trans hC5
          have hbk5 := hb0'.out.bk.ch hC05 (hnS'.out _ hb0'.out.bk.ty)
          have k5 := hbk5.cell 1
          have g5 := hbk5.free 1
          simp at k5
          clear hlook2
          have hm5' := Lib.hid hm5
          have hC5' := Lib.hid hC5
          have hC05' := Lib.hid hC05
          have hbk5' := Lib.hid hbk5
          clear hbk5 hC05 hC5 hm5
          go_upto_region 5 with fail
          refine wp_tail 8 (by kernel_rfl) (by kernel_rfl) ?_
          simp only [List.take_succ_cons, List.take_zero, List.drop_succ_cons, List.drop_zero]
          repeat still_step
          refine wpStill_nil ?_
          go_wp2_with fail
          have hC7 : Ch [bk] w5 (w5.setCell ⟨bk, 1, none⟩ (.int .i64 ((bj.made : Int) + 1))) := (Ch.refl [bk] w5).setCell (p := ⟨bk, 1, none⟩) (.inl (by simp)) _
          have hb7 := hbk5'.out.set 1 (.int .i64 ((bj.made : Int) + 1))
          simp at hb7
          have hCw : Ch [bk, mb] w (w5.setCell ⟨bk, 1, none⟩ (.int .i64 ((bj.made : Int) + 1))) := ((hCr'.out.trans_nil hC0'.out).trans' hC05'.out (by simp)).trans' hC7 (by simp)
          have hm7 := hm5'.out.ch hC7 (by simp; exact fun h => hm5'.out.noTy _ (h ▸ hbk5'.out.ty))
          have hC7' := Lib.hid hC7
          have hb7' := Lib.hid hb7
          have hCw' := Lib.hid hCw
          have hm7' := Lib.hid hm7
          clear hm7 hCw hb7 hC7
          go_roundw
          case rel =>
            refine ⟨j + 1, by omega, by go_num, hnext'.out hok'.out (.inr (by have h0 := his'.out; simpa using h0)), ⟨?_, ?_, ?_⟩, by simpa using hCw'.out⟩
            · rw [hrun'.out, step_make]
              simpa using hb7'.out
            · rw [hrun'.out, step_make]
              exact hm7'.out
            · rw [hrun'.out, step_make]
              show (bj.made + 1) + bj.dropped ≤ k + (j + 1)
              omega
          case measure => simp [intOf]; omega
    · obtain rfl : j = N := by omega
      have ht : (l.map RC.chg).take j = l.map RC.chg := List.take_of_length_le (by simp; have := hN'.out; omega)
      rw [ht] at hbr
      have hok' := Lib.hid hok
      have hbr' := Lib.hid hbr
      have hCr' := Lib.hid hCr
      have ht' := Lib.hid ht
      clear ht hCr hbr hok
      go_wp2_with fail
      go_ret
      exact ⟨.inl ⟨fun i hi => hok'.out i hi (by simp at hi; have := hN'.out; omega), rfl, hbr'.out⟩, hCr'.out⟩
end Go.Proofs.YtkjgkjmaoebeoaaDoor
