/-
  applyChangeSet: changes one behind the other.
-/
import Derived.Test.YtkjgkjmaoebeoaaDoorMad
namespace Go.Proofs.YtkjgkjmaoebeoaaDoor
open Go Go.RowKit
open Go.Proofs

/-- A change: a table that is made on a level, or goes. -/
structure Chg where
  id : Nat
  lev : Nat
  drop : Bool
/-- What changes leave. -/
structure Bok where
  f : Nat → Option Nat
  made : Nat
  dropped : Nat
def Bok.step (b : Bok) (c : Chg) : Bok := if c.drop = true then ⟨fun x => if x = c.id then none else b.f x, b.made, b.dropped + 1⟩ else ⟨fun x => if x = c.id then some c.lev else b.f x, b.made + 1, b.dropped⟩
def Bok.run (b : Bok) (l : List Chg) : Bok := l.foldl Bok.step b
/-- No table is made that is there. -/
def Bok.oks (b : Bok) (l : List Chg) : Prop := ∀ j (h : j < l.length), l[j].drop = true ∨ (b.run (l.take j)).f l[j].id = none
theorem Bok.run_snoc (b : Bok) {l : List Chg} {j : Nat} (h : j < l.length) : b.run (l.take (j + 1)) = (b.run (l.take j)).step l[j] := by
  unfold Bok.run
  rw [List.take_add_one, List.foldl_append]
  simp [h]

/-- Changes in memory. -/
def ChsR (w : World) (A : Option Addr) (l : List Chg) : Prop := ∀ j (h : j < l.length), ∃ g cb, A = some ⟨g, 0, none⟩ ∧ w.cell? ⟨g, j, none⟩ = some (.pointer (some ⟨cb, 0, none⟩)) ∧ TyAt w g 127 ∧ Bk w cb 131 (chC l[j].id (if l[j].drop = true then 1 else 0) l[j].lev)
theorem ChsR.ch {w w' : World} {A : Option Addr} {l : List Chg} {S : List Nat} (h : ChsR w A l) (hc : Ch S w w') (h1 : ∀ b, TyAt w b 127 → b ∉ S) (h2 : ∀ b, TyAt w b 131 → b ∉ S) : ChsR w' A l := fun j hj => by
  obtain ⟨g, cb, e, c, t, k⟩ := h j hj
  exact ⟨g, cb, e, (hc.cell j t.lt (h1 g t)).trans c, t.ch hc (h1 g t), k.ch hc (h2 cb k.ty)⟩

theorem Man.ch0 {B mb tb k : Nat} {f : Nat → Option Nat} {n m made dropped : Nat} {w w' : World} (h : Man B mb tb k f n m made dropped w) (hc : Ch [] w w') : Man B mb tb k f n m made dropped w' := by
  obtain ⟨⟨lv, h1, bs, h2, h3⟩, h4, h5, h6, h7⟩ := h
  exact ⟨⟨lv, h1.ch hc (by simp), bs, own_ch h2 hc (fun _ _ hm => by cases hm), fun b hb => ⟨(h3 b hb).1, (h3 b hb).2.1, (h3 b hb).2.2.ch hc (by simp)⟩⟩, h4.ch hc (by simp), h5, h6, h7⟩
theorem Man.more {B mb tb k : Nat} {f : Nat → Option Nat} {n m n' m' made dropped : Nat} {w : World} (h : Man B mb tb k f n m made dropped w) (hn : n ≤ n') (hm : m ≤ m') : Man B mb tb k f n' m' made dropped w := by
  obtain ⟨⟨lv, h1, bs, h2, h3⟩, h4, h5, h6, h7⟩ := h
  exact ⟨⟨lv, h1, bs, h2, fun b hb => ⟨(h3 b hb).1, (h3 b hb).2.1, (h3 b hb).2.2.more hm⟩⟩, h4.more hn, h5, h6, h7⟩
theorem manS_join {B : Nat} {w wr w' : World} {S S' : List Nat} (hC : Ch S w wr) (hS : ManS B w S) (hC' : Ch S' wr w') (hS' : ManS B wr S') : Ch (S ++ S') w w' ∧ ManS B w (S ++ S') :=
  ⟨(hC.mono fun _ hy => .inl (List.mem_append_left _ hy)).trans' hC' fun _ hy => .inl (List.mem_append_right _ hy), fun b hb => by
    rcases List.mem_append.1 hb with h | h
    · exact hS.1 b h
    · exact hS'.1 b h, fun b t hb h1 h2 h => by
    rcases List.mem_append.1 h with h0 | h0
    · exact hS.2 b t hb h1 h2 h0
    · exact hS'.2 b t (hb.ch hC (hS.2 b t hb h1 h2)) h1 h2 h0⟩
theorem manS_nil (B : Nat) (w : World) : ManS B w [] := ⟨fun _ hb => (by cases hb), fun _ _ _ _ _ hb => (by cases hb)⟩

theorem optInfo : (Tryd.prog.info? 81).map (·.size) = some 43 := by kernel_rfl

set_option maxHeartbeats 4000000 in
set_option maxRecDepth 20000 in
theorem applySet_any (B mb tb k sb : Nat) (b : Bok) (n m c : Nat) (A : Option Addr) (L : List Chg) (O : Array Value) (w : World) (hM : Man B mb tb k b.f n m b.made b.dropped w) (hs : Bk w sb 106 #[.slice A L.length c]) (hL : ChsR w A L) (hO : O.size = 43)
    (hok : b.oks L) (hlim : ∀ x, x ∈ L → x.id < 1000000 ∧ x.lev ≤ 6) (hn : n + L.length < 1000000) (hm : m + L.length < 1000000) (hmd : b.made + b.dropped + L.length < 1000000) :
    Calls Tryd.prog 38 #[.pointer (some ⟨mb, 0, none⟩), .pointer (some ⟨sb, 0, none⟩), .agg O] w fun e w' => e = .returned .nilIface ∧
      ∃ k', Man B mb tb k' (b.run L).f (n + L.length) (m + L.length) (b.run L).made (b.run L).dropped w' ∧ ∃ S, Ch S w w' ∧ ManS B w S := by
  obtain ⟨N, hN⟩ : ∃ N, L.length = N := ⟨_, rfl⟩
  rw [hN] at hn hm hmd hs
  rw [hN]
  obtain ⟨W0, hW0⟩ : ∃ W, w.alloc (.cells O 81) = W := ⟨_, rfl⟩
  have hC0 : Ch [] w W0 := by rw [← hW0]; exact (Ch.refl [] w).alloc _
  have hob : Bk W0 w.heap.size 81 O := by rw [← hW0]; exact Bk.new _ _ _
  have hoc : (Value.agg O).cells = O := rfl
  have hoi : (Tryd.prog.info? 81).map (·.size) = some O.size := by rw [hO]; exact optInfo
  have s0 := (hs.ch hC0 (by simp)).cell 0
  simp at s0
  have hM' := Lib.hid hM
  have hs' := Lib.hid hs
  have hL' := Lib.hid hL
  have hC0' := Lib.hid hC0
  have hob' := Lib.hid hob
  have hN' := Lib.hid hN
  have hok' := Lib.hid hok
  have hlim' := Lib.hid hlim
  clear hlim hok hN hob hC0 hL hs hM
  go_enter Tryd.func38, Tryd.ntmps38
  go_wp2_with fail
  go_loopw [8, 9, 15] (fun s8 s9 s15 wx => ∃ j : Nat, j ≤ N ∧ s15 = .int .i64 (j : Int) ∧ (∃ k', Man B mb tb k' (b.run (L.take j)).f (n + j) (m + j) (b.run (L.take j)).made (b.run (L.take j)).dropped wx) ∧ (b.run (L.take j)).made + (b.run (L.take j)).dropped = b.made + b.dropped + j ∧ ∃ S, Ch S w wx ∧ ManS B w S ∧ Bk wx w.heap.size 81 O) (fun _ _ s15 _ => N - (intOf s15).toNat)
  case atStart =>
    exact ⟨0, Nat.zero_le _, rfl, ⟨k, hM'.out.ch0 hC0'.out⟩, rfl, [], hC0'.out, manS_nil _ _, hob'.out⟩
  case round =>
    obtain ⟨j, hj, rfl, ⟨k', hMr⟩, hsum, S, hCr, hSr, hor⟩ := hrel
    by_cases hlt : j < N
    · have hltI : (j : Int) < (N : Int) := by omega
      have hj0 : (0 : Int) ≤ (j : Int) := by omega
      have hjl : j < L.length := by rw [hN'.out]; exact hlt
      have hLr := hL'.out.ch hCr (fun b hb => hSr.2 b _ hb (by decide) (by decide)) (fun b hb => hSr.2 b _ hb (by decide) (by decide))
      obtain ⟨g, cb, rfl, cg, tg, hcb⟩ := hLr j hjl
      have hx := hlim'.out _ (List.getElem_mem hjl)
      have hk := hok'.out j hjl
      have hrun := Bok.run_snoc b hjl
      have w1 : IntKind.i64.wrap ((j : Int) + 1) = ((j + 1 : Nat) : Int) := (IntWalk.i64_in _ (by omega)).trans (by omega)
      obtain ⟨⟨id, lev, dr⟩, hX⟩ : ∃ X, L[j] = X := ⟨_, rfl⟩
      rw [hX] at hcb hx hk hrun
      cases dr with
      | true =>
        simp only [if_true] at hcb
        have hcall := applyDelete_any B mb tb k' _ (n + j) (m + j) _ _ cb id lev O wr hMr hcb hx.1 (by omega)
        have hMr' := Lib.hid hMr
        have hCr' := Lib.hid hCr
        have hSr' := Lib.hid hSr
        have hor' := Lib.hid hor
        have hcb' := Lib.hid hcb
        have hcall' := Lib.hid hcall
        have hrun' := Lib.hid hrun
        have hX' := Lib.hid hX
        have hk' := Lib.hid hk
        have hLr' := Lib.hid hLr
        have tg' := Lib.hid tg
        have hsum' := Lib.hid hsum
        clear hsum tg hLr hk hX hrun hcall hcb hor hSr hCr hMr
        go_wp2_with (refine wpList_load_row rfl 81 (.tmp 5) rfl w.heap.size rfl 81 O (0, 0) _ hor'.out Tryd.underlying81 rfl hoi ?_)
        refine hcall'.out.mono ?_
        rintro e w4 ⟨rfl, hM4, S', hC4, hS4⟩
        have hM4' := Lib.hid hM4
        have hC4' := Lib.hid hC4
        have hS4' := Lib.hid hS4
        clear hS4 hC4 hM4
        go_wp2_with fail
        go_roundw
        case rel =>
          obtain ⟨hJ1, hJ2⟩ := manS_join hCr'.out hSr'.out hC4'.out hS4'.out
          refine ⟨j + 1, by omega, by go_num, ⟨k', ?_⟩, ?_, S ++ S', hJ1, hJ2, hor'.out.ch hC4'.out (hS4'.out.2 _ _ hor'.out.ty (by decide) (by decide))⟩
          · rw [hrun'.out]
            exact hM4'.out.more (by omega) (by omega)
          · rw [hrun'.out]
            have := hsum'.out
            show (b.run (L.take j)).made + ((b.run (L.take j)).dropped + 1) = _
            omega
        case measure => simp [intOf]; omega
      | false =>
        simp only [Bool.false_eq_true, if_false, false_or] at hcb hk
        have hcall := applyCreate_any B mb tb k' _ (n + j) (m + j) _ _ cb id lev O wr hMr hcb hk hx.1 hx.2 (by omega) (by omega) (by omega)
        have hMr' := Lib.hid hMr
        have hCr' := Lib.hid hCr
        have hSr' := Lib.hid hSr
        have hor' := Lib.hid hor
        have hcb' := Lib.hid hcb
        have hcall' := Lib.hid hcall
        have hrun' := Lib.hid hrun
        have hX' := Lib.hid hX
        have hk' := Lib.hid hk
        have hLr' := Lib.hid hLr
        have tg' := Lib.hid tg
        have hsum' := Lib.hid hsum
        clear hsum tg hLr hk hX hrun hcall hcb hor hSr hCr hMr
        go_wp2_with (refine wpList_load_row rfl 81 (.tmp 5) rfl w.heap.size rfl 81 O (0, 0) _ hor'.out Tryd.underlying81 rfl hoi ?_)
        refine hcall'.out.mono ?_
        rintro e w4 ⟨rfl, k4, _, hM4, S', hC4, hS4⟩
        have hM4' := Lib.hid hM4
        have hC4' := Lib.hid hC4
        have hS4' := Lib.hid hS4
        clear hS4 hC4 hM4
        go_wp2_with fail
        go_roundw
        case rel =>
          obtain ⟨hJ1, hJ2⟩ := manS_join hCr'.out hSr'.out hC4'.out hS4'.out
          refine ⟨j + 1, by omega, by go_num, ⟨k4, ?_⟩, ?_, S ++ S', hJ1, hJ2, hor'.out.ch hC4'.out (hS4'.out.2 _ _ hor'.out.ty (by decide) (by decide))⟩
          · rw [hrun'.out]
            exact hM4'.out.more (by omega) (by omega)
          · rw [hrun'.out]
            have := hsum'.out
            show (b.run (L.take j)).made + 1 + (b.run (L.take j)).dropped = _
            omega
        case measure => simp [intOf]; omega
    · obtain rfl : j = N := by omega
      have ht : L.take j = L := by rw [← hN'.out]; exact List.take_length
      rw [ht] at hMr
      have hMr' := Lib.hid hMr
      have hCr' := Lib.hid hCr
      have hSr' := Lib.hid hSr
      have hor' := Lib.hid hor
      clear hor hSr hCr hMr
      go_wp2_with fail
      go_ret
      exact ⟨rfl, k', hMr'.out, S, hCr'.out, hSr'.out⟩
end Go.Proofs.YtkjgkjmaoebeoaaDoor
