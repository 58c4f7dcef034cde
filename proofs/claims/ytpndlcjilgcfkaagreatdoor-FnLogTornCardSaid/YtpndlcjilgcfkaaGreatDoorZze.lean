/-
  Contracts of logFile.ZZEach and impl.ReadLog.
-/
import Derived.Test.YtpndlcjilgcfkaaGreatDoorIt2
import Derived.Test.YtpndlcjilgcfkaaGreatDoorOpen2
import Derived.Test.YtpndlcjilgcfkaaGreatDoorSpecRL
import Derived.Defers
import Derived.Recover
import Derived.Deep.DeepMust
namespace Go.Proofs.YtpndlcjilgcfkaaGreatDoor
open Go Go.RowKit
open Go.Proofs

/-- What ZZEach hands back. -/
def ZzePost (b : List UInt8) (w : World) (e : Ending) (w' : World) : Prop :=
  ∃ v css B, e = .returned (.tuple #[v, .int .u32 ((readLog b).2.1 : Int), .nilIface]) ∧ w.heap.size ≤ B ∧ w'.ownsRow B 58 8 v (readLog b).1.length css.flatten ∧ All2 (ZzAt B w') css (readLog b).1 ∧ Ch [] w w'

set_option maxHeartbeats 4000000 in
set_option maxRecDepth 20000 in
theorem zzEach_any (B0 lfb mb db n cap : Nat) (fd : Value) (b : List UInt8) (w : World) (hgs : Gs B0 w) (hB0 : B0 ≤ w.heap.size) (hasked : (readLog b).2.2 = true) (hb20 : 20 ≤ b.length) (hbl : b.length ≤ 1000000000)
    (hl0 : w.cell? ⟨lfb, 0, none⟩ = some (.pointer (some ⟨mb, 0, none⟩))) (hl2 : w.cell? ⟨lfb, 2, none⟩ = some (.int .u32 1)) (hm : Bk w mb 123 #[.slice (some ⟨db, 0, none⟩) n cap, fd])
    (hd : Bs w db 0 b) (hn : b.length = n) (hcap : n ≤ cap) (hsy : ∃ te pe, w.cell? ⟨11, 0, none⟩ = some (.iface te pe)) (hrg : ∃ te pe, w.cell? ⟨12, 0, none⟩ = some (.iface te pe)) :
    Calls Tryz.prog 23 #[.pointer (some ⟨lfb, 0, none⟩)] w (ZzePost b w) := by
  have hlt : lfb < w.heap.size := block_lt_of_cell hl0
  have hdl := hd.lt (by omega)
  have hc1 : Ch [] w (w.alloc (.cells #[.slice none 0 0] 52)) := (Ch.refl [] w).alloc _
  obtain ⟨te1, pe1, hs1⟩ := hsy
  obtain ⟨te2, pe2, hs2⟩ := hrg
  have n1 : 11 < w.heap.size := block_lt_of_cell hs1
  have n2 : 12 < w.heap.size := block_lt_of_cell hs2
  have hcall := iterate_any B0 w.heap.size lfb mb db n cap fd b _ (hgs.ch hc1 (by simp)) hB0 hasked hb20 hbl ((hc1.cell 0 hlt (by simp)).trans hl0) ((hc1.cell 2 hlt (by simp)).trans hl2) (hm.ch hc1 (by simp)) (hd.ch hc1 (by simp)) hn hcap (Nat.zero_le _) (Bk.at_ w _ _ _ rfl) (by omega) (by omega)
    ⟨te1, pe1, (hc1.cell 0 n1 (by simp)).trans hs1⟩ ⟨te2, pe2, (hc1.cell 0 n2 (by simp)).trans hs2⟩ (by omega) (by omega)
  have hmf : ∀ (fn : Fn) (first cap : Array Value) (w : World), (Instr.makeFunc fn first cap).run Tryz.prog w = .ok (.func fn first cap) w := fun _ _ _ _ => rfl
  clear hl0 hl2 hs1 hs2
  have hgs' := Lib.hid hgs
  have hasked' := Lib.hid hasked
  have hm' := Lib.hid hm
  have hd' := Lib.hid hd
  have hcall' := Lib.hid hcall
  have hc1' := Lib.hid hc1
  clear hc1 hcall hd hm hasked hgs
  go_enter Tryz.func23, Tryz.ntmps23
  go_wp2_with fail
  refine hcall'.out.mono ?_
  rintro e w2 ⟨rfl, ⟨B, hB, v, css, hbk, hown, hall⟩, hc2⟩
  obtain ⟨av, cv, rfl⟩ : ∃ A c, v = .slice A (readLog b).1.length c := own_form hown
  have c0 := hbk.cell 0
  have f0 := hbk.free 0
  simp at c0
  obtain ⟨L, hL⟩ : ∃ L, (readLog b).1.length = L := ⟨_, rfl⟩
  obtain ⟨F, hF⟩ : ∃ F, (readLog b).2.1 = F := ⟨_, rfl⟩
  rw [hL] at c0
  rw [hF]
  have hB' := Lib.hid hB
  have hbk' := Lib.hid hbk
  have hown' := Lib.hid hown
  have hall' := Lib.hid hall
  have hc2' := Lib.hid hc2
  have hL' := Lib.hid hL
  have hF' := Lib.hid hF
  clear hF hL hc2 hall hown hbk hB
  go_wp2_with fail
  refine bodyPost_ret (v := .tuple #[.slice av L cv, .int .u32 (F : Int), .nilIface]) (by simp [results, Tryz.results23, go_sem, c0]) rfl ?_
  have hcl : Ch [w.heap.size] w2 (w2.setCell ⟨w.heap.size, 0, none⟩ (.slice av L cv)) := (Ch.refl _ w2).setCell (p := ⟨w.heap.size, 0, none⟩) (.inl (by simp)) _
  have hB1 : w.heap.size ≤ B := by have := hB'.out; simp at this; omega
  have hLr := hL'.out
  refine ⟨_, css, B, by rw [hF'.out], hB1, ?_, hall'.out.imp fun _ _ h => h.ch hcl fun g hg hgB => ?_, ?_⟩
  · have h1 := own_ch hown'.out hcl (fun g hg hm => by
      simp at hm
      exact (own_ty hown'.out hg).ne hbk'.out.ty (by decide) hm)
    rw [hLr] at h1 ⊢
    exact h1
  · simp
    exact hg.ne hbk'.out.ty (by decide)
  · exact (hc1'.out.trans' hc2'.out (by simp)).trans' hcl (by simp)

theorem catch_idle (p q r : Addr) (w : World) :
    CallsD Tryz.prog 21 #[.pointer (some p), .pointer (some q), .pointer (some r)] .returning w fun e u' w' => e = .returned (.tuple #[]) ∧ u' = .returning ∧ w' = w := by
  refine callsD_of_wpS Tryz.func21 rfl fun c₀ cs hu => ?_
  apply wpS_seq
  apply wpS_region
  simp [wpOpsS, go_sem, recoverD, hu, Tryz.ntmps21, Exit.thenS]
  refine wpS_cond (t := false) (by simp [Act.eval, Array.replicate]) ?_
  simp only [Bool.false_eq_true, if_false]
  refine wpS_of_wp (wp_skip ?_)
  cases c₀
  simp_all [bodyPostS, results, Tryz.results21]

/-- What impl.ReadLog's loop keeps. -/
structure RLRel (l0 B : Nat) (v : Value) (css : List (List Value)) (L : List LEnt) (F : Nat) (w : World) (j : Nat) (x : Value) (wx : World) : Prop where
  hj : j ≤ L.length
  bx : Bk wx l0 23 #[x]
  ex : Ents w.heap.size wx x (L.take j)
  be : Bk wx (l0 + 1) 24 #[.int .u32 (F : Int)]
  bo : Bk wx (l0 + 1 + 1) 4 #[.bool false]
  zs : wx.ownsRow B 58 8 v L.length css.flatten
  za : All2 (ZzAt B wx) css L
  bl : Below w.heap.size w wx

theorem RLRel.next {l0 B F j c' : Nat} {v x : Value} {css : List (List Value)} {L : List LEnt} {w wr W w4 : World} {A' : Option Addr} (h : RLRel l0 B v css L F w j x wr) (hjl : j < L.length) (hW : Ch [] wr W) (hch : Ch x.ownBlock.toList W w4)
    (hown : w4.ownsRow w.heap.size 30 7 (.slice A' (j + 1) c') (j + 1) (entCs (L.take j) ++ (enC L[j]).toList)) (hl0 : w.heap.size ≤ l0) :
    RLRel l0 B v css L F w (j + 1) (.slice A' (j + 1) c') (w4.setCell ⟨l0, 0, none⟩ (.slice A' (j + 1) c')) := by
  have exW := h.ex.ch hW (fun g hg hm => by cases hm)
  have hS : ∀ b t, TyAt W b t → t ≠ 30 → b ∉ x.ownBlock.toList := fun b t hb hne => ty_notin exW hb hne
  have bxW := h.bx.ch hW (by simp)
  have beW := h.be.ch hW (by simp)
  have boW := h.bo.ch hW (by simp)
  have zsW := own_ch h.zs hW (fun g hg => by simp)
  have bx4 := bxW.ch hch (hS _ _ bxW.ty (by decide))
  have hcl : Ch [l0] w4 (w4.setCell ⟨l0, 0, none⟩ (.slice A' (j + 1) c')) := (Ch.refl _ w4).setCell (p := ⟨l0, 0, none⟩) (.inl (by simp)) _
  have hlen : (L.take (j + 1)).length = j + 1 := by rw [List.length_take]; omega
  have hT : L.take (j + 1) = L.take j ++ [L[j]] := List.take_succ_eq_append_getElem hjl
  refine ⟨hjl, by simpa using bx4.set 0 (.slice A' (j + 1) c'), ?_, ?_, ?_, ?_, ?_, ?_⟩
  · unfold Ents
    rw [hlen, hT, entCs_append, show entCs [L[j]] = (enC L[j]).toList by simp [entCs]]
    exact own_ch hown hcl (fun g hg hm => by
      simp at hm
      exact (own_ty hown hg).ne bx4.ty (by decide) hm)
  · have h1 := beW.ch hch (hS _ _ beW.ty (by decide))
    exact h1.ch hcl (fun hm => h1.ty.ne bx4.ty (by decide) (List.mem_singleton.1 hm))
  · have h1 := boW.ch hch (hS _ _ boW.ty (by decide))
    exact h1.ch hcl (fun hm => h1.ty.ne bx4.ty (by decide) (List.mem_singleton.1 hm))
  · have h1 := own_ch zsW hch (fun g hg => hS g _ (own_ty zsW hg) (by decide))
    exact own_ch h1 hcl (fun g hg hm => by
      simp at hm
      exact (own_ty h1 hg).ne bx4.ty (by decide) hm)
  · exact ((h.za.imp fun _ _ k => k.ch hW (fun b _ _ => by simp)).imp fun _ _ k => k.ch hch (fun b hb _ => hS b _ hb (by decide))).imp fun _ _ k => k.ch hcl (fun b hb _ => by
      simpa using hb.ne bx4.ty (by decide))
  · refine ((h.bl.trans (Ch.below hW (B := w.heap.size) h.bl.size (fun _ hk => by cases hk))).trans (hch.below (B := w.heap.size) (Nat.le_trans h.bl.size hW.size) fun k hk => (exW.lt (by simpa using hk)).1)).setCell hl0 _

theorem zz_flat : ∀ (css : List (List Value)), (∀ cs, cs ∈ css → cs.length = 8) → ∀ (j : Nat) (cs : List Value), css[j]? = some cs → ∀ i, i < 8 → css.flatten[j * 8 + i]? = cs[i]? := by
  intro css
  induction css with
  | nil => intro _ j cs h; simp at h
  | cons c r ih =>
    intro h8 j cs hj i hi
    have hc := h8 c List.mem_cons_self
    cases j with
    | zero =>
      simp only [List.getElem?_cons_zero, Option.some.injEq] at hj
      subst hj
      rw [List.flatten_cons, List.getElem?_append_left (by omega)]
      simp
    | succ j =>
      rw [List.flatten_cons, List.getElem?_append_right (by omega), hc, show (j + 1) * 8 + i - 8 = j * 8 + i by omega]
      exact ih (fun x hx => h8 x (List.mem_cons_of_mem _ hx)) j cs (by simpa using hj) i hi
theorem All2.mem_left {α β : Type} {R : α → β → Prop} {us : List α} {vs : List β} (h : All2 R us vs) : ∀ a, a ∈ us → ∃ b, R a b := by
  induction h with
  | nil => intro a ha; cases ha
  | @cons a b us vs hr _ ih =>
    intro x hx
    rcases List.mem_cons.1 hx with rfl | hx
    · exact ⟨b, hr⟩
    · exact ih x hx

theorem lRun_count (b : List UInt8) : ∀ (k : Nat) (s : LSt), s.l.length + s.op.length ≤ s.at_ → s.at_ ≤ b.length → (lRun b k s).1.length ≤ b.length := by
  intro k
  induction k with
  | zero => intro s h1 h2; show s.l.length ≤ _; omega
  | succ k ih =>
    intro s h1 h2
    unfold lRun
    split
    · rename_i s' hs
      have h3 := lStep_at hs
      refine ih s' ?_ (by omega)
      unfold lStep at hs
      split at hs
      · cases hs
      · cases hs
      · rename_i e he
        have h4 := (entryAt_len he).1
        unfold lEnd at hs
        repeat' (split at hs)
        all_goals first | (cases hs; done) | (injection hs with hs; subst hs; simp; omega)
    · rename_i r hr
      unfold lStep at hr
      split at hr
      · injection hr with hr; subst hr; show s.l.length ≤ _; omega
      · injection hr with hr; subst hr; show s.l.length ≤ _; omega
      · rw [(lEnd_r hr).1]; omega
theorem readLog_count (b : List UInt8) (h : 20 ≤ b.length) : (readLog b).1.length ≤ b.length := lRun_count b _ _ (by simp) h

/-- What impl.ReadLog answers. -/
def RLPost (b : List UInt8) (w : World) (e : Ending) (w' : World) : Prop :=
  ∃ v, e = .returned (.tuple #[v, .int .u32 ((readLog b).2.1 : Int), .bool true]) ∧ Ents w.heap.size w' v (readLog b).1 ∧ Below w.heap.size w w'

set_option maxHeartbeats 8000000 in
set_option maxRecDepth 20000 in
theorem implReadLog_any (B0 : Nat) (b : List UInt8) (w : World) (hgs : Gs B0 w) (hB0 : B0 ≤ w.heap.size) (hasked : (readLog b).2.2 = true) (hb20 : 20 ≤ b.length) (hbl : b.length ≤ 1000000000)
    (hnf : ∃ te pe, w.cell? ⟨0, 0, none⟩ = some (.iface te pe)) (hsy : ∃ te pe, w.cell? ⟨11, 0, none⟩ = some (.iface te pe)) (hrg : ∃ te pe, w.cell? ⟨12, 0, none⟩ = some (.iface te pe)) :
    Calls Tryz.prog 8 #[.string ⟨b.toArray⟩] w (RLPost b w) := by
  have hmf : ∀ (fn : Fn) (first cap : Array Value) (w : World), (Instr.makeFunc fn first cap).run Tryz.prog w = .ok (.func fn first cap) w := fun _ _ _ _ => rfl
  obtain ⟨te0, pe0, hs0⟩ := hnf
  obtain ⟨te1, pe1, hs1⟩ := hsy
  obtain ⟨te2, pe2, hs2⟩ := hrg
  have n0 : 0 < w.heap.size := block_lt_of_cell hs0
  have n1 : 11 < w.heap.size := block_lt_of_cell hs1
  have n2 : 12 < w.heap.size := block_lt_of_cell hs2
  have hsz : (ByteArray.mk b.toArray).size = b.length := by simp [ByteArray.size]
  have hgs' := Lib.hid hgs
  have hasked' := Lib.hid hasked
  have hs0' := Lib.hid hs0
  have hs1' := Lib.hid hs1
  have hs2' := Lib.hid hs2
  clear hs2 hs1 hs0 hasked hgs
  go_enter_defers Tryz.func8, Tryz.ntmps8
  go_wp2_with (refine wpList_s2b rfl 9 22 5 (.tmp 11) rfl Tryz.underlying9 Tryz.underlying22 Tryz.underlying5 ⟨b.toArray⟩ rfl ?_)
  intro w1 c hb1 hz1 hbs hsc
  have hbs : Bs w1 (w.heap.size + 3) 0 b := by simpa using hbs
  have hsc : b.length ≤ c := by first | exact hsc | simpa using hsc
  have hz1 : w1.heap.size = w.heap.size + 4 := by simpa using hz1
  have hcA : Ch [] w w1 := by
    have h1 : Ch [] w (((w.alloc (.cells #[.slice none 0 0] 23)).alloc (.cells #[.int .u32 0] 24)).alloc (.cells #[.bool false] 4)) := (((Ch.refl [] w).alloc _).alloc _).alloc _
    exact h1.trans (Ch.of_below (by simpa using hb1))
  have k0 : Bk w1 w.heap.size 23 #[.slice none 0 0] := (((Bk.at_ w _ _ _ rfl).alloc _).alloc _).below hb1 (by omega)
  have k1 : Bk w1 (w.heap.size + 1) 24 #[.int .u32 0] := ((Bk.at_ _ _ _ _ (by simp)).alloc _).below hb1 (by omega)
  have k2 : Bk w1 (w.heap.size + 1 + 1) 4 #[.bool false] := (Bk.at_ _ _ _ _ (by simp)).below hb1 (by omega)
  have hlf := zzLogFile_any (w.heap.size + 3) b.length c b w1 hbs rfl hb20 hbl ⟨te0, pe0, (hcA.cell 0 n0 (by simp)).trans hs0'.out⟩
  have hb1' := Lib.hid hb1
  have hbs' := Lib.hid hbs
  have hcA' := Lib.hid hcA
  have k0' := Lib.hid k0
  have k1' := Lib.hid k1
  have k2' := Lib.hid k2
  have hlf' := Lib.hid hlf
  clear hlf k2 k1 k0 hcA hbs hb1
  go_wp2_with fail
  refine hlf'.out.mono ?_
  rintro e w2 ⟨lfb, mb, fb, rfl, hlfb, ql, qf, hmb, hc2⟩
  have hcB : Ch [] w w2 := hcA'.out.trans hc2
  have hz2 := hc2.size
  have hze := zzEach_any B0 lfb mb (w.heap.size + 3) b.length c (.pointer (some ⟨fb, 0, none⟩)) b w2 (hgs'.out.ch hcB (by simp)) (by omega) hasked'.out hb20 hbl ql qf hmb (hbs'.out.ch hc2 (by simp)) rfl hsc
    ⟨te1, pe1, (hcB.cell 0 n1 (by simp)).trans hs1'.out⟩ ⟨te2, pe2, (hcB.cell 0 n2 (by simp)).trans hs2'.out⟩
  have k0b := k0'.out.ch hc2 (by simp)
  have k1b := k1'.out.ch hc2 (by simp)
  have k2b := k2'.out.ch hc2 (by simp)
  clear ql qf
  have hmb' := Lib.hid hmb
  have hc2' := Lib.hid hc2
  have hcB' := Lib.hid hcB
  have hze' := Lib.hid hze
  have k0b' := Lib.hid k0b
  have k1b' := Lib.hid k1b
  have k2b' := Lib.hid k2b
  clear k2b k1b k0b hze hcB hc2 hmb
  go_wp2_with fail
  refine hze'.out.mono ?_
  rintro e w3 ⟨v, css, B, rfl, hB, hown, hall, hc3⟩
  obtain ⟨L, hL⟩ : ∃ L, (readLog b).1 = L := ⟨_, rfl⟩
  obtain ⟨F, hF⟩ : ∃ F, (readLog b).2.1 = F := ⟨_, rfl⟩
  rw [hL] at hown hall
  rw [hF]
  obtain ⟨av, cv, rfl⟩ := own_form hown
  obtain ⟨N, hN⟩ : ∃ N, L.length = N := ⟨_, rfl⟩
  have hNb : N ≤ 1000000000 := by
    have h1 := readLog_count b hb20
    rw [hL, hN] at h1
    omega
  have hcC : Ch [] w w3 := hcB'.out.trans hc3
  have k0c := k0b'.out.ch hc3 (by simp)
  have k1c := k1b'.out.ch hc3 (by simp)
  have k2c := k2b'.out.ch hc3 (by simp)
  have hz3 := hc3.size
  have e1 := k1c.cell 0
  have g1 := k1c.free 0
  simp at e1
  rw [hN]
  have hown' := Lib.hid hown
  have hall' := Lib.hid hall
  have hc3' := Lib.hid hc3
  have hL' := Lib.hid hL
  have hF' := Lib.hid hF
  have hN' := Lib.hid hN
  have hcC' := Lib.hid hcC
  have k0c' := Lib.hid k0c
  have k1c' := Lib.hid k1c
  have k2c' := Lib.hid k2c
  have hB' := Lib.hid hB
  clear hB k2c k1c k0c hcC hN hF hL hc3 hall hown
  go_wp2_with fail
  have hcl : Ch [w.heap.size + 1] w3 (w3.setCell ⟨w.heap.size + 1, 0, none⟩ (.int .u32 (F : Int))) := (Ch.refl _ w3).setCell (p := ⟨w.heap.size + 1, 0, none⟩) (.inl (by simp)) _
  have hrel0 : RLRel w.heap.size B (.slice av N cv) css L F w 0 (.slice none 0 0) (w3.setCell ⟨w.heap.size + 1, 0, none⟩ (.int .u32 (F : Int))) := {
    hj := Nat.zero_le _
    bx := k0c'.out.ch hcl (by simp)
    ex := Ents.nil _ _
    be := by simpa using k1c'.out.set 0 (.int .u32 (F : Int))
    bo := k2c'.out.ch hcl (by simp)
    zs := by
      have h1 := own_ch hown'.out hcl (fun g hg hm => by
        simp at hm
        exact (own_ty hown'.out hg).ne k1c'.out.ty (by decide) hm)
      rw [hN'.out] at h1 ⊢
      exact h1
    za := hall'.out.imp fun _ _ k => k.ch hcl (fun b hb _ => by simpa using hb.ne k1c'.out.ty (by decide))
    bl := (hcC'.out.below_nil).setCell (p := ⟨w.heap.size + 1, 0, none⟩) (by show w.heap.size ≤ w.heap.size + 1; omega) _ }
  clear e1 g1
  have hrel0' := Lib.hid hrel0
  have hcl' := Lib.hid hcl
  clear hcl hrel0
  go_loopw [24] (fun s24 wx => ∃ (j : Nat) (x : Value), s24 = .int .i64 (j : Int) ∧ RLRel w.heap.size B (.slice av N cv) css L F w j x wx) (fun s24 _ => N - (intOf s24).toNat)
  case atStart => exact ⟨0, _, rfl, hrel0'.out⟩
  case round =>
    obtain ⟨j, x, rfl, hR⟩ := hrel
    have hj := hR.hj
    rw [hN'.out] at hj
    obtain ⟨ax, cx, rfl⟩ : ∃ A c, x = .slice A j c := by
      obtain ⟨A, c, h⟩ := ents_form hR.ex
      exact ⟨A, c, by rw [h, List.length_take, hN'.out, Nat.min_eq_left hj]⟩
    have b0 := hR.bx.cell 0
    have f0 := hR.bx.free 0
    simp at b0
    by_cases hlt : j < N
    · have hltI : (j : Int) < (N : Int) := by omega
      have hjl : j < L.length := by rw [hN'.out]; exact hlt
      obtain ⟨cs, hcs, hz⟩ := hR.za.get hjl
      have h8 : ∀ c, c ∈ css → c.length = 8 := fun c hc => by
        obtain ⟨e, A1, c1, A2, c2, hd, rfl, _⟩ := hR.za.mem_left c hc
        rfl
      have hfl := zz_flat css h8 j cs hcs
      obtain ⟨E, hE⟩ : ∃ E, L[j] = E := ⟨_, rfl⟩
      rw [hE] at hz
      obtain ⟨A1, c1, A2, c2, hd, rfl, hs1k, hs2k⟩ := hz
      have hzs := hR.zs
      rw [hN'.out] at hzs
      obtain ⟨g, rfl, hg0, z0⟩ := own_cell hzs ((hfl 0 (by omega)).trans rfl)
      have hcl8 : ∀ i u, ([Value.slice A1 E.key.length c1, .slice A2 E.val.length c2, .int .u8 (E.bits : Int), .int .u8 (E.um : Int), .int .u64 (E.exp : Int), .int .u32 (E.off : Int), .int .u32 (E.len : Int), .int .u32 hd] : List Value)[i]? = some u → i < 8 → wr.cell? ⟨g, j * 8 + i, none⟩ = some u := fun i u hu hi => by
        obtain ⟨g', hge, _, hz⟩ := own_cell hzs ((hfl i hi).trans hu)
        simp only [Option.some.injEq, Addr.mk.injEq, and_true] at hge
        subst hge
        exact hz
      have z1 := hcl8 1 _ rfl (by omega)
      have z2 := hcl8 2 _ rfl (by omega)
      have z3 := hcl8 3 _ rfl (by omega)
      have z4 := hcl8 4 _ rfl (by omega)
      have z5 := hcl8 5 _ rfl (by omega)
      have z6 := hcl8 6 _ rfl (by omega)
      have z7 := hcl8 7 _ rfl (by omega)
      simp only [Nat.add_zero] at z0
      have hcX : Ch [] wr (wr.alloc (.cells #[Value.slice A1 E.key.length c1, .slice A2 E.val.length c2, .int .u8 (E.bits : Int), .int .u8 (E.um : Int), .int .u64 (E.exp : Int), .int .u32 (E.off : Int), .int .u32 (E.len : Int), .int .u32 hd] 58)) := (Ch.refl [] wr).alloc _
      have hk1 := run_b2sU 22 9 5 Tryz.underlying22 Tryz.underlying5 Tryz.underlying9 A1 E.key.length c1 E.key _ (hs1k.ch hcX (by simp)).s
      have hk2 := run_b2sU 22 9 5 Tryz.underlying22 Tryz.underlying5 Tryz.underlying9 A2 E.val.length c2 E.val _ (hs2k.ch hcX (by simp)).s
      have hex : (wr.alloc (.cells #[Value.slice A1 E.key.length c1, .slice A2 E.val.length c2, .int .u8 (E.bits : Int), .int .u8 (E.um : Int), .int .u64 (E.exp : Int), .int .u32 (E.off : Int), .int .u32 (E.len : Int), .int .u32 hd] 58)).ownsRow w.heap.size 30 7 (.slice ax j cx) j (entCs (L.take j)) := by
        have h := World.ownsRow.alloc hR.ex (.cells #[Value.slice A1 E.key.length c1, .slice A2 E.val.length c2, .int .u8 (E.bits : Int), .int .u8 (E.um : Int), .int .u64 (E.exp : Int), .int .u32 (E.off : Int), .int .u32 (E.len : Int), .int .u32 hd] 58)
        rw [show (L.take j).length = j by rw [List.length_take]; omega] at h
        exact h
      have hex2 := World.ownsRow.alloc hex (.cells #[Value.string ⟨E.key.toArray⟩, .string ⟨E.val.toArray⟩, .int .u8 (E.bits : Int), .int .u8 (E.um : Int), .int .u64 (E.exp : Int), .int .u32 (E.off : Int), .int .u32 (E.len : Int)] 30)
      have hone := entCs_one [E]
      have hnews : (enC E).toList = [Value.string ⟨E.key.toArray⟩, .string ⟨E.val.toArray⟩, .int .u8 (E.bits : Int), .int .u8 (E.um : Int), .int .u64 (E.exp : Int), .int .u32 (E.off : Int), .int .u32 (E.len : Int)] := rfl
      have hone2 : ∀ u ∈ [Value.string ⟨E.key.toArray⟩, .string ⟨E.val.toArray⟩, .int .u8 (E.bits : Int), .int .u8 (E.um : Int), .int .u64 (E.exp : Int), .int .u32 (E.off : Int), .int .u32 (E.len : Int)], u.oneCell' = true := fun u hu => hone u (by simpa [entCs, enC, entCells] using hu)
      have hblz := hR.bl.size
      have hlt0 := hR.bx.lt
      clear hone hcl8 hfl h8 hnews
      have hR' := Lib.hid hR
      have hcs' := Lib.hid hcs
      have hE' := Lib.hid hE
      have hs1k' := Lib.hid hs1k
      have hs2k' := Lib.hid hs2k
      have hzs' := Lib.hid hzs
      have hcX' := Lib.hid hcX
      have hex' := Lib.hid hex
      have hex2' := Lib.hid hex2
      have hone2' := Lib.hid hone2
      clear hone2 hex2 hex hcX hzs hs2k hs1k hE hcs hR
      go_upto_region 9 with fail
      go_wp2_with (at_builtin; refine wpList_appendN rfl (.tmp 28) (.tmp 46) 23 rfl w.heap.size 30 7 Tryz.underlying23 (by kernel_rfl) (by omega) _ j (entCs (L.take j)) rfl hex2'.out ⟨wr.heap.size + 1, 0, none⟩ 1 1 [Value.string ⟨E.key.toArray⟩, .string ⟨E.val.toArray⟩, .int .u8 (E.bits : Int), .int .u8 (E.um : Int), .int .u64 (E.exp : Int), .int .u32 (E.off : Int), .int .u32 (E.len : Int)] rfl rfl (bk_news (Bk.at_ _ _ _ _ (by simp))) hone2'.out (by omega) (by simp; omega) ?_; intro A' c' w4 hown4 hch4 hloc4; have hbx4 := ((hR'.out.bx.alloc _).alloc _).ch hch4 (ty_notin hex2'.out ((hR'.out.bx.alloc _).alloc _).ty (by decide)); have b4 := hbx4.cell 0; have f4 := hbx4.free 0; simp at b4; have hown4' := Lib.hid hown4; have hch4' := Lib.hid hch4; have hbx4' := Lib.hid hbx4; clear hown4 hch4 hbx4)
      go_roundw
      case rel =>
        have hEe := hE'.out
        refine ⟨j + 1, _, by go_num, hR'.out.next hjl (hcX'.out.alloc _) hch4'.out ?_ (Nat.le_refl _)⟩
        rw [hEe]
        exact hown4'.out
      case measure => simp [intOf]; omega
    · obtain rfl : j = N := by omega
      have hltI : ¬ (j : Int) < (j : Int) := by omega
      have e1 := hR.be.cell 0
      have g1 := hR.be.free 0
      have o2 := hR.bo.cell 0
      have p2 := hR.bo.free 0
      simp at e1 o2
      have hR' := Lib.hid hR
      clear hR
      have hl0 := hR'.out.bx.lt
      have hl1 := hR'.out.be.lt
      have hl2 := hR'.out.bo.lt
      go_upto_region 11 with fail
      go_region
      all_goals
        go_wp2_with fail
        refine leaves_cons (f := 21) (args := #[.pointer (some ⟨w.heap.size, 0, none⟩), .pointer (some ⟨w.heap.size + 1, 0, none⟩), .pointer (some ⟨w.heap.size + 1 + 1, 0, none⟩)]) (by simp) (by simp [go_sem]) ?_
        refine (catch_idle _ _ _ _).mono ?_
        rintro e u' w'' ⟨rfl, rfl, rfl⟩
        have hfin : ∀ W, Ch [w.heap.size, w.heap.size + 1, w.heap.size + 1 + 1] wr W → RLPost b w (.returned (.tuple #[.slice ax j cx, .int .u32 (F : Int), .bool true])) W := fun W hcq => by
          have hTL : L.take j = L := List.take_of_length_le (by rw [hN'.out]; omega)
          have hex := hR'.out.ex.ch hcq (fun g hg hm => by
            have ht := own_ty hR'.out.ex hg
            simp at hm
            rcases hm with h | h | h
            · exact ht.ne hR'.out.bx.ty (by decide) h
            · exact ht.ne hR'.out.be.ty (by decide) h
            · exact ht.ne hR'.out.bo.ty (by decide) h)
          rw [hTL] at hex
          exact ⟨_, by rw [hF'.out], by rw [hL'.out]; exact hex, hR'.out.bl.trans (hcq.below hR'.out.bl.size (fun k hk => by simp at hk; omega))⟩
        refine ⟨.tuple #[.slice ax j cx, .int .u32 (F : Int), .bool true], by simp [results, Tryz.results8, go_sem, b0, e1, o2], hfin _ ?_⟩
        exact ((((Ch.refl _ wr).setCell (p := ⟨w.heap.size, 0, none⟩) (.inl (by simp)) _).setCell (p := ⟨w.heap.size + 1, 0, none⟩) (.inl (by simp)) _).setCell (p := ⟨w.heap.size + 1 + 1, 0, none⟩) (.inl (by simp)) _).drew
end Go.Proofs.YtpndlcjilgcfkaaGreatDoor
