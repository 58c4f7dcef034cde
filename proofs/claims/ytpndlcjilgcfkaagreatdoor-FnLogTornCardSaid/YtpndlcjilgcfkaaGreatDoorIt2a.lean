/-
  What logFile.iterate's loop keeps, from round to round; plain laws for it.
-/
import Derived.Test.YtpndlcjilgcfkaaGreatDoorIt1
import Derived.Test.YtpndlcjilgcfkaaGreatDoorDecP
namespace Go.Proofs.YtpndlcjilgcfkaaGreatDoor
open Go Go.RowKit
open Go.Proofs

theorem and64_ : ∀ a : Fin 32, ∀ b : Fin 8, (a.val * 8 + b.val) &&& 64 = (a.val * 8 + b.val) / 64 % 2 * 64 := by decide +kernel
theorem and128_ : ∀ a : Fin 32, ∀ b : Fin 8, (a.val * 8 + b.val) &&& 128 = (a.val * 8 + b.val) / 128 % 2 * 128 := by decide +kernel
theorem and64 (m : Nat) (h : m < 256) : bits .and .u8 (m : Int) 64 = ((m / 64 % 2 * 64 : Nat) : Int) := by
  have h1 := u8_and_nat m 64 h (by omega)
  have h2 := and64_ ⟨m / 8, by omega⟩ ⟨m % 8, by omega⟩
  rw [show m / 8 * 8 + m % 8 = m by omega] at h2
  rw [← h2]
  exact h1
theorem and128 (m : Nat) (h : m < 256) : bits .and .u8 (m : Int) 128 = ((m / 128 % 2 * 128 : Nat) : Int) := by
  have h1 := u8_and_nat m 128 h (by omega)
  have h2 := and128_ ⟨m / 8, by omega⟩ ⟨m % 8, by omega⟩
  rw [show m / 8 * 8 + m % 8 = m by omega] at h2
  rw [← h2]
  exact h1

theorem lRun_inr {b : List UInt8} {k : Nat} {s : LSt} {r : List LEnt × Nat × Bool} (h : lStep b s = .inr r) (hk : 0 < k) : lRun b k s = r := by
  obtain ⟨k, rfl⟩ : ∃ j, k = j + 1 := ⟨k - 1, by omega⟩
  unfold lRun
  rw [h]
theorem lStep_bad {b : List UInt8} {s : LSt} (h : entryAt (b.drop s.at_) s.at_ = .bad) : lStep b s = .inr (s.l, s.fin, false) := by unfold lStep; rw [h]
theorem lStep_stop {b : List UInt8} {s : LSt} (h : entryAt (b.drop s.at_) s.at_ = .stop) : lStep b s = .inr (s.l, s.fin, true) := by unfold lStep; rw [h]
theorem lStep_got {b : List UInt8} {s : LSt} {e : LEnt} (h : entryAt (b.drop s.at_) s.at_ = .got e) : lStep b s = lEnd s e := by unfold lStep; rw [h]

theorem StopErr.fwd {B : Nat} {S : List Nat} {w w' : World} {a : Addr} (h : StopErr w a) (hgs : Gs B w) (hc : Ch S w w') (hS : ∀ k, k ∈ S → B ≤ k) : StopErr w' a := by
  have hB := hgs.hB
  unfold glN at hB
  rcases h with (h | h) | h
  · exact .inl (.inl ((hc.cell 0 (block_lt_of_cell h) (fun hm => by have h0 : B ≤ 1 := hS _ hm; omega)).trans h))
  · exact .inl (.inr ((hc.cell 0 (block_lt_of_cell h) (fun hm => by have h0 : B ≤ 2 := hS _ hm; omega)).trans h))
  · exact .inr ((hc.cell 0 (block_lt_of_cell h) (fun hm => by have h0 : B ≤ 3 := hS _ hm; omega)).trans h)

/-- One of the three tests strikes. -/
theorem stop_tests {B : Nat} {w : World} {a a1 a2 a3 : Addr} (h : StopErr w a) (hgs : Gs B w)
    (e1 : w.cell? ⟨1, 0, none⟩ = some (.iface 191 (.pointer (some a1)))) (e2 : w.cell? ⟨2, 0, none⟩ = some (.iface 191 (.pointer (some a2)))) (e3 : w.cell? ⟨3, 0, none⟩ = some (.iface 191 (.pointer (some a3)))) :
    ∃ r1 r2 r3 : Bool, (binOp .eql 54 (.iface 191 (.pointer (some a))) (.iface 191 (.pointer (some a1)))).run Tryz.prog w = .ok (.bool r1) w ∧
      (binOp .eql 54 (.iface 191 (.pointer (some a))) (.iface 191 (.pointer (some a2)))).run Tryz.prog w = .ok (.bool r2) w ∧
      (binOp .eql 54 (.iface 191 (.pointer (some a))) (.iface 191 (.pointer (some a3)))).run Tryz.prog w = .ok (.bool r3) w ∧ (r1 = false → r2 = false → r3 = true) := by
  obtain ⟨b1, f1, p1⟩ := hgs.eof
  obtain ⟨b2, f2, p2⟩ := hgs.un
  obtain ⟨b3, f3, p3⟩ := hgs.tr
  rw [e1] at f1
  rw [e2] at f2
  rw [e3] at f3
  obtain rfl : a1 = b1 := by simpa using f1
  obtain rfl : a2 = b2 := by simpa using f2
  obtain rfl : a3 = b3 := by simpa using f3
  have hp := h.pt hgs
  obtain ⟨r1, q1⟩ := eqAny a a1 w hp p1
  obtain ⟨r2, q2⟩ := eqAny a a2 w hp p2
  obtain ⟨r3, q3⟩ := eqAny a a3 w hp p3
  refine ⟨r1, r2, r3, q1, q2, q3, ?_⟩
  intro n1 n2
  rcases h with (h | h) | h
  · rw [e1] at h
    obtain rfl : a1 = a := by simpa using h
    rw [eqSame] at q1
    subst n1
    simp at q1
  · rw [e2] at h
    obtain rfl : a2 = a := by simpa using h
    rw [eqSame] at q2
    subst n2
    simp at q2
  · rw [e3] at h
    obtain rfl : a3 = a := by simpa using h
    rw [eqSame] at q3
    simpa using q3.symm

theorem SrcU.mono {B B' : Nat} {w : World} {A : Option Addr} {n : Nat} {l : List UInt8} (h : SrcU B w A n l) (hB : B' ≤ B) : SrcU B' w A n l :=
  ⟨h.s, fun b o e => ⟨Nat.le_trans hB (h.u b o e).1, (h.u b o e).2⟩⟩

theorem entryAt_bad {l : List UInt8} {o o' : Nat} (h : entryAt l o = .bad) : entryAt l o' = .bad := by
  unfold entryAt at h ⊢
  dsimp only at h ⊢
  split at h
  · cases h
  rename_i c1
  rw [if_neg c1]
  split at h
  · rename_i c2
    rw [if_pos c2]
    exact h
  rename_i c2
  rw [if_neg c2]
  split at h
  · rename_i c3
    rw [if_pos c3]
    exact h
  rename_i c3
  rw [if_neg c3]
  split at h
  · rename_i c4
    rw [if_pos c4]
    exact h
  rename_i c4
  rw [if_neg c4]
  split at h
  · rename_i c5
    rw [if_pos c5]
  split at h
  · cases h
  split at h <;> cases h

/-- What stays as it is from an entry to the next. -/
structure Bun (B0 B lb rb bb zb db sb lfb : Nat) (b : List UInt8) (at_ : Nat) (l : List LEnt) (w W : World) : Prop where
  rd : Rd rb bb zb db (b.drop at_) W
  sb : Sb sb at_ (.pointer (some ⟨lfb, 0, none⟩)) W
  gs : Gs B0 W
  zz : Zz B lb W l
  ch : Ch [lb] w W
  lt : rb < B ∧ bb < B ∧ zb < B ∧ db < B ∧ lb < B ∧ B0 ≤ B ∧ w.heap.size ≤ B

theorem Bun.keep {B0 B lb rb bb zb db sb lfb : Nat} {b : List UInt8} {at_ : Nat} {l : List LEnt} {w W W' : World} {S : List Nat} {t : TypeId} (h : Bun B0 B lb rb bb zb db sb lfb b at_ l w W) (hc : Ch S W W') (hS : ∀ k, k ∈ S → B ≤ k ∧ TyAt W k t)
    (h1 : t ≠ 5) (h2 : t ≠ 135) (h3 : t ≠ 58) : Bun B0 B lb rb bb zb db sb lfb b at_ l w W' := by
  obtain ⟨k1, k2, k3, k4, k5, k6, k7⟩ := h.lt
  have hlow : ∀ g, g < B → g ∉ S := fun g hg hm => by have := (hS g hm).1; omega
  obtain ⟨a1, n1, c1, a2, n2, c2, hsb⟩ := h.sb
  exact ⟨h.rd.ch hc (hlow _ k1) (hlow _ k2) (hlow _ k3) (hlow _ k4), ⟨a1, n1, c1, a2, n2, c2, hsb.ch hc fun hm => (hS _ hm).2.ne hsb.ty h2 rfl⟩, h.gs.ch hc fun k hk => by have := (hS k hk).1; omega,
    h.zz.ch hc (hlow _ k5) (fun g hg _ hm => hg.ne (hS g hm).2 (Ne.symm h1) rfl) (fun g hg _ hm => hg.ne (hS g hm).2 (Ne.symm h3) rfl), h.ch.trans' hc fun k hk => .inr (by have := (hS k hk).1; omega), h.lt⟩
theorem Bun.nil {B0 B lb rb bb zb db sb lfb : Nat} {b : List UInt8} {at_ : Nat} {l : List LEnt} {w W W' : World} (h : Bun B0 B lb rb bb zb db sb lfb b at_ l w W) (hc : Ch [] W W') : Bun B0 B lb rb bb zb db sb lfb b at_ l w W' :=
  h.keep (t := 64) hc (by simp) (by decide) (by decide) (by decide)

theorem EpAt.keep {B : Nat} {S : List Nat} {t : TypeId} {W W' : World} {v : Value} {e : LEnt} (h : EpAt B W v e) (hc : Ch S W W') (hS : ∀ k, k ∈ S → TyAt W k t) (h1 : t ≠ 5) (h2 : t ≠ 64) : EpAt B W' v e :=
  h.ch hc (fun g hg _ hm => hg.ne (hS g hm) (Ne.symm h1) rfl) (fun g hg _ hm => hg.ne (hS g hm) (Ne.symm h2) rfl)
theorem Eps.keep {B : Nat} {S : List Nat} {t : TypeId} {W W' : World} {v : Value} {l : List LEnt} (h : Eps B W v l) (hc : Ch S W W') (hS : ∀ k, k ∈ S → TyAt W k t) (h1 : t ≠ 5) (h2 : t ≠ 64) (h3 : t ≠ 60) : Eps B W' v l :=
  h.ch hc (fun g hg _ hm => hg.ne (hS g hm) (Ne.symm h1) rfl) (fun g hg _ hm => hg.ne (hS g hm) (Ne.symm h2) rfl) (fun g hg _ hm => hg.ne (hS g hm) (Ne.symm h3) rfl)
theorem Vps.keep {B : Nat} {S : List Nat} {t : TypeId} {W W' : World} {v : Value} {l : List LEnt} (h : Vps B W v l) (hc : Ch S W W') (hS : ∀ k, k ∈ S → TyAt W k t) (h1 : t ≠ 101) : Vps B W' v l :=
  h.ch hc (fun g hg _ hm => hg.ne (hS g hm) (Ne.symm h1) rfl)

/-- The loop of iterate. -/
structure ItRel (B0 B lb rb bb zb db sb lfb : Nat) (b : List UInt8) (r : List LEnt × Nat × Bool) (s : LSt) (v14 v15 : Value) (w wr : World) : Prop where
  h1 : s.at_ ≤ b.length
  h3 : ∃ k, b.length < k + s.at_ ∧ lRun b k s = r
  h4 : s.ver < 18446744073709551616
  h5 : s.fin ≤ b.length
  h6 : s.l.length + s.op.length ≤ s.at_
  rd : Rd rb bb zb db (b.drop s.at_) wr
  sb : Sb sb s.at_ (.pointer (some ⟨lfb, 0, none⟩)) wr
  gs : Gs B0 wr
  zz : Zz B lb wr s.l
  ep : Eps B wr v14 s.op
  vp : Vps B wr v15 s.op
  ch : Ch [lb] w wr

/-- An entry was read and its place reckoned: what holds then. -/
theorem it_mid {B0 B lb db sb lfb eb kk v x m u nn qn1 qc1 qn2 qc2 c1 c2 : Nat} {qa1 qa2 A1 A2 : Option Addr} {b : List UInt8} {r : List LEnt × Nat × Bool} {s : LSt} {E : LEnt} {v14 v15 : Value} {w wr w1 wc : World}
    (hI : ItRel B0 (B + 3) lb (B + 1) (B + 2) B db sb lfb b r s v14 v15 w wr) (h1 : B0 ≤ lb) (h2 : lb < B) (h3 : db < B) (h4 : B + 3 ≤ sb) (h5 : w.heap.size ≤ B)
    (hgs1 : Gs B0 w1) (hzz1 : Zz (B + 3) lb w1 s.l) (hch1 : Ch [lb] w w1) (hc1 : Ch [sb, B + 1, B + 2, B] wr w1) (hc2 : Ch [sb] w1 wc)
    (hr1 : Rd (B + 1) (B + 2) B db ((b.drop s.at_).drop (nn + kk + v + 4)) w1) (hsb1 : TyAt w1 sb 135)
    (hsb2 : Bk wc sb 135 #[.slice qa1 qn1 qc1, .slice qa2 qn2 qc2, .int .u32 ((s.at_ : Int) + ((nn : Int) + (kk : Int) + (v : Int) + 4)), .pointer (some ⟨lfb, 0, none⟩)])
    (hbe : Bk w1 eb 64 (entC (.slice A1 kk c1) (.slice A2 v c2) x s.at_ u m nn)) (hs1 : SrcU wr.heap.size w1 A1 kk E.key) (hs2 : SrcU wr.heap.size w1 A2 v E.val) (hkc : kk ≤ c1) (hvc : v ≤ c2) (heb : wr.heap.size ≤ eb) (hnn : nn ≤ 1000000000)
    (e1 : E.key.length = kk) (e2 : E.val.length = v) (e3 : E.exp = x) (e4 : E.off = s.at_) (e5 : E.um = u) (e6 : E.bits = m) (e7 : E.len = nn + kk + v + 4) :
    Bun B0 (B + 3) lb (B + 1) (B + 2) B db sb lfb b (s.at_ + E.len) s.l w wc ∧ EpAt (B + 3) wc (.pointer (some ⟨eb, 0, none⟩)) E ∧ Eps (B + 3) wc v14 s.op ∧ Vps (B + 3) wc v15 s.op ∧ s.l.length + s.op.length ≤ s.at_ := by
  obtain ⟨_, _, _, _, _, _, hsbr⟩ := hI.sb
  have hsblt := hsbr.lt
  have hsty : ∀ k, k ∈ [sb] → TyAt w1 k 135 := by intro k hk; simp at hk; subst hk; exact hsb1
  have hS8 : ∀ t, t ≠ 135 → ∀ g, TyAt wr g t → B + 3 ≤ g → g ∉ [sb, B + 1, B + 2, B] := by
    intro t ht g h1 h2 hm
    have h3 := h1.ne hsbr.ty ht
    simp at hm
    omega
  refine ⟨⟨?_, ⟨qa1, qn1, qc1, qa2, qn2, qc2, ?_⟩, hgs1.ch hc2 (by simp; omega), hzz1.ch hc2 (by simp; omega) (fun g hg _ hm => hg.ne (hsty g hm) (by decide) rfl) (fun g hg _ hm => hg.ne (hsty g hm) (by decide) rfl), hch1.trans' hc2 (by simp; omega), by omega⟩, ?_, ?_, ?_, hI.h6⟩
  · have h := hr1.ch hc2 (by simp; omega) (by simp; omega) (by simp; omega) (by simp; omega)
    rw [List.drop_drop] at h
    rw [e7]
    exact h
  · have h9 : ((s.at_ + E.len : Nat) : Int) = (s.at_ : Int) + ((nn : Int) + (kk : Int) + (v : Int) + 4) := by rw [e7]; simp
    rw [h9]
    exact hsb2
  · refine EpAt.keep (t := 135) ⟨eb, A1, c1, A2, c2, nn, rfl, ?_, ?_, ?_, ?_, ?_, hnn, by omega⟩ hc2 hsty (by decide) (by decide)
    · rw [e1, e2, e3, e4, e5, e6]
      exact hbe
    · rw [e1]
      exact hs1.mono (by omega)
    · rw [e2]
      exact hs2.mono (by omega)
    · rw [e1]; exact hkc
    · rw [e2]; exact hvc
  · exact (hI.ep.ch hc1 (hS8 _ (by decide)) (hS8 _ (by decide)) (hS8 _ (by decide))).keep hc2 hsty (by decide) (by decide) (by decide)
  · exact (hI.vp.ch hc1 (hS8 _ (by decide))).keep hc2 hsty (by decide)

/-- An entry of a transaction: it is open. -/
theorem it_txn {B0 B lb rb bb zb db sb lfb k : Nat} {b : List UInt8} {r : List LEnt × Nat × Bool} {s : LSt} {E : LEnt} {T : Nat} {v14 v14' v15 v15' pe : Value} {xs cs : List Value} {ys : List (List Value)} {o1 o2 : Obj} {w w3 w4 w5 : World}
    (hbun : Bun B0 B lb rb bb zb db sb lfb b (s.at_ + E.len) s.l w w3) (hent : EpAt B w3 pe E) (hx1 : w3.ownsRow B 60 1 v14 s.op.length xs) (hx2 : All2 (EpAt B w3) xs s.op)
    (hy1 : w4.ownsRow B 101 3 v15 s.op.length ys.flatten) (hy2 : All2 VpAt ys s.op)
    (hown4 : w4.ownsRow B 60 1 v14' (s.op.length + 1) (xs ++ [pe])) (hc4 : Ch v14.ownBlock.toList (w3.alloc o1) w4)
    (hown5 : w5.ownsRow B 101 3 v15' (s.op.length + 1) (ys.flatten ++ cs)) (hc5 : Ch v15.ownBlock.toList (w4.alloc o2) w5) (hvp : VpAt cs E)
    (hk : b.length < k + s.at_) (hrun : lRun b k s = r) (hstep : lStep b s = .inl ⟨s.l, s.op ++ [E], T, s.fin, s.at_ + E.len⟩) (hT : T < 18446744073709551616) (hfin : s.fin ≤ b.length) (hat : s.at_ + E.len ≤ b.length) (hel : 0 < E.len) (h6 : s.l.length + s.op.length ≤ s.at_) (hat0 : s.at_ ≤ b.length) :
    ItRel B0 B lb rb bb zb db sb lfb b r ⟨s.l, s.op ++ [E], T, s.fin, s.at_ + E.len⟩ v14' v15' w w5 := by
  have ca : Ch [] w3 (w3.alloc o1) := (Ch.refl [] w3).alloc o1
  have cb : Ch [] w4 (w4.alloc o2) := (Ch.refl [] w4).alloc o2
  have hxa : (w3.alloc o1).ownsRow B 60 1 v14 s.op.length xs := hx1.alloc o1
  have hyb : (w4.alloc o2).ownsRow B 101 3 v15 s.op.length ys.flatten := hy1.alloc o2
  have S4 : ∀ g, g ∈ v14.ownBlock.toList → B ≤ g ∧ TyAt (w3.alloc o1) g 60 := fun g hg => ⟨(hxa.lt g (by simpa using hg)).1, own_ty hxa (by simpa using hg)⟩
  have S5 : ∀ g, g ∈ v15.ownBlock.toList → B ≤ g ∧ TyAt (w4.alloc o2) g 101 := fun g hg => ⟨(hyb.lt g (by simpa using hg)).1, own_ty hyb (by simpa using hg)⟩
  have n0 : ∀ W k, k ∈ ([] : List Nat) → TyAt W k 101 := fun _ _ h => by cases h
  have move : ∀ {v : Value} {e : LEnt}, EpAt B w3 v e → EpAt B w5 v e := fun h =>
    (((h.keep ca (n0 _) (by decide) (by decide)).keep hc4 (fun g hg => (S4 g hg).2) (by decide) (by decide)).keep cb (n0 _) (by decide) (by decide)).keep hc5 (fun g hg => (S5 g hg).2) (by decide) (by decide)
  have bun5 := (((hbun.nil ca).keep hc4 S4 (by decide) (by decide) (by decide)).nil cb).keep hc5 S5 (by decide) (by decide) (by decide)
  obtain ⟨k, rfl⟩ : ∃ j, k = j + 1 := ⟨k - 1, by omega⟩
  rw [lRun_step hstep] at hrun
  exact {
    h1 := hat
    h3 := ⟨k, by simp; omega, hrun⟩
    h4 := hT
    h5 := hfin
    h6 := by simp; omega
    rd := bun5.rd
    sb := bun5.sb
    gs := bun5.gs
    zz := bun5.zz
    ep := ⟨xs ++ [pe], by
      rw [List.length_append]
      exact own_ch (hown4.alloc o2) hc5 fun g hg hm => (own_ty (hown4.alloc o2) hg).ne (S5 g hm).2 (by decide) rfl, (hx2.imp fun _ _ h => move h).snoc (move hent)⟩
    vp := ⟨ys ++ [cs], by
      rw [List.flatten_append, List.length_append]
      simpa using hown5, hy2.snoc hvp⟩
    ch := bun5.ch }

/-- An entry is told. -/
theorem it_plain {B0 B lb rb bb zb db sb lfb k : Nat} {b : List UInt8} {r : List LEnt × Nat × Bool} {s : LSt} {E : LEnt} {v14 v15 : Value} {S : List Nat} {w wc w3 : World}
    (hbun : Bun B0 B lb rb bb zb db sb lfb b (s.at_ + E.len) s.l w wc) (heps : Eps B wc v14 s.op) (hvps : Vps B wc v15 s.op)
    (hz : Zz B lb w3 (s.l ++ [E])) (hc : Ch S wc w3) (hS1 : ∀ g, g ∈ S → g = lb ∨ B ≤ g) (hS2 : ∀ g t, TyAt wc g t → t ≠ 58 → t ≠ 52 → g ∉ S)
    (hne : rb ≠ lb ∧ bb ≠ lb ∧ zb ≠ lb ∧ db ≠ lb ∧ B0 ≤ lb) (hk : b.length < k + s.at_) (hrun : lRun b k s = r) (hstep : lStep b s = .inl ⟨s.l ++ [E], s.op, s.ver, s.at_ + E.len, s.at_ + E.len⟩)
    (hv : s.ver < 18446744073709551616) (hat : s.at_ + E.len ≤ b.length) (hel : 0 < E.len) (h6 : s.l.length + s.op.length ≤ s.at_) (hat0 : s.at_ ≤ b.length) :
    ItRel B0 B lb rb bb zb db sb lfb b r ⟨s.l ++ [E], s.op, s.ver, s.at_ + E.len, s.at_ + E.len⟩ v14 v15 w w3 := by
  obtain ⟨k1, k2, k3, k4, k5, k6, k7⟩ := hbun.lt
  obtain ⟨n1, n2, n3, n4, n5⟩ := hne
  have hlow : ∀ g, g < B → g ≠ lb → g ∉ S := fun g hg hn hm => by rcases hS1 g hm with h | h <;> omega
  obtain ⟨a1, m1, c1, a2, m2, c2, hsb⟩ := hbun.sb
  obtain ⟨k, rfl⟩ : ∃ j, k = j + 1 := ⟨k - 1, by omega⟩
  rw [lRun_step hstep] at hrun
  exact {
    h1 := hat
    h3 := ⟨k, by simp; omega, hrun⟩
    h4 := hv
    h5 := hat
    h6 := by simp; omega
    rd := hbun.rd.ch hc (hlow _ k1 n1) (hlow _ k2 n2) (hlow _ k3 n3) (hlow _ k4 n4)
    sb := ⟨a1, m1, c1, a2, m2, c2, hsb.ch hc (hS2 _ _ hsb.ty (by decide) (by decide))⟩
    gs := hbun.gs.ch hc fun g hg => by rcases hS1 g hg with h | h <;> omega
    zz := hz
    ep := heps.ch hc (fun g hg _ => hS2 _ _ hg (by decide) (by decide)) (fun g hg _ => hS2 _ _ hg (by decide) (by decide)) (fun g hg _ => hS2 _ _ hg (by decide) (by decide))
    vp := hvps.ch hc (fun g hg _ => hS2 _ _ hg (by decide) (by decide))
    ch := hbun.ch.trans' hc fun g hg => by
      rcases hS1 g hg with h | h
      · exact .inl (by simp [h])
      · exact .inr (by omega) }
end Go.Proofs.YtpndlcjilgcfkaaGreatDoor
