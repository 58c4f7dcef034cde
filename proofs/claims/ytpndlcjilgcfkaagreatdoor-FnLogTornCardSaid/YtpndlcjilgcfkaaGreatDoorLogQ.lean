/-
  Logs as they are written: a run over them on lists of bytes. Plain Lean, no program.
-/
import Derived.Test.YtpndlcjilgcfkaaGreatDoorLogP
namespace Go.Proofs.YtpndlcjilgcfkaaGreatDoor
open Go
open Go.Lib (uvarint)

/-- What stands of an entry ahead of its check. -/
def eHead (e : LEnt) : List UInt8 := hdrBytes e.key.length e.val.length e.exp e.bits e.um ++ e.key ++ e.val
/-- An entry's bytes. -/
def eBytes (e : LEnt) : List UInt8 := eHead e ++ Lib.beBytes 4 (crc32 (eHead e))
theorem eBytes_length (e : LEnt) : (eBytes e).length = (eHead e).length + 4 := by simp [eBytes, Lib.beBytes_length]
theorem eBytes_pos (e : LEnt) : 0 < (eBytes e).length := by rw [eBytes_length]; omega

/-- An entry that can be read back. -/
structure EOk (e : LEnt) : Prop where
  k : e.key ≠ []
  k1 : e.key.length ≤ 65536
  v : e.val.length ≤ 1048576
  m : e.bits < 256
  u : e.um < 256
  x : e.exp < 18446744073709551616

/-- The entry at its place. -/
def put (o : Nat) (e : LEnt) : LEnt := ⟨e.key, e.val, e.bits, e.um, e.exp, o, (eBytes e).length⟩

theorem entryAt_put {e : LEnt} (h : EOk e) (o : Nat) (r : List UInt8) : entryAt (eBytes e ++ r) o = .got (put o e) := by
  have h1 := entryAt_ent e.key e.val e.bits e.um e.exp o r h.k h.k1 h.v h.m h.u h.x (eHead e) rfl
  rw [eBytes, List.append_assoc, h1, put, eBytes_length]

/-- Some steps of the run. -/
inductive Steps (b : List UInt8) : LSt → LSt → Prop
  | refl {s : LSt} : Steps b s s
  | step {s s1 s2 : LSt} : lStep b s = .inl s1 → Steps b s1 s2 → Steps b s s2
theorem Steps.trans {b : List UInt8} {s s1 s2 : LSt} (h : Steps b s s1) (h2 : Steps b s1 s2) : Steps b s s2 := by
  induction h with
  | refl => exact h2
  | step h _ ih => exact .step h (ih h2)
theorem Steps.run {b : List UInt8} {s s' : LSt} (h : Steps b s s') : s.at_ ≤ b.length → lRun b (b.length + 1) s = lRun b (b.length + 1) s' := by
  induction h with
  | refl => intro _; rfl
  | step h _ ih =>
    intro ha
    have h1 := lStep_at h
    rw [lRun_step h, ← ih (by omega)]
    exact lRun_more b _ _ _ (by omega) (by omega) (by omega)

/-- Entries one behind the other, each at its place. -/
def placed (o : Nat) : List LEnt → List LEnt
  | [] => []
  | e :: r => put o e :: placed (o + (eBytes e).length) r
def bytesL : List LEnt → List UInt8
  | [] => []
  | e :: r => eBytes e ++ bytesL r
theorem bytesL_append : ∀ (l r : List LEnt), bytesL (l ++ r) = bytesL l ++ bytesL r := by
  intro l
  induction l with
  | nil => intro r; rfl
  | cons e l ih => intro r; simp [bytesL, ih]
theorem placed_append : ∀ (l r : List LEnt) (o : Nat), placed o (l ++ r) = placed o l ++ placed (o + (bytesL l).length) r := by
  intro l
  induction l with
  | nil => intro r o; simp [placed, bytesL]
  | cons e l ih => intro r o; simp [placed, bytesL, ih, Nat.add_assoc]
theorem placed_length : ∀ (l : List LEnt) (o : Nat), (placed o l).length = l.length := by
  intro l
  induction l with
  | nil => intro o; rfl
  | cons e l ih => intro o; simp [placed, ih]

theorem lStep_put {b : List UInt8} {s : LSt} {e : LEnt} {r : List UInt8} (hb : b.drop s.at_ = eBytes e ++ r) (h : EOk e) : lStep b s = lEnd s (put s.at_ e) := by
  unfold lStep
  rw [hb, entryAt_put h]

theorem drop_more {b x r : List UInt8} {n : Nat} (h : b.drop n = x ++ r) : b.drop (n + x.length) = r := by
  rw [← List.drop_drop, h, List.drop_left]

/-- Entries that stand by themselves. -/
theorem steps_plain (b : List UInt8) : ∀ (l : List LEnt) (s : LSt) (r : List UInt8), b.drop s.at_ = bytesL l ++ r → (∀ e, e ∈ l → EOk e ∧ e.bits / 64 % 2 = 0 ∧ e.bits / 128 % 2 = 0) → s.ver = 0 → s.op = [] → s.fin = s.at_ →
    Steps b s ⟨s.l ++ placed s.at_ l, [], 0, s.at_ + (bytesL l).length, s.at_ + (bytesL l).length⟩ := by
  intro l
  induction l with
  | nil =>
    intro s r hb _ h1 h2 h3
    obtain ⟨sl, sop, sver, sfin, sat⟩ := s
    simp only at h1 h2 h3
    subst h1 h2 h3
    simp only [placed, List.append_nil, bytesL, List.length_nil, Nat.add_zero]
    exact .refl
  | cons e l ih =>
    intro s r hb hl h1 h2 h3
    obtain ⟨he, hT, hN⟩ := hl e List.mem_cons_self
    have hb' : b.drop s.at_ = eBytes e ++ (bytesL l ++ r) := by rw [hb, bytesL, List.append_assoc]
    have hst : lStep b s = .inl ⟨s.l ++ [put s.at_ e], [], 0, s.at_ + (eBytes e).length, s.at_ + (eBytes e).length⟩ := by
      rw [lStep_put hb' he]
      simp [lEnd, put, hT, hN, h1, h2]
    have h4 := ih ⟨s.l ++ [put s.at_ e], [], 0, s.at_ + (eBytes e).length, s.at_ + (eBytes e).length⟩ r (drop_more hb') (fun x hx => hl x (List.mem_cons_of_mem _ hx)) rfl rfl rfl
    refine .step hst ?_
    simpa [placed, bytesL, Nat.add_assoc] using h4

/-- Entries of a transaction. -/
theorem steps_txn (b : List UInt8) (T : Nat) (hT0 : T ≠ 0) : ∀ (l : List LEnt) (s : LSt) (r : List UInt8), b.drop s.at_ = bytesL l ++ r → (∀ e, e ∈ l → EOk e ∧ e.bits / 64 % 2 = 1 ∧ tsOf e.key = T) → (s.ver = 0 ∨ s.ver = T) →
    Steps b s ⟨s.l, s.op ++ placed s.at_ l, if l = [] then s.ver else T, s.fin, s.at_ + (bytesL l).length⟩ := by
  intro l
  induction l with
  | nil =>
    intro s r hb _ h1
    obtain ⟨sl, sop, sver, sfin, sat⟩ := s
    simp only [placed, List.append_nil, bytesL, List.length_nil, Nat.add_zero, if_true]
    exact .refl
  | cons e l ih =>
    intro s r hb hl h1
    obtain ⟨he, hT, hK⟩ := hl e List.mem_cons_self
    have hb' : b.drop s.at_ = eBytes e ++ (bytesL l ++ r) := by rw [hb, bytesL, List.append_assoc]
    have hv : ¬ (s.ver ≠ 0 ∧ s.ver ≠ T) := by omega
    have hst : lStep b s = .inl ⟨s.l, s.op ++ [put s.at_ e], T, s.fin, s.at_ + (eBytes e).length⟩ := by
      rw [lStep_put hb' he]
      unfold lEnd
      rw [if_pos (show (put s.at_ e).bits / 64 % 2 = 1 from hT), show tsOf (put s.at_ e).key = T from hK, if_neg hT0, if_neg hv]
      rfl
    have h4 := ih ⟨s.l, s.op ++ [put s.at_ e], T, s.fin, s.at_ + (eBytes e).length⟩ r (drop_more hb') (fun x hx => hl x (List.mem_cons_of_mem _ hx)) (.inr rfl)
    refine .step hst ?_
    simpa [placed, bytesL, Nat.add_assoc] using h4

/-- The key of a transaction's end. -/
def txnKey : List UInt8 := [33, 98, 97, 100, 103, 101, 114, 33, 116, 120, 110]
/-- The end of a transaction. -/
def endE (T : Nat) : LEnt := ⟨keyTs txnKey T, dec T, 128, 0, 0, 0, 0⟩
def batBytes (t : Nat × List LEnt) : List UInt8 := bytesL t.2 ++ eBytes (endE t.1)
def batsBytes : List (Nat × List LEnt) → List UInt8
  | [] => []
  | t :: r => batBytes t ++ batsBytes r
/-- Where each transaction ends, and its entries at their places. -/
def batsAt (o : Nat) : List (Nat × List LEnt) → List (Nat × List LEnt)
  | [] => []
  | t :: r => (o + (batBytes t).length, placed o t.2) :: batsAt (o + (batBytes t).length) r
structure BOk (t : Nat × List LEnt) : Prop where
  t0 : t.1 ≠ 0
  t1 : t.1 < 18446744073709551616
  ne : t.2 ≠ []
  es : ∀ e, e ∈ t.2 → EOk e ∧ e.bits / 64 % 2 = 1 ∧ tsOf e.key = t.1

theorem dec_length : ∀ (k n : Nat), n < 10 ^ (k + 1) → (dec n).length ≤ k + 1 := by
  intro k
  induction k with
  | zero =>
    intro n h
    unfold dec
    rw [dif_pos (by simpa using h)]
    simp
  | succ k ih =>
    intro n h
    unfold dec
    split
    · simp
    · have h1 := ih (n / 10) (by rw [Nat.pow_succ] at h; omega)
      simp
      omega
theorem dec_len (n : Nat) (h : n < 18446744073709551616) : (dec n).length ≤ 20 := dec_length 19 n (Nat.lt_of_lt_of_le h (by decide))
theorem endE_ok (T : Nat) (h : T < 18446744073709551616) : EOk (endE T) where
  k := by simp [endE, keyTs, txnKey]
  k1 := by show (keyTs txnKey T).length ≤ _; rw [keyTs_length]; decide
  v := by have := dec_len T h; show (dec T).length ≤ _; omega
  m := by show (128 : Nat) < 256; decide
  u := by show (0 : Nat) < 256; decide
  x := by show (0 : Nat) < 18446744073709551616; decide

theorem steps_batch (b : List UInt8) (t : Nat × List LEnt) (ht : BOk t) (s : LSt) (r : List UInt8) (hb : b.drop s.at_ = batBytes t ++ r) (h1 : s.ver = 0) (h2 : s.op = []) :
    Steps b s ⟨s.l ++ placed s.at_ t.2, [], 0, s.at_ + (batBytes t).length, s.at_ + (batBytes t).length⟩ := by
  have hb1 : b.drop s.at_ = bytesL t.2 ++ (eBytes (endE t.1) ++ r) := by rw [hb, batBytes, List.append_assoc]
  have k1 := steps_txn b t.1 ht.t0 t.2 s _ hb1 ht.es (.inl h1)
  rw [if_neg ht.ne, h2, List.nil_append] at k1
  refine k1.trans (.step (s1 := ⟨s.l ++ placed s.at_ t.2, [], 0, s.at_ + (batBytes t).length, s.at_ + (batBytes t).length⟩) ?_ .refl)
  rw [lStep_put (s := ⟨s.l, placed s.at_ t.2, t.1, s.fin, s.at_ + (bytesL t.2).length⟩) (drop_more hb1) (endE_ok _ ht.t1)]
  simp [lEnd, put, endE, ht.t0, batBytes, Nat.add_assoc]

theorem batsAt_ge (t : Nat × List LEnt) : ∀ (ts : List (Nat × List LEnt)) (o : Nat), t ∈ batsAt o ts → o ≤ t.1 := by
  intro ts
  induction ts with
  | nil => intro o h; cases h
  | cons x r ih =>
    intro o h
    simp only [batsAt, List.mem_cons] at h
    rcases h with rfl | h
    · exact Nat.le_add_right _ _
    · exact Nat.le_trans (Nat.le_add_right _ _) (ih _ h)

/-- What of some transactions is whole ahead of a place. -/
def wholeAt (a : Nat) : List (Nat × List LEnt) → List LEnt
  | [] => []
  | t :: r => if t.1 ≤ a then t.2 ++ wholeAt a r else wholeAt a r
theorem wholeAt_none (a : Nat) : ∀ (l : List (Nat × List LEnt)), (∀ t, t ∈ l → a < t.1) → wholeAt a l = [] := by
  intro l
  induction l with
  | nil => intro _; rfl
  | cons x r ih =>
    intro h
    have := h x List.mem_cons_self
    rw [wholeAt, if_neg (by omega), ih fun t ht => h t (List.mem_cons_of_mem _ ht)]

theorem steps_whole (b : List UInt8) (a : Nat) : ∀ (ts : List (Nat × List LEnt)) (s : LSt), (∀ t, t ∈ ts → BOk t) → (b.drop s.at_).take (a - s.at_) = (batsBytes ts).take (a - s.at_) → s.ver = 0 → s.op = [] →
    ∃ s', Steps b s s' ∧ s'.l = s.l ++ wholeAt a (batsAt s.at_ ts) := by
  intro ts
  induction ts with
  | nil =>
    intro s _ _ _ _
    exact ⟨s, .refl, by simp [batsAt, wholeAt]⟩
  | cons t r ih =>
    intro s ht hb h1 h2
    by_cases hle : s.at_ + (batBytes t).length ≤ a
    · have hb1 : b.drop s.at_ = batBytes t ++ ((batsBytes r).take (a - s.at_ - (batBytes t).length) ++ (b.drop s.at_).drop (a - s.at_)) := by
        have h3 := List.take_append_drop (a - s.at_) (b.drop s.at_)
        rw [hb, batsBytes, List.take_append, List.take_of_length_le (by omega), List.append_assoc] at h3
        exact h3.symm
      have k1 := steps_batch b t (ht t List.mem_cons_self) s _ hb1 h1 h2
      have hd := drop_more hb1
      obtain ⟨s', k2, k3⟩ := ih ⟨s.l ++ placed s.at_ t.2, [], 0, s.at_ + (batBytes t).length, s.at_ + (batBytes t).length⟩ (fun x hx => ht x (List.mem_cons_of_mem _ hx)) (by
        show List.take (a - (s.at_ + (batBytes t).length)) (b.drop (s.at_ + (batBytes t).length)) = _
        have e1 : a - s.at_ - (batBytes t).length = a - (s.at_ + (batBytes t).length) := by omega
        have h3 : (b.drop s.at_).take (a - s.at_) = batBytes t ++ (batsBytes r).take (a - (s.at_ + (batBytes t).length)) := by
          rw [hb, batsBytes, List.take_append, List.take_of_length_le (by omega), e1]
        have h4 := congrArg (List.drop (batBytes t).length) h3
        rw [List.drop_left, List.drop_take, List.drop_drop, e1] at h4
        exact h4) rfl rfl
      exact ⟨s', k1.trans k2, by rw [k3, batsAt, wholeAt, if_pos hle, List.append_assoc]⟩
    · refine ⟨s, .refl, ?_⟩
      rw [batsAt, wholeAt, if_neg hle, wholeAt_none, List.append_nil]
      intro x hx
      have := batsAt_ge x r _ hx
      omega

/-- Of a log that agrees with some transactions up to a place, all count that are whole there. -/
theorem whole_prefix (b h20 : List UInt8) (ts : List (Nat × List LEnt)) (a : Nat) (hts : ∀ t, t ∈ ts → BOk t) (h20l : h20.length = 20) (ha : 20 ≤ a) (hbl : a ≤ b.length) (hb : b.take a = (h20 ++ batsBytes ts).take a) :
    wholeAt a (batsAt 20 ts) <+: (readLog b).1 := by
  obtain ⟨s', k1, k2⟩ := steps_whole b a ts ⟨[], [], 0, 20, 20⟩ hts (by
    have h4 := congrArg (List.drop 20) hb
    rw [List.drop_take, List.drop_take, ← h20l, List.drop_left] at h4
    rw [h20l] at h4
    exact h4) rfl rfl
  have h5 := k1.run (by show 20 ≤ _; omega)
  have h6 := lRun_prefix b (b.length + 1) s'
  rw [← h5, k2] at h6
  simpa [readLog] using h6

theorem uvOf_zero (n : Nat) : uvOf (List.replicate (n + 1) 0) = (0, 1) := by simp [uvOf, List.replicate_succ, uvGo]
theorem entryAt_zeros (z o : Nat) : entryAt (List.replicate z 0) o = .stop := by
  have e0 : uvOf [] = (0, 0) := rfl
  match z with
  | 0 => simp [entryAt]
  | 1 => simp [entryAt]
  | 2 => simp [entryAt, e0]
  | 3 =>
    have := uvOf_zero 0
    simp at this
    simp [entryAt, e0, this]
  | 4 =>
    have h1 := uvOf_zero 0
    have h2 := uvOf_zero 1
    simp [List.replicate_succ] at h1 h2
    simp [entryAt, e0, h1, h2, List.replicate_succ]
  | z + 5 =>
    have d2 : (List.replicate (z + 5) (0 : UInt8)).drop 2 = List.replicate (z + 2 + 1) 0 := by rw [List.drop_replicate]; rfl
    have d3 : (List.replicate (z + 5) (0 : UInt8)).drop 3 = List.replicate (z + 1 + 1) 0 := by rw [List.drop_replicate]; rfl
    have d4 : (List.replicate (z + 5) (0 : UInt8)).drop 4 = List.replicate (z + 1) 0 := by rw [List.drop_replicate]; rfl
    unfold entryAt
    rw [if_neg (by simp)]
    simp only [d2, uvOf_zero]
    rw [if_neg (by decide)]
    simp only [show 2 + (1 : Int).toNat = 3 from rfl, d3, uvOf_zero]
    rw [if_neg (by decide)]
    simp only [show 3 + (1 : Int).toNat = 4 from rfl, d4, uvOf_zero]
    rw [if_neg (by decide), if_neg (by decide)]
    split
    · rfl
    · rw [if_pos trivial]

/-- What stands by itself, zeros behind it, is read as it was. -/
theorem readLog_plain (h20 : List UInt8) (l : List LEnt) (z : Nat) (h20l : h20.length = 20) (hl : ∀ e, e ∈ l → EOk e ∧ e.bits / 64 % 2 = 0 ∧ e.bits / 128 % 2 = 0) :
    readLog (h20 ++ bytesL l ++ List.replicate z 0) = (placed 20 l, 20 + (bytesL l).length, true) := by
  obtain ⟨b, hb⟩ : ∃ b, h20 ++ bytesL l ++ List.replicate z 0 = b := ⟨_, rfl⟩
  have hd : b.drop 20 = bytesL l ++ List.replicate z 0 := by rw [← hb, List.append_assoc, ← h20l, List.drop_left]
  have hbl : 20 ≤ b.length := by rw [← hb]; simp; omega
  have k1 := steps_plain b l ⟨[], [], 0, 20, 20⟩ (List.replicate z 0) hd hl rfl rfl rfl
  have k2 := k1.run (by show 20 ≤ _; omega)
  have k3 : b.drop (20 + (bytesL l).length) = List.replicate z 0 := drop_more hd
  have k4 : lStep b ⟨placed 20 l, [], 0, 20 + (bytesL l).length, 20 + (bytesL l).length⟩ = .inr (placed 20 l, 20 + (bytesL l).length, true) := by
    unfold lStep
    rw [show b.drop (LSt.at_ ⟨placed 20 l, [], 0, 20 + (bytesL l).length, 20 + (bytesL l).length⟩) = _ from k3, entryAt_zeros]
  rw [hb]
  unfold readLog
  rw [k2]
  simp only [List.nil_append]
  conv => lhs; unfold lRun
  rw [k4]
end Go.Proofs.YtpndlcjilgcfkaaGreatDoor
