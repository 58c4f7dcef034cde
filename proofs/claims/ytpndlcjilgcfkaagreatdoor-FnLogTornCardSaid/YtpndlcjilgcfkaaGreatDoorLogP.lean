/-
  The log's format on lists of bytes: an entry at a place, the run over a log; what is written is read back. Plain Lean, no program.
-/
import Derived.Test.YtpndlcjilgcfkaaGreatDoorHdrMath
import Derived.Test.YtpndlcjilgcfkaaGreatDoorCrcMath
import Derived.Test.YtpndlcjilgcfkaaGreatDoorKeyMath
namespace Go.Proofs.YtpndlcjilgcfkaaGreatDoor
open Go
open Go.Lib (uvarint)

/-- A number in bytes of seven bits, i of them read: how many bytes it has; 0 if the bytes end ahead of it, -1 if it is too great. -/
def uvGo (i acc : Nat) : List UInt8 → Nat × Int
  | [] => (0, 0)
  | b :: r => if i = 9 ∧ 1 < b.toNat then (0, -1) else if b.toNat < 128 then (acc + b.toNat * 2 ^ (7 * i), ((i + 1 : Nat) : Int)) else uvGo (i + 1) (acc + b.toNat % 128 * 2 ^ (7 * i)) r
def uvOf (l : List UInt8) : Nat × Int := uvGo 0 0 l

theorem uvGo_lt : ∀ (l : List UInt8) (i acc : Nat), i ≤ 9 → acc < 2 ^ (7 * i) → (uvGo i acc l).1 < 18446744073709551616 := by
  intro l
  induction l with
  | nil => intro i acc _ _; simp [uvGo]
  | cons b r ih =>
    intro i acc hi ha
    have hp : (2 : Nat) ^ (7 * (i + 1)) = 2 ^ (7 * i) * 128 := by rw [Nat.mul_add, Nat.pow_add]
    have hb := b.toNat_lt
    unfold uvGo
    split
    · simp
    · rename_i h9
      rcases Nat.lt_or_ge i 9 with hi9 | hi9
      · have h63 : (2 : Nat) ^ (7 * (i + 1)) ≤ 2 ^ 63 := Nat.pow_le_pow_right (by omega) (by omega)
        have e63 : (2 : Nat) ^ 63 = 9223372036854775808 := by decide
        split
        · rename_i h128
          have : b.toNat * 2 ^ (7 * i) ≤ 127 * 2 ^ (7 * i) := Nat.mul_le_mul_right _ (by omega)
          show acc + b.toNat * 2 ^ (7 * i) < _
          omega
        · refine ih (i + 1) _ (by omega) ?_
          have : b.toNat % 128 * 2 ^ (7 * i) ≤ 127 * 2 ^ (7 * i) := Nat.mul_le_mul_right _ (by omega)
          omega
      · obtain rfl : i = 9 := by omega
        have h1 : b.toNat ≤ 1 := by omega
        have e63 : (2 : Nat) ^ (7 * 9) = 9223372036854775808 := by decide
        rw [if_pos (by omega)]
        rw [e63] at ha ⊢
        show acc + b.toNat * 9223372036854775808 < _
        omega
theorem uvOf_lt (l : List UInt8) : (uvOf l).1 < 18446744073709551616 := uvGo_lt l 0 0 (by omega) (by decide)

theorem uvGo_uvarint (r : List UInt8) : ∀ (k i acc x : Nat), i + k = 9 → acc < 2 ^ (7 * i) → acc + x * 2 ^ (7 * i) < 18446744073709551616 → x < 128 ^ (k + 1) →
    uvGo i acc (uvarint x ++ r) = (acc + x * 2 ^ (7 * i), ((i + (uvarint x).length : Nat) : Int)) := by
  intro k
  induction k with
  | zero =>
    intro i acc x hi ha hx hk
    have hx1 : x < 128 := by simpa using hk
    obtain rfl : i = 9 := by omega
    rw [Lib.uvarint_small hx1]
    have ht : (x.toUInt8).toNat = x := toU8 (by omega)
    have h1 : x ≤ 1 := by
      have e : (2 : Nat) ^ (7 * 9) = 9223372036854775808 := by decide
      rw [e] at hx
      omega
    simp only [List.cons_append, List.nil_append, uvGo, ht]
    rw [if_neg (by omega), if_pos hx1]
    rfl
  | succ k ih =>
    intro i acc x hi ha hx hk
    by_cases hx1 : x < 128
    · rw [Lib.uvarint_small hx1]
      have ht : (x.toUInt8).toNat = x := toU8 (by omega)
      simp only [List.cons_append, List.nil_append, uvGo, ht]
      rw [if_neg (by omega), if_pos hx1]
      rfl
    · rw [Lib.uvarint_big (by omega)]
      have ht : ((x % 128 + 128).toUInt8).toNat = x % 128 + 128 := toU8 (by omega)
      simp only [List.cons_append, uvGo, ht]
      rw [if_neg (by omega), if_neg (by omega)]
      have hp : (2 : Nat) ^ (7 * (i + 1)) = 2 ^ (7 * i) * 128 := by rw [Nat.mul_add, Nat.pow_add]
      have hm : (x % 128 + 128) % 128 = x % 128 := by omega
      have hs : x * 2 ^ (7 * i) = x % 128 * 2 ^ (7 * i) + x / 128 * (2 ^ (7 * i) * 128) := by
        have hd := Nat.div_add_mod x 128
        conv => lhs; rw [← hd]
        rw [Nat.add_mul, Nat.mul_comm (2 ^ (7 * i)) 128, ← Nat.mul_assoc, Nat.mul_comm 128 (x / 128)]
        omega
      have hk' : x / 128 < 128 ^ (k + 1) := by
        rw [Nat.pow_succ] at hk
        exact Nat.div_lt_of_lt_mul (by rw [Nat.mul_comm]; exact hk)
      have hlt : acc + x % 128 * 2 ^ (7 * i) < 2 ^ (7 * (i + 1)) := by
        rw [hp]
        have h1 : x % 128 * 2 ^ (7 * i) ≤ 127 * 2 ^ (7 * i) := Nat.mul_le_mul_right _ (by omega)
        omega
      rw [hm, ih (i + 1) (acc + x % 128 * 2 ^ (7 * i)) (x / 128) (by omega) hlt (by rw [hp]; omega) hk', hp]
      simp only [List.length_cons, Prod.mk.injEq]
      exact ⟨by omega, by omega⟩

/-- An entry of a log. -/
structure LEnt where
  key : List UInt8
  val : List UInt8
  bits : Nat
  um : Nat
  exp : Nat
  off : Nat
  len : Nat

/-- What stands at a place: nothing is said; nothing; an entry. -/
inductive LRes where
  | bad
  | stop
  | got (e : LEnt)

/-- What stands at the front of h, the place being o. -/
def entryAt (h : List UInt8) (o : Nat) : LRes :=
  if h.length < 2 then .stop else
  if (uvOf (h.drop 2)).2 ≤ 0 then (if (uvOf (h.drop 2)).2 = 0 then .stop else .bad) else
  let n1 := 2 + (uvOf (h.drop 2)).2.toNat
  if (uvOf (h.drop n1)).2 ≤ 0 then (if (uvOf (h.drop n1)).2 = 0 then .stop else .bad) else
  let n2 := n1 + (uvOf (h.drop n1)).2.toNat
  if (uvOf (h.drop n2)).2 ≤ 0 then (if (uvOf (h.drop n2)).2 = 0 then .stop else .bad) else
  let n := n2 + (uvOf (h.drop n2)).2.toNat
  let k := (uvOf (h.drop 2)).1
  let v := (uvOf (h.drop n1)).1
  if 4294967295 < k ∨ 1048576 < v then .bad else
  if 65536 < k ∨ h.length < n + k + v + 4 ∨ Lib.beNat ((h.drop (n + k + v)).take 4) ≠ crc32 (h.take (n + k + v)) then .stop else
  if k = 0 then .stop else
  .got ⟨(h.drop n).take k, (h.drop (n + k)).take v, (h.getD 0 0).toNat, (h.getD 1 0).toNat, (uvOf (h.drop n2)).1, o, n + k + v + 4⟩

/-- Decimal digits. -/
def dec (n : Nat) : List UInt8 := if h : n < 10 then [(48 + n).toUInt8] else dec (n / 10) ++ [(48 + n % 10).toUInt8]
termination_by n
decreasing_by omega

/-- The run over a log: what counts, what is open, the open version, where it ends, where it stands. -/
structure LSt where
  l : List LEnt
  op : List LEnt
  ver : Nat
  fin : Nat
  at_ : Nat

def lEnd (s : LSt) (e : LEnt) : LSt ⊕ (List LEnt × Nat × Bool) :=
  if e.bits / 64 % 2 = 1 then
    if tsOf e.key = 0 then .inr (s.l, s.fin, false)
    else if s.ver ≠ 0 ∧ s.ver ≠ tsOf e.key then .inr (s.l, s.fin, true)
    else .inl ⟨s.l, s.op ++ [e], tsOf e.key, s.fin, s.at_ + e.len⟩
  else if e.bits / 128 % 2 = 1 then
    if s.ver = 0 then .inr (s.l, s.fin, false)
    else if e.val ≠ dec s.ver then .inr (s.l, s.fin, decide (e.val = [] ∨ (e.val.getD 0 0).toNat ≠ 48 ∧ (e.val.getD 0 0).toNat ≠ 43))
    else .inl ⟨s.l ++ s.op, [], 0, s.at_ + e.len, s.at_ + e.len⟩
  else if s.ver ≠ 0 then .inr (s.l, s.fin, true)
  else .inl ⟨s.l ++ [e], s.op, s.ver, s.at_ + e.len, s.at_ + e.len⟩

def lStep (b : List UInt8) (s : LSt) : LSt ⊕ (List LEnt × Nat × Bool) :=
  match entryAt (b.drop s.at_) s.at_ with
  | .bad => .inr (s.l, s.fin, false)
  | .stop => .inr (s.l, s.fin, true)
  | .got e => lEnd s e

def lRun (b : List UInt8) : Nat → LSt → List LEnt × Nat × Bool
  | 0, s => (s.l, s.fin, false)
  | k + 1, s => match lStep b s with
    | .inl s' => lRun b k s'
    | .inr r => r

def readLog (b : List UInt8) : List LEnt × Nat × Bool := lRun b (b.length + 1) ⟨[], [], 0, 20, 20⟩

/-! ### The run ends -/
theorem entryAt_len {h : List UInt8} {o : Nat} {e : LEnt} (hg : entryAt h o = .got e) : 0 < e.len ∧ e.len ≤ h.length ∧ e.off = o ∧ e.key ≠ [] ∧ e.key.length + e.val.length + 9 ≤ e.len ∧ e.bits < 256 ∧ e.um < 256 ∧ e.exp < 18446744073709551616 := by
  unfold entryAt at hg
  split at hg
  · cases hg
  split at hg
  · split at hg <;> cases hg
  dsimp only at hg
  split at hg
  · split at hg <;> cases hg
  split at hg
  · split at hg <;> cases hg
  split at hg
  · cases hg
  split at hg
  · cases hg
  split at hg
  · cases hg
  rename_i h1 h2 h3 h4 h5 h6 h7
  injection hg with hg
  subst hg
  have hx := uvOf_lt (h.drop (2 + (uvOf (h.drop 2)).2.toNat + (uvOf (h.drop (2 + (uvOf (h.drop 2)).2.toNat))).2.toNat))
  have hlen : ¬ h.length < 2 + (uvOf (h.drop 2)).2.toNat + (uvOf (h.drop (2 + (uvOf (h.drop 2)).2.toNat))).2.toNat + (uvOf (h.drop (2 + (uvOf (h.drop 2)).2.toNat + (uvOf (h.drop (2 + (uvOf (h.drop 2)).2.toNat))).2.toNat))).2.toNat + (uvOf (h.drop 2)).1 + (uvOf (h.drop (2 + (uvOf (h.drop 2)).2.toNat))).1 + 4 := fun hc => h6 (.inr (.inl hc))
  refine ⟨?_, ?_, rfl, ?_, ?_, UInt8.toNat_lt _, UInt8.toNat_lt _, hx⟩
  · show 0 < _ + 4; omega
  · show _ + 4 ≤ _; omega
  · intro hc
    have := congrArg List.length hc
    simp at this
    omega
  · simp only [List.length_take, List.length_drop]
    omega

theorem lStep_at {b : List UInt8} {s s' : LSt} (h : lStep b s = .inl s') : s.at_ < s'.at_ ∧ s'.at_ ≤ max s.at_ b.length := by
  unfold lStep at h
  split at h
  · cases h
  · cases h
  · rename_i e he
    have hl := entryAt_len he
    have : s'.at_ = s.at_ + e.len := by
      unfold lEnd at h
      split at h
      · split at h
        · cases h
        · split at h
          · cases h
          · injection h with h; subst h; rfl
      · split at h
        · split at h
          · cases h
          · split at h
            · cases h
            · injection h with h; subst h; rfl
        · split at h
          · cases h
          · injection h with h; subst h; rfl
    have h2 := hl.2.1
    simp at h2
    omega

theorem lRun_more (b : List UInt8) : ∀ (k k' : Nat) (s : LSt), s.at_ ≤ b.length → b.length < k + s.at_ → b.length < k' + s.at_ → lRun b k s = lRun b k' s := by
  intro k
  induction k with
  | zero => intro k' s h1 h2; omega
  | succ k ih =>
    intro k' s h1 h2 h3
    obtain ⟨k', rfl⟩ : ∃ m, k' = m + 1 := ⟨k' - 1, by omega⟩
    unfold lRun
    split
    · rename_i s' hs
      have h := lStep_at hs
      exact ih k' s' (by omega) (by omega) (by omega)
    · rfl

theorem lRun_step {b : List UInt8} {k : Nat} {s s' : LSt} (h : lStep b s = .inl s') : lRun b (k + 1) s = lRun b k s' := by
  conv => lhs; unfold lRun
  rw [h]

/-- What counts stays. -/
theorem lEnd_l {s s' : LSt} {e : LEnt} (h : lEnd s e = .inl s') : s.l <+: s'.l := by
  unfold lEnd at h
  split at h
  · split at h
    · cases h
    · split at h
      · cases h
      · injection h with h; subst h; exact List.prefix_refl _
  · split at h
    · split at h
      · cases h
      · split at h
        · cases h
        · injection h with h; subst h; exact List.prefix_append _ _
    · split at h
      · cases h
      · injection h with h; subst h; exact List.prefix_append _ _
theorem lEnd_r {s : LSt} {e : LEnt} {r : List LEnt × Nat × Bool} (h : lEnd s e = .inr r) : r.1 = s.l ∧ r.2.1 = s.fin := by
  unfold lEnd at h
  repeat' (split at h)
  all_goals first | (cases h; done) | (injection h with h; subst h; exact ⟨rfl, rfl⟩)

theorem lRun_prefix (b : List UInt8) : ∀ (k : Nat) (s : LSt), s.l <+: (lRun b k s).1 := by
  intro k
  induction k with
  | zero => intro s; exact List.prefix_refl _
  | succ k ih =>
    intro s
    unfold lRun
    split
    · rename_i s' hs
      refine List.IsPrefix.trans ?_ (ih s')
      unfold lStep at hs
      split at hs
      · cases hs
      · cases hs
      · exact lEnd_l hs
    · rename_i r hr
      unfold lStep at hr
      split at hr
      · injection hr with hr; subst hr; exact List.prefix_refl _
      · injection hr with hr; subst hr; exact List.prefix_refl _
      · rw [(lEnd_r hr).1]; exact List.prefix_refl _

/-! ### What is written is read -/
theorem uvDec_app (x : Nat) (r : List UInt8) (hx : x < 18446744073709551616) : uvOf (uvarint x ++ r) = (x, ((uvarint x).length : Int)) := by
  have h := uvGo_uvarint r 9 0 0 x rfl (by decide) (by simpa using hx) (Nat.lt_of_lt_of_le hx (by decide))
  simpa [uvOf] using h

theorem entryAt_ent (k v : List UInt8) (m u x o : Nat) (r : List UInt8) (hk : k ≠ []) (hk1 : k.length ≤ 65536) (hv : v.length ≤ 1048576) (hm : m < 256) (hu : u < 256) (hx : x < 18446744073709551616)
    (hb : List UInt8) (hbe : hb = hdrBytes k.length v.length x m u ++ k ++ v) :
    entryAt (hb ++ (Lib.beBytes 4 (crc32 hb) ++ r)) o = .got ⟨k, v, m, u, x, o, hb.length + 4⟩ := by
  have hkl : 0 < k.length := List.length_pos_iff.2 hk
  have a1 := Lib.uvarint_pos k.length
  have a2 := Lib.uvarint_pos v.length
  have a3 := Lib.uvarint_pos x
  obtain ⟨t, ht⟩ : ∃ t, Lib.beBytes 4 (crc32 hb) ++ r = t := ⟨_, rfl⟩
  have h0 : hb ++ (Lib.beBytes 4 (crc32 hb) ++ r) = m.toUInt8 :: u.toUInt8 :: (uvarint k.length ++ (uvarint v.length ++ (uvarint x ++ (k ++ (v ++ t))))) := by
    rw [ht, hbe]; simp [hdrBytes]
  have hbl : hb.length = 2 + (uvarint k.length).length + (uvarint v.length).length + (uvarint x).length + k.length + v.length := by
    rw [hbe]; simp [hdrBytes_length]; omega
  have d1 : (hb ++ (Lib.beBytes 4 (crc32 hb) ++ r)).drop 2 = uvarint k.length ++ (uvarint v.length ++ (uvarint x ++ (k ++ (v ++ t)))) := by rw [h0]; rfl
  have u1 : uvOf ((hb ++ (Lib.beBytes 4 (crc32 hb) ++ r)).drop 2) = (k.length, ((uvarint k.length).length : Int)) := by rw [d1]; exact uvDec_app _ _ (by omega)
  have d2 : (hb ++ (Lib.beBytes 4 (crc32 hb) ++ r)).drop (2 + (uvarint k.length).length) = uvarint v.length ++ (uvarint x ++ (k ++ (v ++ t))) := by
    rw [← List.drop_drop, d1, List.drop_left]
  have u2 : uvOf ((hb ++ (Lib.beBytes 4 (crc32 hb) ++ r)).drop (2 + (uvarint k.length).length)) = (v.length, ((uvarint v.length).length : Int)) := by rw [d2]; exact uvDec_app _ _ (by omega)
  have d3 : (hb ++ (Lib.beBytes 4 (crc32 hb) ++ r)).drop (2 + (uvarint k.length).length + (uvarint v.length).length) = uvarint x ++ (k ++ (v ++ t)) := by
    rw [← List.drop_drop, d2, List.drop_left]
  have u3 : uvOf ((hb ++ (Lib.beBytes 4 (crc32 hb) ++ r)).drop (2 + (uvarint k.length).length + (uvarint v.length).length)) = (x, ((uvarint x).length : Int)) := by rw [d3]; exact uvDec_app _ _ hx
  have d4 : (hb ++ (Lib.beBytes 4 (crc32 hb) ++ r)).drop (2 + (uvarint k.length).length + (uvarint v.length).length + (uvarint x).length) = k ++ (v ++ t) := by
    rw [← List.drop_drop, d3, List.drop_left]
  have d5 : (hb ++ (Lib.beBytes 4 (crc32 hb) ++ r)).drop (2 + (uvarint k.length).length + (uvarint v.length).length + (uvarint x).length + k.length) = v ++ t := by
    rw [← List.drop_drop, d4, List.drop_left]
  have d6 : (hb ++ (Lib.beBytes 4 (crc32 hb) ++ r)).drop (2 + (uvarint k.length).length + (uvarint v.length).length + (uvarint x).length + k.length + v.length) = t := by
    rw [← List.drop_drop, d5, List.drop_left]
  have hlen : (hb ++ (Lib.beBytes 4 (crc32 hb) ++ r)).length = hb.length + 4 + r.length := by simp [Lib.beBytes_length]; omega
  have t6 : (hb ++ (Lib.beBytes 4 (crc32 hb) ++ r)).take (2 + (uvarint k.length).length + (uvarint v.length).length + (uvarint x).length + k.length + v.length) = hb := by
    rw [← hbl, List.take_left]
  have hc : Lib.beNat (t.take 4) = crc32 hb := by
    rw [← ht, List.take_left' (Lib.beBytes_length 4 _), Lib.beNat_beBytes 4 _ (by have := crc32_lt hb; omega)]
  have g0 : ((hb ++ (Lib.beBytes 4 (crc32 hb) ++ r)).getD 0 0).toNat = m := by rw [h0]; exact toU8 hm
  have g1 : ((hb ++ (Lib.beBytes 4 (crc32 hb) ++ r)).getD 1 0).toNat = u := by rw [h0]; exact toU8 hu
  generalize hb ++ (Lib.beBytes 4 (crc32 hb) ++ r) = H at *
  unfold entryAt
  rw [if_neg (by omega)]
  simp only [u1, Int.toNat_natCast, u2, u3, d4, d5, d6, t6, hc, g0, g1]
  rw [if_neg (by omega), if_neg (by omega), if_neg (by omega), if_neg (by omega), if_neg ?_, if_neg (by omega)]
  · simp only [LRes.got.injEq, LEnt.mk.injEq, List.take_left, true_and]
    omega
  · rintro (h | h | h)
    · omega
    · omega
    · exact h rfl
end Go.Proofs.YtpndlcjilgcfkaaGreatDoor
