/-
  Decimal digits, as strconv.ParseUint reads them. Plain Lean, no program.
-/
import Derived.Test.YtpndlcjilgcfkaaGreatDoorLogP
import Derived.Lib.ParseIntB
namespace Go.Proofs.YtpndlcjilgcfkaaGreatDoor
open Go

theorem decP_small {n : Nat} (h : n < 10) : dec n = [(48 + n).toUInt8] := by rw [dec, dif_pos h]
theorem decP_big {n : Nat} (h : 10 ≤ n) : dec n = dec (n / 10) ++ [(48 + n % 10).toUInt8] := by rw [dec, dif_neg (by omega)]

/-- What is read, digit by digit. -/
def decVal (acc : Nat) (l : List UInt8) : Nat := l.foldl (fun a c => a * 10 + (c.toNat - 48)) acc

theorem parse_val (M : Nat) : ∀ (l : List UInt8) (acc u : Nat), Lib.parseUintM M acc l = .ok u → acc ≤ M → u = decVal acc l ∧ (∀ c ∈ l, 48 ≤ c.toNat ∧ c.toNat ≤ 57) := by
  intro l
  induction l with
  | nil =>
    intro acc u h _
    simp only [Lib.parseUintM] at h
    injection h with h
    exact ⟨h.symm, by simp⟩
  | cons c r ih =>
    intro acc u h ha
    simp only [Lib.parseUintM] at h
    split at h
    · rename_i hd
      split at h
      · cases h
      · split at h
        · cases h
        · rename_i hM
          obtain ⟨h1, h2⟩ := ih _ _ h (by omega)
          refine ⟨h1, ?_⟩
          intro x hx
          rcases List.mem_cons.1 hx with rfl | hx
          · omega
          · exact h2 x hx
    · cases h

theorem digit8 {d : Nat} (h : d < 10) : ((48 + d).toUInt8).toNat = 48 + d := toU8 (by omega)

theorem parse_dec (r : List UInt8) : ∀ (n : Nat), n ≤ 18446744073709551615 → Lib.parseUintM 18446744073709551615 0 (dec n ++ r) = Lib.parseUintM 18446744073709551615 n r := by
  intro n
  induction n using Nat.strongRecOn generalizing r with
  | _ n ih =>
    intro hn
    rcases Nat.lt_or_ge n 10 with h | h
    · rw [decP_small h]
      simp only [List.cons_append, List.nil_append, Lib.parseUintM, digit8 h]
      rw [if_pos (by omega), if_neg (by omega), if_neg (by omega)]
      congr 1
      omega
    · rw [decP_big h, List.append_assoc, ih (n / 10) (by omega) _ (by omega)]
      simp only [List.cons_append, List.nil_append, Lib.parseUintM, digit8 (show n % 10 < 10 by omega)]
      rw [if_pos (by omega), if_neg (by omega), if_neg (by omega)]
      congr 1
      omega

theorem dec_ne_nil (n : Nat) : dec n ≠ [] := by
  rcases Nat.lt_or_ge n 10 with h | h
  · rw [decP_small h]; simp
  · rw [decP_big h]; simp

theorem parseB_dec {n : Nat} (hn : n < 18446744073709551616) : Lib.parseUintB 64 (dec n) = .ok n := by
  unfold Lib.parseUintB
  rw [if_neg (dec_ne_nil n)]
  have := parse_dec [] n (by omega)
  rw [List.append_nil] at this
  exact this

theorem decVal_pos : ∀ (l : List UInt8) (acc : Nat), 1 ≤ acc → 1 ≤ decVal acc l := by
  intro l
  induction l with
  | nil => intro acc h; exact h
  | cons c r ih =>
    intro acc h
    exact ih (acc * 10 + (c.toNat - 48)) (by omega)

theorem dec_decVal : ∀ (k : Nat) (l : List UInt8), l.length = k → l ≠ [] → (∀ c ∈ l, 48 ≤ c.toNat ∧ c.toNat ≤ 57) → (l.getD 0 0).toNat ≠ 48 → l = dec (decVal 0 l) := by
  intro k
  induction k with
  | zero => intro l h hn; exact absurd (List.eq_nil_of_length_eq_zero h) hn
  | succ k ih =>
    intro l hl hn hd h0
    obtain ⟨q, c, rfl⟩ : ∃ q c, l = q ++ [c] := ⟨l.dropLast, l.getLast hn, (List.dropLast_concat_getLast hn).symm⟩
    have hc := hd c (by simp)
    have hv : decVal 0 (q ++ [c]) = decVal 0 q * 10 + (c.toNat - 48) := by simp [decVal]
    have hcc : c = (48 + (c.toNat - 48)).toUInt8 := by
      apply UInt8.toNat_inj.1
      rw [toU8 (by omega)]
      omega
    rcases hq : q with _ | ⟨a, r⟩
    · subst hq
      rw [hv]
      show [c] = dec (0 * 10 + (c.toNat - 48))
      rw [Nat.zero_mul, Nat.zero_add, decP_small (by omega), ← hcc]
    · rw [← hq]
      have hqn : q ≠ [] := by rw [hq]; simp
      have e := ih q (by simp at hl; omega) hqn (fun x hx => hd x (by simp [hx])) (by
        rw [hq] at h0 ⊢
        simpa using h0)
      have hp : 1 ≤ decVal 0 q := by
        rw [hq]
        have := hd a (by rw [hq]; simp)
        rw [hq] at h0
        have h1 : a.toNat ≠ 48 := by simpa using h0
        exact decVal_pos r (0 * 10 + (a.toNat - 48)) (by omega)
      rw [hv, decP_big (by omega), show (decVal 0 q * 10 + (c.toNat - 48)) / 10 = decVal 0 q by omega, show (decVal 0 q * 10 + (c.toNat - 48)) % 10 = c.toNat - 48 by omega, ← e, ← hcc]

/-- What is read as a number, and begins with no zero, is that number's digits. -/
theorem parseB_eq {l : List UInt8} {u : Nat} (h : Lib.parseUintB 64 l = .ok u) (h0 : (l.getD 0 0).toNat ≠ 48) : l = dec u := by
  unfold Lib.parseUintB at h
  split at h
  · cases h
  · rename_i hn
    obtain ⟨h1, h2⟩ := parse_val _ _ _ _ h (by omega)
    rw [h1]
    exact dec_decVal _ l rfl hn h2 h0
end Go.Proofs.YtpndlcjilgcfkaaGreatDoor
