/-
  pb.take: a field of a message: a number, or a part.
-/
import Derived.Test.YtkjgkjmaoebeoaaDoorHdrMath
import Derived.Test.YtkjgkjmaoebeoaaDoorShelf
import Derived.Test.YtkjgkjmaoebeoaaDoorCh
import Derived.BigQuiet
namespace Go.Proofs.YtkjgkjmaoebeoaaDoor
open Go Go.RowKit
open Go.Proofs
open Go.Lib (uvarint uvarintFrom uvarintDec)

/-- A number read off a slice. -/
theorem uv_any (g o n c x : Nat) (r : List UInt8) (w : World) (hx : x < 18446744073709551616) (hb : Bs w g o (uvarint x ++ r)) (hn : (uvarint x ++ r).length = n) :
    Calls Tryd.prog 55 #[.slice (some ⟨g, o, none⟩) n c] w fun e w' => e = .returned (.tuple #[.int .u64 (x : Int), .int .i64 ((uvarint x).length : Int)]) ∧ w' = w := by
  have h := Tryd.binary_Uvarint g o n c (uvarint x ++ r) w hn hb
  rw [uvarintDec_uvarint x r hx] at h
  exact h

theorem res_tmp5 {fn : Func} {t u v x y : Tmp} (h : fn.results = #[.tmp t, .tmp u, .tmp v, .tmp x, .tmp y]) (tmps : Array Value) (P : Program) (w : World) :
    (results fn tmps).run P w = .ok (.tuple #[tmps.getD t undef, tmps.getD u undef, tmps.getD v undef, tmps.getD x undef, tmps.getD y undef]) w := by simp [results, h]

theorem uvarint_pos (x : Nat) : 0 < (uvarint x).length := by
  rw [uvarint]
  split
  · simp
  · simp

set_option maxHeartbeats 2000000 in
set_option maxRecDepth 20000 in
theorem take8_any (g o n c v : Nat) (r : List UInt8) (w : World) (hv : v < 18446744073709551616) (hb : Bs w g o (8 :: (uvarint v ++ r))) (hn : (8 :: (uvarint v ++ r)).length = n) (hc : n ≤ c) (hc2 : c ≤ 4294967296) :
    Calls Tryd.prog 46 #[.slice (some ⟨g, o, none⟩) n c] w fun e w' => ∃ A' c', e = .returned (.tuple #[.int .i64 1, .int .u64 (v : Int), .slice none 0 0, .slice A' r.length c', .bool true]) ∧ w' = w ∧ (r ≠ [] → A' = some ⟨g, o + 1 + (uvarint v).length, none⟩) ∧ r.length ≤ c' ∧ c' ≤ c := by
  have e1 : uvarint 8 = [8] := by rw [uvarint, dif_pos (by decide)]; rfl
  have h1 := uv_any g o n c 8 (uvarint v ++ r) w (by decide) (by rw [e1]; exact hb) (by rw [e1]; exact hn)
  rw [e1] at h1
  have hb2 : Bs w g (o + 1) (uvarint v ++ r) := by simpa using hb.drop 1
  have hn2 : (uvarint v ++ r).length = n - 1 := by simp at hn ⊢; omega
  have h2 := uv_any g (o + 1) (n - 1) (c - 1) v r w hv hb2 hn2
  obtain ⟨k, hk⟩ : ∃ k, (uvarint v).length = k := ⟨_, rfl⟩
  obtain ⟨rl, hrl⟩ : ∃ x, r.length = x := ⟨_, rfl⟩
  have hk0 := uvarint_pos v
  rw [hk] at h2 hk0 ⊢
  rw [hrl]
  have hsum : n = 1 + k + rl := by simp [hk, hrl] at hn; omega
  have s1 : (1 : Int) ≤ (n : Int) := by omega
  have s2 : 1 ≤ n := by omega
  have s3 : ¬ c = 1 := by omega
  obtain ⟨c1, hc1⟩ : ∃ x, c - 1 = x := ⟨_, rfl⟩
  obtain ⟨n1, hn1⟩ : ∃ x, n - 1 = x := ⟨_, rfl⟩
  rw [hc1, hn1] at h2
  have s4 : (k : Int) ≤ (n1 : Int) := by omega
  have s5 : ¬ (k : Int) ≤ 0 := by omega
  have s8 : ¬ k ≤ 0 := by omega
  have s9 : ¬ k = 0 := by omega
  have s6 : k ≤ n1 := by omega
  have s7 : n1 - k = rl := by omega
  have hl1 : ([8] : List UInt8).length = 1 := rfl
  rw [hl1] at h1
  have hrn : r ≠ [] → 0 < rl := fun h => by rw [← hrl]; exact List.length_pos_iff.2 h
  rw [show ((8 : Nat) : Int) = 8 from rfl, show ((1 : Nat) : Int) = 1 from rfl] at h1
  have h1' := Lib.hid h1
  have h2' := Lib.hid h2
  have hb' := Lib.hid hb
  have hb2' := Lib.hid hb2
  have hn' := Lib.hid hn
  have hn2' := Lib.hid hn2
  have hk' := Lib.hid hk
  have hrl' := Lib.hid hrl
  have hsum' := Lib.hid hsum
  have hrn' := Lib.hid hrn
  clear hrn hsum hrl hk hn2 hn hb2 hb h2 h1
  rcases Decidable.em (c1 = k) with rfl | hcc
  all_goals
    go_enter Tryd.func46, Tryd.ntmps46
    go_wp2_with fail
    with_reducible refine h1'.out.mono ?_
    rintro e w1 ⟨rfl, rfl⟩
    go_wp2_with fail
    with_reducible refine h2'.out.mono ?_
    rintro e w2 ⟨rfl, rfl⟩
    go_wp2_with fail
    refine bodyPost_ret (res_tmp5 rfl _ _ _) rfl ?_
    have z1 := hsum'.out
    refine ⟨_, _, rfl, rfl, fun h => ?_, by omega, by omega⟩
    have z2 := hrn'.out h
    first | rfl | (exfalso; omega)
set_option maxHeartbeats 2000000 in
set_option maxRecDepth 20000 in
theorem take16_any (g o n c v : Nat) (r : List UInt8) (w : World) (hv : v < 18446744073709551616) (hb : Bs w g o (16 :: (uvarint v ++ r))) (hn : (16 :: (uvarint v ++ r)).length = n) (hc : n ≤ c) (hc2 : c ≤ 4294967296) :
    Calls Tryd.prog 46 #[.slice (some ⟨g, o, none⟩) n c] w fun e w' => ∃ A' c', e = .returned (.tuple #[.int .i64 2, .int .u64 (v : Int), .slice none 0 0, .slice A' r.length c', .bool true]) ∧ w' = w ∧ (r ≠ [] → A' = some ⟨g, o + 1 + (uvarint v).length, none⟩) ∧ r.length ≤ c' ∧ c' ≤ c := by
  have e1 : uvarint 16 = [16] := by rw [uvarint, dif_pos (by decide)]; rfl
  have h1 := uv_any g o n c 16 (uvarint v ++ r) w (by decide) (by rw [e1]; exact hb) (by rw [e1]; exact hn)
  rw [e1] at h1
  have hb2 : Bs w g (o + 1) (uvarint v ++ r) := by simpa using hb.drop 1
  have hn2 : (uvarint v ++ r).length = n - 1 := by simp at hn ⊢; omega
  have h2 := uv_any g (o + 1) (n - 1) (c - 1) v r w hv hb2 hn2
  obtain ⟨k, hk⟩ : ∃ k, (uvarint v).length = k := ⟨_, rfl⟩
  obtain ⟨rl, hrl⟩ : ∃ x, r.length = x := ⟨_, rfl⟩
  have hk0 := uvarint_pos v
  rw [hk] at h2 hk0 ⊢
  rw [hrl]
  have hsum : n = 1 + k + rl := by simp [hk, hrl] at hn; omega
  have s1 : (1 : Int) ≤ (n : Int) := by omega
  have s2 : 1 ≤ n := by omega
  have s3 : ¬ c = 1 := by omega
  obtain ⟨c1, hc1⟩ : ∃ x, c - 1 = x := ⟨_, rfl⟩
  obtain ⟨n1, hn1⟩ : ∃ x, n - 1 = x := ⟨_, rfl⟩
  rw [hc1, hn1] at h2
  have s4 : (k : Int) ≤ (n1 : Int) := by omega
  have s5 : ¬ (k : Int) ≤ 0 := by omega
  have s8 : ¬ k ≤ 0 := by omega
  have s9 : ¬ k = 0 := by omega
  have s6 : k ≤ n1 := by omega
  have s7 : n1 - k = rl := by omega
  have hl1 : ([16] : List UInt8).length = 1 := rfl
  rw [hl1] at h1
  have hrn : r ≠ [] → 0 < rl := fun h => by rw [← hrl]; exact List.length_pos_iff.2 h
  rw [show ((16 : Nat) : Int) = 16 from rfl, show ((1 : Nat) : Int) = 1 from rfl] at h1
  have h1' := Lib.hid h1
  have h2' := Lib.hid h2
  have hb' := Lib.hid hb
  have hb2' := Lib.hid hb2
  have hn' := Lib.hid hn
  have hn2' := Lib.hid hn2
  have hk' := Lib.hid hk
  have hrl' := Lib.hid hrl
  have hsum' := Lib.hid hsum
  have hrn' := Lib.hid hrn
  clear hrn hsum hrl hk hn2 hn hb2 hb h2 h1
  rcases Decidable.em (c1 = k) with rfl | hcc
  all_goals
    go_enter Tryd.func46, Tryd.ntmps46
    go_wp2_with fail
    with_reducible refine h1'.out.mono ?_
    rintro e w1 ⟨rfl, rfl⟩
    go_wp2_with fail
    with_reducible refine h2'.out.mono ?_
    rintro e w2 ⟨rfl, rfl⟩
    go_wp2_with fail
    refine bodyPost_ret (res_tmp5 rfl _ _ _) rfl ?_
    have z1 := hsum'.out
    refine ⟨_, _, rfl, rfl, fun h => ?_, by omega, by omega⟩
    have z2 := hrn'.out h
    first | rfl | (exfalso; omega)
set_option maxHeartbeats 2000000 in
set_option maxRecDepth 20000 in
theorem take24_any (g o n c v : Nat) (r : List UInt8) (w : World) (hv : v < 18446744073709551616) (hb : Bs w g o (24 :: (uvarint v ++ r))) (hn : (24 :: (uvarint v ++ r)).length = n) (hc : n ≤ c) (hc2 : c ≤ 4294967296) :
    Calls Tryd.prog 46 #[.slice (some ⟨g, o, none⟩) n c] w fun e w' => ∃ A' c', e = .returned (.tuple #[.int .i64 3, .int .u64 (v : Int), .slice none 0 0, .slice A' r.length c', .bool true]) ∧ w' = w ∧ (r ≠ [] → A' = some ⟨g, o + 1 + (uvarint v).length, none⟩) ∧ r.length ≤ c' ∧ c' ≤ c := by
  have e1 : uvarint 24 = [24] := by rw [uvarint, dif_pos (by decide)]; rfl
  have h1 := uv_any g o n c 24 (uvarint v ++ r) w (by decide) (by rw [e1]; exact hb) (by rw [e1]; exact hn)
  rw [e1] at h1
  have hb2 : Bs w g (o + 1) (uvarint v ++ r) := by simpa using hb.drop 1
  have hn2 : (uvarint v ++ r).length = n - 1 := by simp at hn ⊢; omega
  have h2 := uv_any g (o + 1) (n - 1) (c - 1) v r w hv hb2 hn2
  obtain ⟨k, hk⟩ : ∃ k, (uvarint v).length = k := ⟨_, rfl⟩
  obtain ⟨rl, hrl⟩ : ∃ x, r.length = x := ⟨_, rfl⟩
  have hk0 := uvarint_pos v
  rw [hk] at h2 hk0 ⊢
  rw [hrl]
  have hsum : n = 1 + k + rl := by simp [hk, hrl] at hn; omega
  have s1 : (1 : Int) ≤ (n : Int) := by omega
  have s2 : 1 ≤ n := by omega
  have s3 : ¬ c = 1 := by omega
  obtain ⟨c1, hc1⟩ : ∃ x, c - 1 = x := ⟨_, rfl⟩
  obtain ⟨n1, hn1⟩ : ∃ x, n - 1 = x := ⟨_, rfl⟩
  rw [hc1, hn1] at h2
  have s4 : (k : Int) ≤ (n1 : Int) := by omega
  have s5 : ¬ (k : Int) ≤ 0 := by omega
  have s8 : ¬ k ≤ 0 := by omega
  have s9 : ¬ k = 0 := by omega
  have s6 : k ≤ n1 := by omega
  have s7 : n1 - k = rl := by omega
  have hl1 : ([24] : List UInt8).length = 1 := rfl
  rw [hl1] at h1
  have hrn : r ≠ [] → 0 < rl := fun h => by rw [← hrl]; exact List.length_pos_iff.2 h
  rw [show ((24 : Nat) : Int) = 24 from rfl, show ((1 : Nat) : Int) = 1 from rfl] at h1
  have h1' := Lib.hid h1
  have h2' := Lib.hid h2
  have hb' := Lib.hid hb
  have hb2' := Lib.hid hb2
  have hn' := Lib.hid hn
  have hn2' := Lib.hid hn2
  have hk' := Lib.hid hk
  have hrl' := Lib.hid hrl
  have hsum' := Lib.hid hsum
  have hrn' := Lib.hid hrn
  clear hrn hsum hrl hk hn2 hn hb2 hb h2 h1
  rcases Decidable.em (c1 = k) with rfl | hcc
  all_goals
    go_enter Tryd.func46, Tryd.ntmps46
    go_wp2_with fail
    with_reducible refine h1'.out.mono ?_
    rintro e w1 ⟨rfl, rfl⟩
    go_wp2_with fail
    with_reducible refine h2'.out.mono ?_
    rintro e w2 ⟨rfl, rfl⟩
    go_wp2_with fail
    refine bodyPost_ret (res_tmp5 rfl _ _ _) rfl ?_
    have z1 := hsum'.out
    refine ⟨_, _, rfl, rfl, fun h => ?_, by omega, by omega⟩
    have z2 := hrn'.out h
    first | rfl | (exfalso; omega)

set_option maxHeartbeats 2000000 in
set_option maxRecDepth 20000 in
theorem take10_any (g o n c : Nat) (part r : List UInt8) (w : World) (hp : 0 < part.length) (hb : Bs w g o (10 :: (uvarint part.length ++ (part ++ r)))) (hn : (10 :: (uvarint part.length ++ (part ++ r))).length = n) (hc : n ≤ c) (hc2 : c ≤ 4294967296) :
    Calls Tryd.prog 46 #[.slice (some ⟨g, o, none⟩) n c] w fun e w' => ∃ cp A' c', e = .returned (.tuple #[.int .i64 1, .int .u64 0, .slice (some ⟨g, o + 1 + (uvarint part.length).length, none⟩) part.length cp, .slice A' r.length c', .bool true]) ∧ Ch [] w w' ∧ (r ≠ [] → A' = some ⟨g, o + 1 + (uvarint part.length).length + part.length, none⟩) ∧ r.length ≤ c' ∧ c' ≤ c ∧ part.length ≤ cp ∧ cp ≤ c := by
  obtain ⟨m, hm⟩ : ∃ m, part.length = m := ⟨_, rfl⟩
  rw [hm] at hp hb hn ⊢
  have hmn : m < 18446744073709551616 := by simp [hm] at hn; omega
  have e1 : uvarint 10 = [10] := by rw [uvarint, dif_pos (by decide)]; rfl
  have h1 := uv_any g o n c 10 (uvarint m ++ (part ++ r)) w (by decide) (by rw [e1]; exact hb) (by rw [e1]; exact hn)
  rw [e1] at h1
  have hb2 : Bs w g (o + 1) (uvarint m ++ (part ++ r)) := by simpa using hb.drop 1
  have hn2 : (uvarint m ++ (part ++ r)).length = n - 1 := by simp at hn ⊢; omega
  have h2 := uv_any g (o + 1) (n - 1) (c - 1) m (part ++ r) w hmn hb2 hn2
  obtain ⟨k, hk⟩ : ∃ k, (uvarint m).length = k := ⟨_, rfl⟩
  obtain ⟨rl, hrl⟩ : ∃ x, r.length = x := ⟨_, rfl⟩
  have hk0 := uvarint_pos m
  rw [hk] at h2 hk0 ⊢
  rw [hrl]
  have hsum : n = 1 + k + m + rl := by simp [hk, hrl, hm] at hn; omega
  have s1 : (1 : Int) ≤ (n : Int) := by omega
  have s2 : 1 ≤ n := by omega
  have s3 : ¬ c = 1 := by omega
  obtain ⟨c1, hc1⟩ : ∃ x, c - 1 = x := ⟨_, rfl⟩
  obtain ⟨n1, hn1⟩ : ∃ x, n - 1 = x := ⟨_, rfl⟩
  rw [hc1, hn1] at h2
  have s4 : (k : Int) ≤ (n1 : Int) := by omega
  have s5 : ¬ (k : Int) ≤ 0 := by omega
  have s8 : ¬ k ≤ 0 := by omega
  have s9 : ¬ k = 0 := by omega
  have s6 : k ≤ n1 := by omega
  have s10 : ¬ c1 = k := by omega
  obtain ⟨n2, hn2'⟩ : ∃ x, n1 - k = x := ⟨_, rfl⟩
  obtain ⟨c2, hc2'⟩ : ∃ x, c1 - k = x := ⟨_, rfl⟩
  have u1 : IntKind.u64.wrap (n2 : Int) = (n2 : Int) := IntWalk.u64_in _ (by omega)
  have s11 : ¬ (n2 : Int) < (m : Int) := by omega
  have s12 : (m : Int) ≤ (n2 : Int) := by omega
  have s13 : (m : Int) ≤ (c2 : Int) := by omega
  have s14 : n2 - m = rl := by omega
  have s15 : m ≤ n2 := by omega
  have s16 : m ≤ c2 := by omega
  have s17 : (0 : Int) ≤ (m : Int) := by omega
  have hl1 : ([10] : List UInt8).length = 1 := rfl
  rw [hl1] at h1
  have hrn : r ≠ [] → 0 < rl := fun h => by rw [← hrl]; exact List.length_pos_iff.2 h
  rw [show ((10 : Nat) : Int) = 10 from rfl, show ((1 : Nat) : Int) = 1 from rfl] at h1
  have h1' := Lib.hid h1
  have h2' := Lib.hid h2
  have hb' := Lib.hid hb
  have hb2' := Lib.hid hb2
  have hn' := Lib.hid hn
  have hn2' := Lib.hid hn2
  have hk' := Lib.hid hk
  have hrl' := Lib.hid hrl
  have hsum' := Lib.hid hsum
  have hrn' := Lib.hid hrn
  have hm' := Lib.hid hm
  clear hm hrn hsum hrl hk hn2 hn hb2 hb h2 h1
  rcases Decidable.em (c2 = m) with rfl | hcc
  all_goals
    go_enter Tryd.func46, Tryd.ntmps46
    go_wp2_with fail
    with_reducible refine h1'.out.mono ?_
    rintro e w1 ⟨rfl, rfl⟩
    go_wp2_with fail
    with_reducible refine h2'.out.mono ?_
    rintro e w2 ⟨rfl, rfl⟩
    go_wp2_with fail
    go_quiet (fail)
    go_wp2_with fail
    refine bodyPost_ret (res_tmp5 rfl _ _ _) rfl ?_
    have z1 := hsum'.out
    refine ⟨_, _, _, rfl, (Ch.refl [] _).drewN _, fun h => ?_, by omega, by omega, by omega, by omega⟩
    have z2 := hrn'.out h
    first | rfl | (exfalso; omega)
end Go.Proofs.YtkjgkjmaoebeoaaDoor
