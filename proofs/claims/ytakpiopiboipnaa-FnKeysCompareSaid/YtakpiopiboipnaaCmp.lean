/-
  Contracts of bytes.Compare, y.CompareKeys, y.SameKey and what is over them.
-/
import Derived.Test.YtakpiopiboipnaaKey
import Derived.Test.YtakpiopiboipnaaCmpMath
import Derived.Laws.Externs
namespace Go.Proofs.Ytakpiopiboipnaa
open Go Go.RowKit
open Go.Proofs
open Go.Lib (compareBytes)

theorem run_loadBytes {P : Program} : ∀ (l : List UInt8) (b o : Nat) (acc : ByteArray) (w : World), Bs w b o l → (Extern.Bytes.loadBytes ⟨b, o, none⟩ l.length acc).run P w = .ok ⟨acc.data ++ l.toArray⟩ w
  | [], b, o, acc, w, _ => by simp [Extern.Bytes.loadBytes]
  | u :: l, b, o, acc, w, h => by
    have h0 : w.cell? ⟨b, o, none⟩ = some (.int .u8 (u.toNat : Int)) := h 0 (by simp)
    have h1 := run_loadBytes (P := P) l b (o + 1) (acc.push u) w (by have := h.drop 1; simpa using this)
    simp only [Extern.Bytes.loadBytes, List.length_cons]
    simp [go_sem, h0, Nat.toUInt8]
    rw [h1]
    simp [ByteArray.push]

theorem run_bytesOf {P : Program} (A : Option Addr) (n c : Nat) (l : List UInt8) (w : World) (h : Src w A n l) : (Extern.Bytes.bytesOf (.slice A n c)).run P w = .ok ⟨l.toArray⟩ w := by
  obtain ⟨rfl, h⟩ := h
  rcases Nat.eq_zero_or_pos l.length with h0 | h0
  · obtain rfl := List.eq_nil_of_length_eq_zero h0
    rcases A with _ | ad
    · simp [Extern.Bytes.bytesOf]; rfl
    · simp [Extern.Bytes.bytesOf, Extern.Bytes.loadBytes]; rfl
  · obtain ⟨b, o, rfl, hb⟩ := h h0
    simp only [Extern.Bytes.bytesOf]
    rw [run_loadBytes l b o _ w hb]
    simp

theorem run_compareSlices {P : Program} (A B : Option Addr) (n c m d : Nat) (l r : List UInt8) (w : World) (h : Src w A n l) (h' : Src w B m r) :
    (Extern.BytealgCompare.compare #[.slice A n c, .slice B m d]).run P w = .ok (.int .i64 (compareBytes l r)) w := by
  change Sem.run P (do pure (goInt (Extern.BytealgCompare.cmp (← Extern.Bytes.bytesOf (.slice A n c)) (← Extern.Bytes.bytesOf (.slice B m d))))) w = _
  simp only [Sem.run_bind, run_bytesOf (P := P) A n c l w h, run_bytesOf (P := P) B m d r w h', Sem.run_pure, Result.andThen]
  rw [Lib.cmp_eq]
  rfl

set_option maxHeartbeats 1000000 in
theorem bytesCompare_any (A B : Option Addr) (n c m d : Nat) (l r : List UInt8) (w : World) (h : Src w A n l) (h' : Src w B m r) :
    Calls Try.prog 42 #[.slice A n c, .slice B m d] w fun e w' => e = .returned (.int .i64 (compareBytes l r)) ∧ w' = w := by
  go_enter Try.func42, Try.ntmps42
  go_wp2_with fail
  rw [run_callFunc_extern Try.func48 (by kernel_rfl) (by kernel_rfl) (by kernel_rfl) (e := Extern.BytealgCompare.compare) (by kernel_rfl), run_compareSlices A B n c m d l r w h h']
  simp only [Result.andThen]
  rw [Oper.upon_value]
  go_wp2_with fail
  go_ret
  exact ⟨rfl, rfl⟩

theorem bytesCompare_v (A B : Option Addr) (n c m d : Nat) (l r : List UInt8) (v : Int) (w : World) (hv : compareBytes l r = v) (h : Src w A n l) (h' : Src w B m r) :
    Calls Try.prog 42 #[.slice A n c, .slice B m d] w fun e w' => e = .returned (.int .i64 v) ∧ w' = w := by
  subst hv
  exact bytesCompare_any A B n c m d l r w h h'

theorem Src.take_ {w : World} {b o : Nat} {l : List UInt8} (h : Bs w b o l) (k : Nat) (hk : k ≤ l.length) : Src w (some ⟨b, o, none⟩) k (l.take k) :=
  ⟨by simp; omega, fun _ => ⟨b, o, rfl, h.take k⟩⟩
theorem Src.drop_ {w : World} {b o : Nat} {l : List UInt8} (h : Bs w b o l) (k m : Nat) (hk : k + m = l.length) : Src w (some ⟨b, o + k, none⟩) m (l.drop k) :=
  ⟨by simp; omega, fun _ => ⟨b, o + k, rfl, h.drop k⟩⟩

set_option maxHeartbeats 2000000 in
theorem compareKeys_any (b o n c b' o' m d : Nat) (l r : List UInt8) (w : World) (h : Bs w b o l) (h' : Bs w b' o' r) (hl : l.length = n + 8) (hr : r.length = m + 8) (hc : n + 8 ≤ c) (hd : m + 8 ≤ d) (hn : n ≤ 4294967296) (hm : m ≤ 4294967296) :
    Calls Try.prog 33 #[.slice (some ⟨b, o, none⟩) (n + 8) c, .slice (some ⟨b', o', none⟩) (m + 8) d] w fun e w' => e = .returned (.int .i64 (keyCmp l r)) ∧ Below w.heap.size w w' := by
  have s1 := Src.take_ h n (by omega)
  have s2 := Src.take_ h' m (by omega)
  have s3 := Src.drop_ h n 8 (by omega)
  have s4 := Src.drop_ h' m 8 (by omega)
  have e : keyCmp l r = if compareBytes (l.take n) (r.take m) = 0 then compareBytes (l.drop n) (r.drop m) else compareBytes (l.take n) (r.take m) := by
    unfold keyCmp
    rw [hl, hr, Nat.add_sub_cancel, Nat.add_sub_cancel]
  have e' := Lib.hid e
  have hl' := Lib.hid hl
  have hr' := Lib.hid hr
  clear e hl hr
  have wn : IntKind.i64.wrap (n : Int) = (n : Int) := IntWalk.i64_in _ (by omega)
  have wm : IntKind.i64.wrap (m : Int) = (m : Int) := IntWalk.i64_in _ (by omega)
  have nc : (n : Int) ≤ (c : Int) := by omega
  have md : (m : Int) ≤ (d : Int) := by omega
  have n8 : (n : Int) ≤ (n : Int) + 8 := by omega
  have m8 : (m : Int) ≤ (m : Int) + 8 := by omega
  have ncn : ¬ c = n := by omega
  have mdn : ¬ d = m := by omega
  obtain ⟨v, hv⟩ : ∃ v, compareBytes (l.take n) (r.take m) = v := ⟨_, rfl⟩
  obtain ⟨u, hu⟩ : ∃ u, compareBytes (l.drop n) (r.drop m) = u := ⟨_, rfl⟩
  have hv' := Lib.hid hv
  have hu' := Lib.hid hu
  clear hv hu
  by_cases h0 : v = 0
  · subst h0
    go_enter Try.func33, Try.ntmps33
    go_wp2_with fail
    go_quiet ((go_at_call 42; exact Calls.quiet_of_same (bytesCompare_v _ _ n c m d (l.take n) (r.take m) 0 _ hv'.out s1 s2)))
    have t3 : Src (w.drewN nq) (some ⟨b, o + n, none⟩) 8 (l.drop n) := s3
    have t4 : Src (w.drewN nq) (some ⟨b', o' + m, none⟩) 8 (r.drop m) := s4
    have hbl := below_drewN (Below.refl w.heap.size w) nq
    generalize w.drewN nq = w1 at t3 t4 hbl ⊢
    go_wp2_with fail
    go_quiet ((go_at_call 42; exact Calls.quiet_of_same (bytesCompare_v _ _ 8 _ 8 _ (l.drop n) (r.drop m) u _ hu'.out t3 t4)))
    go_wp2_with fail
    go_ret
    refine ⟨?_, below_drewN hbl _⟩
    rw [e'.out, hv'.out, hu'.out, if_pos rfl]
    rfl
  · have h0' : (v != 0) = true := by simpa using h0
    go_enter Try.func33, Try.ntmps33
    go_wp2_with fail
    go_quiet ((go_at_call 42; exact Calls.quiet_of_same (bytesCompare_v _ _ n c m d (l.take n) (r.take m) v _ hv'.out s1 s2)))
    go_wp2_with fail
    go_ret
    refine ⟨?_, below_drewN (Below.refl w.heap.size w) _⟩
    rw [e'.out, hv'.out, if_neg h0]
    rfl

set_option maxHeartbeats 2000000 in
theorem sameKey_any (b o n c b' o' m d : Nat) (l r : List UInt8) (w : World) (h : Bs w b o l) (h' : Bs w b' o' r) (hl : l.length = n + 8) (hr : r.length = m + 8) (hc : n + 8 ≤ c) (hd : m + 8 ≤ d) (hn : n ≤ 4294967288) (hm : m ≤ 4294967288) :
    Calls Try.prog 34 #[.slice (some ⟨b, o, none⟩) (n + 8) c, .slice (some ⟨b', o', none⟩) (m + 8) d] w fun e w' => e = .returned (.bool (l.take n == r.take m)) ∧ w = w' := by
  have b1 := h.take n
  have b2 := h'.take m
  have l1 : (l.take n).length = n := by simp; omega
  have l2 : (r.take m).length = m := by simp; omega
  generalize l.take n = l' at *
  generalize r.take m = r' at *
  have l1' := Lib.hid l1
  have l2' := Lib.hid l2
  clear l1 l2 hl hr h h'
  by_cases hnm : n = m
  · subst hnm
    go_enter Try.func34, Try.ntmps34
    go_wp2_with fail
    refine (parseKey_any _ n c _ hc (by omega)).mono ?_
    rintro e w1 ⟨rfl, rfl⟩
    go_wp2_with fail
    refine (parseKey_any _ n d _ hd (by omega)).mono ?_
    rintro e w1 ⟨rfl, rfl⟩
    go_wp2_with (first | go_in | (refine wpList_b2s rfl 46 9 5 (.tmp 5) rfl Try.underlying46 Try.underlying5 Try.underlying9 b o n _ rfl l' l1'.out b1 ?_) | (refine wpList_b2s rfl 46 9 5 (.tmp 7) rfl Try.underlying46 Try.underlying5 Try.underlying9 b' o' n _ rfl r' l2'.out b2 ?_))
    go_ret
    exact ⟨rfl, rfl⟩
  · go_enter Try.func34, Try.ntmps34
    go_wp2_with fail
    go_ret
    refine ⟨?_, rfl⟩
    have : (l' == r') = false := by
      rw [beq_eq_false_iff_ne]
      rintro rfl
      exact hnm (l1'.out.symm.trans l2'.out)
    rw [this]
    rfl
end Go.Proofs.Ytakpiopiboipnaa
