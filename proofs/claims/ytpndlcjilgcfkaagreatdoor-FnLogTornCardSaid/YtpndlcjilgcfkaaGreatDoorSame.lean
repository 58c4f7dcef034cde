/-
  Contracts of laws.lSame and spec.LogOf.
-/
import Derived.Test.YtpndlcjilgcfkaaGreatDoorEnts
import Derived.Test.YtpndlcjilgcfkaaGreatDoorLogQ
import Derived.Test.YtpndlcjilgcfkaaGreatDoorSpecE
import Derived.Test.YtpndlcjilgcfkaaGreatDoorKey
import Derived.Deep.RegionHeld3
import Derived.Deep.DeepCutAuto
import Derived.BigQuiet
namespace Go.Proofs.YtpndlcjilgcfkaaGreatDoor
open Go Go.RowKit
open Go.Proofs

/-- The cells of an entry of a slice, in a world that kept what lay below. -/
theorem Ents.cells7 {B : Nat} {w : World} {A : Option Addr} {n c : Nat} {l : List LEnt} (h : Ents B w (.slice A n c) l) {j : Nat} (hj : j < l.length) :
    ∃ g, A = some ⟨g, 0, none⟩ ∧ g < w.heap.size ∧ w.cell? ⟨g, j * 7, none⟩ = some (.string ⟨l[j].key.toArray⟩) ∧ w.cell? ⟨g, j * 7 + 1, none⟩ = some (.string ⟨l[j].val.toArray⟩) ∧ w.cell? ⟨g, j * 7 + 2, none⟩ = some (.int .u8 (l[j].bits : Int)) ∧
      w.cell? ⟨g, j * 7 + 3, none⟩ = some (.int .u8 (l[j].um : Int)) ∧ w.cell? ⟨g, j * 7 + 4, none⟩ = some (.int .u64 (l[j].exp : Int)) ∧ w.cell? ⟨g, j * 7 + 5, none⟩ = some (.int .u32 (l[j].off : Int)) ∧ w.cell? ⟨g, j * 7 + 6, none⟩ = some (.int .u32 (l[j].len : Int)) := by
  obtain ⟨g, hA, h0⟩ := h.cell hj (i := 0) (by omega)
  obtain ⟨g1, e1, h1⟩ := h.cell hj (i := 1) (by omega)
  obtain ⟨g2, e2, h2⟩ := h.cell hj (i := 2) (by omega)
  obtain ⟨g3, e3, h3⟩ := h.cell hj (i := 3) (by omega)
  obtain ⟨g4, e4, h4⟩ := h.cell hj (i := 4) (by omega)
  obtain ⟨g5, e5, h5⟩ := h.cell hj (i := 5) (by omega)
  obtain ⟨g6, e6, h6⟩ := h.cell hj (i := 6) (by omega)
  subst hA
  simp only [Option.some.injEq, Addr.mk.injEq, and_true] at e1 e2 e3 e4 e5 e6
  subst e1 e2 e3 e4 e5 e6
  exact ⟨g, rfl, block_lt_of_cell h0, h0, h1, h2, h3, h4, h5, h6⟩

theorem run_mkB2 (k1 k2 : IntKind) (N : Nat) (z : Int) (hz : z = (N : Int)) (hN : N ≤ 281474976710656) (W : World) :
    (Instr.makeSlice 22 (.int k1 z) (.int k2 z)).run Tryz.prog W = .ok (.slice (some ⟨W.heap.size, 0, none⟩) N N) (W.alloc (.cells (List.replicate N (Value.int .u8 0)).toArray 5)) := by
  subst hz
  obtain ⟨i0, hi, hz0, hz1, hz2⟩ := info_parts u8row
  have h := run_make_rowN (P := Tryz.prog) 22 5 i0 (.int .u8 0) Tryz.underlying22 hi hz0 k1 k2 N N (by omega) (by rw [hz2]; omega) (by omega) W
  rw [hz1, Nat.mul_one] at h
  rw [← made_bytes]
  exact h

set_option maxHeartbeats 4000000 in
set_option maxRecDepth 20000 in
theorem lSame_any (B B' : Nat) (l : List LEnt) (v v' : Value) (w : World) (hv : Ents B w v l) (hw : Ents B' w v' l) (hl : l.length ≤ 1000000000) :
    Calls Tryz.prog 10 #[v, v'] w fun e w' => e = .returned (.bool true) ∧ Below w.heap.size w w' := by
  obtain ⟨A, c, rfl⟩ := ents_form hv
  obtain ⟨A', c', rfl⟩ := ents_form hw
  obtain ⟨n, hn⟩ : ∃ n, l.length = n := ⟨_, rfl⟩
  rw [hn] at hv hw
  rw [hn]
  have hnn : ((n : Int) != (n : Int)) = false := by simp
  have hv' := Lib.hid hv
  have hw' := Lib.hid hw
  have hn' := Lib.hid hn
  clear hn hw hv
  go_enter Tryz.func10, Tryz.ntmps10
  go_wp2_with fail
  go_loopw [14] (fun s14 wx => ∃ j : Nat, j ≤ n ∧ s14 = .int .i64 (j : Int) ∧ Below w.heap.size w wx) (fun s14 _ => n - (intOf s14).toNat)
  case atStart => exact ⟨0, Nat.zero_le _, rfl, Below.refl _ _⟩
  case round =>
    obtain ⟨j, hj, rfl, hbl⟩ := hrel
    by_cases hlt : j < n
    · have hltI : (j : Int) < (n : Int) := by omega
      have hjl : j < l.length := by have := hn'.out; omega
      obtain ⟨g, rfl, hg, c0, c1, c2, c3, c4, c5, c6⟩ := (hv'.out.below hbl (Nat.le_refl _)).cells7 hjl
      obtain ⟨g', rfl, hg', d0, d1, d2, d3, d4, d5, d6⟩ := (hw'.out.below hbl (Nat.le_refl _)).cells7 hjl
      obtain ⟨E, hE⟩ : ∃ E, l[j] = E := ⟨_, rfl⟩
      rw [hE] at c0 c1 c2 c3 c4 c5 c6 d0 d1 d2 d3 d4 d5 d6
      have hbl' := Lib.hid hbl
      have hE' := Lib.hid hE
      clear hE hbl
      go_wp2_with fail
      go_quiet (fail)
      go_wp2_with fail
      go_roundw
      case rel => exact ⟨j + 1, by omega, by go_num, below_drewN (below_alloc_ hbl'.out _) _⟩
      case measure => simp [intOf]; omega
    · obtain rfl : j = n := by omega
      have hbl' := Lib.hid hbl
      clear hbl
      go_wp2_with fail
      go_ret
      exact ⟨rfl, hbl'.out⟩

/-- The head of a log: twenty zeros. -/
def zeros20 : List UInt8 := List.replicate 20 0
theorem eBytes_ent (e : LEnt) : entBytes e.key e.val e.bits e.um e.exp = eBytes e := rfl
theorem bytesL_take {l : List LEnt} {j : Nat} (hj : j < l.length) : bytesL (l.take (j + 1)) = bytesL (l.take j) ++ eBytes l[j] := by
  rw [List.take_succ_eq_append_getElem hj, bytesL_append]
  simp [bytesL]
theorem bs_zeros {w : World} {t : TypeId} {g n : Nat} (h : Bk w g t (List.replicate n (Value.int .u8 0)).toArray) : Bs w g 0 (List.replicate n 0) := by
  intro j hj
  rw [h.cell]
  have hj2 : j < n := by simpa using hj
  simp [hj2]
theorem bytesL_le {l : List LEnt} {N : Nat} (h : (bytesL l).length ≤ N) (j : Nat) : (bytesL (l.take j)).length ≤ N := by
  have h1 := bytesL_append (l.take j) (l.drop j)
  rw [List.take_append_drop] at h1
  rw [h1, List.length_append] at h
  omega

set_option maxHeartbeats 4000000 in
set_option maxRecDepth 20000 in
theorem logOf_any (B : Nat) (l : List LEnt) (v : Value) (w : World) (hv : Ents B w v l) (hl : l.length ≤ 1000) (hok : ∀ e, e ∈ l → e.key.length ≤ 1000000 ∧ e.val.length ≤ 1000000 ∧ e.bits < 256 ∧ e.um < 256 ∧ e.exp < 18446744073709551616) (hbl : (bytesL l).length ≤ 1000000000) :
    Calls Tryz.prog 9 #[v] w fun e w' => e = .returned (.string ⟨(zeros20 ++ bytesL l).toArray⟩) ∧ Below w.heap.size w w' := by
  obtain ⟨A, c, rfl⟩ := ents_form hv
  obtain ⟨n, hn⟩ : ∃ n, l.length = n := ⟨_, rfl⟩
  rw [hn] at hv hl
  rw [hn]
  have hmk := run_mkB2 .i64 .i64 20 20 rfl (by omega)
  obtain ⟨Z, hZ⟩ : ∃ Z, List.replicate 20 (Value.int .u8 0) = Z := ⟨_, rfl⟩
  rw [hZ] at hmk
  have hv' := Lib.hid hv
  have hn' := Lib.hid hn
  have hok' := Lib.hid hok
  have hbl' := Lib.hid hbl
  have hZ' := Lib.hid hZ
  clear hZ hbl hok hn hv
  go_enter Tryz.func9, Tryz.ntmps9
  go_wp2_with (refine wpList_b2s rfl 22 9 5 (.tmp 6) rfl Tryz.underlying22 Tryz.underlying5 Tryz.underlying9 w.heap.size 0 20 20 rfl zeros20 rfl (bs_zeros (by rw [hZ'.out]; exact Bk.at_ _ _ _ _ rfl)) ?_)
  clear hmk
  go_loopw [3, 10] (fun s3 s10 wx => ∃ j : Nat, j ≤ n ∧ s10 = .int .i64 (j : Int) ∧ s3 = .string ⟨(zeros20 ++ bytesL (l.take j)).toArray⟩ ∧ Below w.heap.size w wx) (fun _ s10 _ => n - (intOf s10).toNat)
  case atStart => exact ⟨0, Nat.zero_le _, rfl, by simp [bytesL], (Below.refl _ _).alloc (Nat.le_refl _) _⟩
  case round =>
    obtain ⟨j, hj, rfl, rfl, hbw⟩ := hrel
    by_cases hlt : j < n
    · have hltI : (j : Int) < (n : Int) := by omega
      have hjl : j < l.length := by have := hn'.out; omega
      obtain ⟨g, rfl, hg, c0, c1, c2, c3, c4, c5, c6⟩ := (hv'.out.below hbw (Nat.le_refl _)).cells7 hjl
      have hT := bytesL_take hjl
      have hle1 := bytesL_le hbl'.out j
      have hle2 := bytesL_le hbl'.out (j + 1)
      obtain ⟨h1, h2, h3, h4, h5⟩ := hok'.out l[j] (List.getElem_mem hjl)
      obtain ⟨E, hE⟩ : ∃ E, l[j] = E := ⟨_, rfl⟩
      rw [hE] at c0 c1 c2 c3 c4 c5 c6 hT h1 h2 h3 h4 h5
      have hcall : ∀ W, Calls Tryz.prog 24 #[.agg (enC E)] W fun e w' => e = .returned (.string ⟨(eBytes E).toArray⟩) ∧ Below W.heap.size W w' := fun W => entryBytes_any ⟨E.key.toArray⟩ ⟨E.val.toArray⟩ E.bits E.um E.exp E.off E.len (by simp [ByteArray.size]; omega) (by simp [ByteArray.size]; omega) h3 h4 h5 W
      unfold enC at hcall
      unfold entCells at hcall
      rw [hT, List.length_append] at hle2
      obtain ⟨P, hP⟩ : ∃ P, zeros20 ++ bytesL (l.take j) = P := ⟨_, rfl⟩
      obtain ⟨Q, hQ⟩ : ∃ Q, eBytes E = Q := ⟨_, rfl⟩
      have hPl : P.length ≤ 1000000020 := by rw [← hP]; simp [zeros20]; omega
      have hPQ : zeros20 ++ bytesL (l.take (j + 1)) = P ++ Q := by rw [hT, ← hP, ← hQ, List.append_assoc]
      rw [hP]
      rw [hQ] at hle2
      simp only [hQ] at hcall
      have hs1 : (ByteArray.mk P.toArray).size = P.length := by simp [ByteArray.size]
      have hs2 : (ByteArray.mk Q.toArray).size = Q.length := by simp [ByteArray.size]
      have hsum : ¬ 9223372036854775807 < P.length + Q.length := by omega
      have hcall' := fun W => Lib.hid (hcall W)
      clear hcall
      have hbw' := Lib.hid hbw
      have hE' := Lib.hid hE
      have hT' := Lib.hid hT
      have hP' := Lib.hid hP
      have hQ' := Lib.hid hQ
      have hPQ' := Lib.hid hPQ
      clear hPQ hQ hP hT hE hbw
      go_wp2_with fail
      refine (hcall' _).out.mono ?_
      rintro e w2 ⟨rfl, hb2⟩
      have hb3 := below_call_ hb2 (below_alloc_ hbw'.out _)
      have hb2' := Lib.hid hb2
      have hb3' := Lib.hid hb3
      clear hb3 hb2
      go_wp2_with fail
      go_roundw
      case rel => exact ⟨j + 1, by omega, by go_num, by rw [hPQ'.out]; exact congrArg Value.string (ByteArray.mk_append_mk _ _), hb3'.out⟩
      case measure => simp [intOf]; omega
    · obtain rfl : j = n := by omega
      have hT : l.take j = l := List.take_of_length_le (by have := hn'.out; omega)
      rw [hT]
      have hbw' := Lib.hid hbw
      have hT' := Lib.hid hT
      clear hT hbw
      go_wp2_with fail
      go_ret
      exact ⟨rfl, hbw'.out⟩
end Go.Proofs.YtpndlcjilgcfkaaGreatDoor
