/-
  Contracts of spec.Uvarint, spec.HeaderBytes, header.Encode, header.Decode.
-/
import Derived.Test.YtpndlcjilgcfkaaGreatDoorSpecW
import Derived.Test.YtpndlcjilgcfkaaGreatDoorRows
import Derived.Test.YtpndlcjilgcfkaaGreatDoorMem
import Derived.Test.YtpndlcjilgcfkaaGreatDoorHdrMath
import Derived.Lib.VarintMem
import Derived.Deep.RegionWith
namespace Go.Proofs.YtpndlcjilgcfkaaGreatDoor
open Go Go.RowKit
open Go.Proofs
open Go.Lib (uvarint uvarintDec)

theorem u8hdr : (Tryz.prog.info? 5).map (fun i => (i.zero, i.size, i.bytes)) = some (some (.int .u8 0), 1, 1) := by kernel_rfl

theorem src_one {w : World} {b : Nat} {a : Nat} (ha : a < 256) (h : w.cell? ⟨b, 0, none⟩ = some (.int .u8 (a : Int))) : Src w (some ⟨b, 0, none⟩) 1 [a.toUInt8] := by
  refine ⟨rfl, fun _ => ⟨b, 0, rfl, ?_⟩⟩
  intro j hj
  obtain rfl : j = 0 := by simpa using hj
  rw [h]
  simp only [List.getElem_cons_zero, toU8 ha]

set_option maxHeartbeats 2000000 in
set_option maxRecDepth 20000 in
theorem specUvarint_any (x : Nat) (hx : x < 18446744073709551616) (w : World) :
    Calls Tryz.prog 60 #[.int .u64 (x : Int)] w fun e w' => e = .returned (.string ⟨(uvarint x).toArray⟩) ∧ Below w.heap.size w w' := by
  obtain ⟨i0, hi, hz0, hz1, hz2⟩ := info_parts u8hdr
  have hlen := Lib.uvarint_length64 hx
  go_enter Tryz.func60, Tryz.ntmps60
  go_wp2_with fail
  go_loopw [0, 3] (fun n v wr => ∃ (y : Nat) (pre : List UInt8), n = .int .u64 (y : Int) ∧ OwnB wr w.heap.size 5 v pre ∧ y ≤ x ∧ uvarint x = pre ++ uvarint y ∧ Below w.heap.size w wr)
    (fun n _ _ => (intOf n).toNat)
  case atStart => exact ⟨x, [], rfl, OwnB.nil _ _ _, Nat.le_refl _, rfl, Below.refl _ _⟩
  case round =>
    obtain ⟨y, pre, rfl, hown, hy, hsplit, hbl⟩ := hrel
    have hpl : pre.length + (uvarint y).length = (uvarint x).length := by rw [hsplit, List.length_append]
    have hpos := Lib.uvarint_pos y
    have hsplit' := Lib.hid hsplit
    clear hsplit
    by_cases h128 : 128 ≤ y
    · have hor : bits .or .u8 ((y : Int) % 256) 128 = ((y % 128 + 128 : Nat) : Int) := by
        rw [Lib.u8_or128_any _ (by omega) (by omega)]
        omega
      obtain ⟨q, hq⟩ : ∃ q, pre ++ [(y % 128 + 128).toUInt8] = q := ⟨_, rfl⟩
      have hq' := Lib.hid hq
      clear hq
      go_wp2_with (first | (at_builtin; refine wpList_appendB rfl (.tmp 6) (.tmp 10) 22 rfl 5 i0 Tryz.underlying22 hi hz0 hz1 hz2 w.heap.size _ pre rfl (hown.alloc _) _ _ _ rfl [(y % 128 + 128).toUInt8] (src_one (by omega) (by simp)) ?hlen ?hb q hq'.out ?_) | fail)
      case hlen => simp; omega
      case hb => have := hbl.size; simp; omega
      intro v' w1 hown1 hg1 _
      have hpl' := Lib.hid hpl
      clear hpl hor
      go_wp2_with fail
      go_roundw
      case rel =>
        refine ⟨y / 128, q, by go_num, hown1, by omega, by rw [hsplit'.out, Lib.uvarint_big h128, ← hq'.out]; simp, ?_⟩
        exact (hbl.alloc hbl.size _).grown hg1 (by have := hbl.size; simp; omega) (fun k hk => (hown.lt k hk).1)
      case measure => simp [intOf]; omega
    · have e : pre ++ [y.toUInt8] = uvarint x := by rw [hsplit'.out, Lib.uvarint_small (x := y) (by omega)]
      have e' := Lib.hid e
      clear e
      have hpl' := Lib.hid hpl
      clear hpl
      go_wp2_with (first | (at_builtin; refine wpList_appendB rfl (.tmp 14) (.tmp 17) 22 rfl 5 i0 Tryz.underlying22 hi hz0 hz1 hz2 w.heap.size _ pre rfl (hown.alloc _) _ _ _ rfl [y.toUInt8] (src_one (by omega) (by simp)) ?hlen ?hb (uvarint x) e'.out ?_) | fail)
      case hlen => have := hpl'.out; simp; omega
      case hb => have := hbl.size; simp; omega
      intro v' w1 hown1 hg1 _
      obtain ⟨g, cap, rfl, _, _, hbs⟩ := hown1.form (by have := hpl'.out; omega)
      have hbl1 := (hbl.alloc hbl.size _).grown hg1 (by have := hbl.size; simp; omega) (fun k hk => (hown.lt k hk).1)
      have hbl1' := Lib.hid hbl1
      clear hown1 hbl1 hown
      go_wp2_with (refine wpList_b2s rfl 22 9 5 (.tmp 18) rfl Tryz.underlying22 Tryz.underlying5 Tryz.underlying9 g 0 _ _ rfl (uvarint x) rfl hbs ?_)
      go_ret
      exact ⟨rfl, hbl1'.out⟩

theorem run_b2s {P : Program} (w : World) (src dst e : TypeId) (hs : P.underlying src = some (.slice e)) (he : P.underlying e = some (.int .u8)) (hd : P.underlying dst = some .string)
    (b off n c : Nat) (l : List UInt8) (hl : l.length = n) (hc : Bs w b off l) : (convert src dst (.slice (some ⟨b, off, none⟩) n c)).run P w = .ok (.string ⟨l.toArray⟩) w := by
  have hrun := run_convert_bytes_arg (P := P) w src e hs he b off n c (l.map fun u => (u.toNat : Int)) (by simpa using hl)
    (fun i hi => by subst hl; rw [hc i hi]; simp [List.getD, hi]) dst hd
  rw [foldl_eq_strOf] at hrun
  exact hrun

theorem bs_two (w : World) (m u : Nat) (hm : m < 256) (hu : u < 256) (t : TypeId) (n : Nat) (hn : n = w.heap.size) : Bs (w.alloc (.cells #[.int .u8 (m : Int), .int .u8 (u : Int)] t)) n 0 [m.toUInt8, u.toUInt8] := by
  subst hn
  intro j hj
  match j, hj with
  | 0, _ => simp only [List.getElem_cons_zero, toU8 hm]; simp
  | 1, _ => simp only [List.getElem_cons_succ, List.getElem_cons_zero, toU8 hu]; simp

theorem Bs.call_ {W W' : World} {b o : Nat} {x : UInt8} {l : List UInt8} (h2 : Below W.heap.size W W') (h : Bs W b o (x :: l)) : Bs W' b o (x :: l) := h.below h2 (h.lt (by simp))

set_option maxHeartbeats 4000000 in
set_option maxRecDepth 20000 in
theorem specHeader_any (k v x m u : Nat) (hk : k < 4294967296) (hv : v < 4294967296) (hx : x < 18446744073709551616) (hm : m < 256) (hu : u < 256) (w : World) :
    Calls Tryz.prog 39 #[.int .u32 (k : Int), .int .u32 (v : Int), .int .u64 (x : Int), .int .u8 (m : Int), .int .u8 (u : Int)] w fun e w' => e = .returned (.string ⟨(hdrBytes k v x m u).toArray⟩) ∧ Below w.heap.size w w' := by
  have wk : IntKind.u64.wrap (k : Int) = (k : Int) := IntWalk.u64_in _ (by omega)
  have wv : IntKind.u64.wrap (v : Int) = (v : Int) := IntWalk.u64_in _ (by omega)
  have hl1 := Lib.uvarint_length64 (x := k) (by omega)
  have hl2 := Lib.uvarint_length64 (x := v) (by omega)
  have hl3 := Lib.uvarint_length64 (x := x) (by omega)
  obtain ⟨H, hH⟩ : ∃ H, ByteArray.mk [m.toUInt8, u.toUInt8].toArray = H := ⟨_, rfl⟩
  obtain ⟨A, hA⟩ : ∃ A, ByteArray.mk (uvarint k).toArray = A := ⟨_, rfl⟩
  obtain ⟨B, hB⟩ : ∃ B, ByteArray.mk (uvarint v).toArray = B := ⟨_, rfl⟩
  obtain ⟨C, hC⟩ : ∃ C, ByteArray.mk (uvarint x).toArray = C := ⟨_, rfl⟩
  have sH : H.size = 2 := by rw [← hH]; rfl
  have sA : A.size ≤ 10 := by rw [← hA]; exact hl1
  have sB : B.size ≤ 10 := by rw [← hB]; exact hl2
  have sC : C.size ≤ 10 := by rw [← hC]; exact hl3
  have b1 : ¬ 9223372036854775807 < 2 + A.size := by omega
  have b2 : ¬ 9223372036854775807 < 2 + A.size + B.size := by omega
  have b3 : ¬ 9223372036854775807 < 2 + A.size + B.size + C.size := by omega
  clear sA sB sC
  have hres : H ++ A ++ B ++ C = ⟨(hdrBytes k v x m u).toArray⟩ := by
    rw [← hH, ← hA, ← hB, ← hC, ByteArray.mk_append_mk, ByteArray.mk_append_mk, ByteArray.mk_append_mk]
    simp [hdrBytes]
  have cA : ∀ W, Calls Tryz.prog 60 #[.int .u64 (k : Int)] W fun e w' => e = .returned (.string A) ∧ Below W.heap.size W w' := fun W => hA ▸ specUvarint_any k (by omega) W
  have cB : ∀ W, Calls Tryz.prog 60 #[.int .u64 (v : Int)] W fun e w' => e = .returned (.string B) ∧ Below W.heap.size W w' := fun W => hB ▸ specUvarint_any v (by omega) W
  have cC : ∀ W, Calls Tryz.prog 60 #[.int .u64 (x : Int)] W fun e w' => e = .returned (.string C) ∧ Below W.heap.size W w' := fun W => hC ▸ specUvarint_any x (by omega) W
  have hconv : ∀ (W : World) (b : Nat), Bs W b 0 [m.toUInt8, u.toUInt8] → (convert 22 9 (.slice (some ⟨b, 0, none⟩) 2 2)).run Tryz.prog W = .ok (.string H) W :=
    fun W b h => hH ▸ run_b2s W _ _ 5 Tryz.underlying22 Tryz.underlying5 Tryz.underlying9 _ _ _ _ _ rfl h
  clear hl1 hl2 hl3
  have hH' := Lib.hid hH
  have hA' := Lib.hid hA
  have hB' := Lib.hid hB
  have hC' := Lib.hid hC
  have hres' := Lib.hid hres
  clear hH hA hB hC hres
  go_enter Tryz.func39, Tryz.ntmps39
  go_wp2_with fail
  go_region_with (first | (go_at_call_of 60 (Value.int .u64 (k : Int)); refine (cA _).mono ?_; rintro e w1 ⟨rfl, hb1⟩) | (go_at_call_of 60 (Value.int .u64 (v : Int)); refine (cB _).mono ?_; rintro e w1 ⟨rfl, hb1⟩) | (go_at_call_of 60 (Value.int .u64 (x : Int)); refine (cC _).mono ?_; rintro e w1 ⟨rfl, hb1⟩) | (rw [hconv _ _ (by first | exact bs_two _ m u hm hu _ _ rfl | exact Bs.drew (bs_two _ m u hm hu _ _ rfl) | exact Bs.call_ (by assumption) (bs_two _ m u hm hu _ _ rfl) | exact Bs.call_ (by assumption) (Bs.drew (bs_two _ m u hm hu _ _ rfl)) | exact Bs.call_ (by assumption) (Bs.call_ (by assumption) (bs_two _ m u hm hu _ _ rfl)) | exact Bs.call_ (by assumption) (Bs.call_ (by assumption) (Bs.drew (bs_two _ m u hm hu _ _ rfl))) | exact Bs.call_ (by assumption) (Bs.call_ (by assumption) (Bs.call_ (by assumption) (Bs.drew (bs_two _ m u hm hu _ _ rfl)))))]; go_simp))
  all_goals
    go_wp2_with fail
    go_ret
    exact ⟨congrArg (fun s => Ending.returned (.string s)) hres'.out, by repeat (first | exact Below.refl _ _ | refine below_drew_ ?_ | refine below_alloc_ ?_ _ | refine below_call_ (by assumption) ?_)⟩
end Go.Proofs.YtpndlcjilgcfkaaGreatDoor
