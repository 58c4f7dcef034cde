/-
  Contracts of spec.big and spec.EntryBytes.
-/
import Derived.Test.YtpndlcjilgcfkaaGreatDoorEnt
import Derived.Test.YtpndlcjilgcfkaaGreatDoorHdr
import Derived.Test.YtpndlcjilgcfkaaGreatDoorCrc
import Derived.Deep.RegionHeld3
import Derived.WalkSpells
import Derived.Deep.DeepCutAuto
namespace Go.Proofs.YtpndlcjilgcfkaaGreatDoor
open Go Go.RowKit
open Go.Proofs

theorem be4_cells (n : Nat) (hn : n < 4294967296) : Lib.byteCells (Lib.beBytes 4 n) = [Value.int .u8 ((n : Int) / 16777216), Value.int .u8 ((n : Int) / 65536 % 256), Value.int .u8 ((n : Int) / 256 % 256), Value.int .u8 ((n : Int) % 256)] := by
  have e0 : ((n % 256 : Nat) : Int) = (n : Int) % 256 := by omega
  have e1 : ((n / 256 % 256 : Nat) : Int) = (n : Int) / 256 % 256 := by omega
  have e2 : ((n / 256 / 256 % 256 : Nat) : Int) = (n : Int) / 65536 % 256 := by omega
  have e3 : ((n / 256 / 256 / 256 % 256 : Nat) : Int) = (n : Int) / 16777216 := by omega
  simp only [Lib.byteCells, Lib.beBytes, Lib.leBytes, List.reverse_cons, List.reverse_nil, List.nil_append, List.cons_append, List.map, Lib.toUInt8_mod, e0, e1, e2, e3]

theorem bs_of_cells4 {w : World} {b o : Nat} {l : List UInt8} (h : ∀ j u, (Lib.byteCells l)[j]? = some u → w.cell? ⟨b, o + j, none⟩ = some u) : Bs w b o l := by
  intro j hj
  exact h j _ (by simp [Lib.byteCells, hj])

set_option maxHeartbeats 400000 in
theorem big_any (n : Nat) (hn : n < 4294967296) (w : World) :
    Calls Tryz.prog 40 #[.int .u32 (n : Int)] w fun e w' => e = .returned (.string ⟨(Lib.beBytes 4 n).toArray⟩) ∧ Below w.heap.size w w' := by
  have hc := Lib.hid (be4_cells n hn)
  go_enter Tryz.func40, Tryz.ntmps40
  go_wp2_with (refine wpList_b2s rfl 22 9 5 _ rfl Tryz.underlying22 Tryz.underlying5 Tryz.underlying9 w.heap.size 0 4 4 rfl (Lib.beBytes 4 n) (Lib.beBytes_length 4 n) ?hc ?_)
  case hc =>
    apply bs_of_cells4
    rw [hc.out]
    intro j u hj
    match j, hj with
    | 0, hj => simp at hj; subst hj; simp
    | 1, hj => simp at hj; subst hj; simp
    | 2, hj => simp at hj; subst hj; simp
    | 3, hj => simp at hj; subst hj; simp
  go_ret
  exact ⟨rfl, (Below.refl _ _).alloc (Nat.le_refl _) _⟩

/-- What stands of an entry ahead of its check. -/
def entHead (k v : List UInt8) (m u x : Nat) : List UInt8 := hdrBytes k.length v.length x m u ++ k ++ v
/-- An entry's bytes. -/
def entBytes (k v : List UInt8) (m u x : Nat) : List UInt8 := entHead k v m u x ++ Lib.beBytes 4 (crc32 (entHead k v m u x))

theorem entHead_length (k v : List UInt8) (m u x : Nat) (hk : k.length < 4294967296) (hv : v.length < 4294967296) (hx : x < 18446744073709551616) : (entHead k v m u x).length ≤ 22 + k.length + v.length := by
  have := uvarint_length32 hk
  have := uvarint_length32 hv
  have := Lib.uvarint_length64 hx
  simp only [entHead, List.length_append, hdrBytes_length]
  omega

set_option maxHeartbeats 4000000 in
set_option maxRecDepth 20000 in
theorem entryBytes_any (k v : ByteArray) (m u x o n : Nat) (hk : k.size ≤ 1000000) (hv : v.size ≤ 1000000) (hm : m < 256) (hu : u < 256) (hx : x < 18446744073709551616) (w : World) :
    Calls Tryz.prog 24 #[.agg (entCells k v m u x o n)] w fun e w' => e = .returned (.string ⟨(entBytes k.data.toList v.data.toList m u x).toArray⟩) ∧ Below w.heap.size w w' := by
  have hH := fun W => specHeader_any k.size v.size x m u (by omega) (by omega) hx hm hu W
  obtain ⟨H, hHe⟩ : ∃ H, ByteArray.mk (hdrBytes k.size v.size x m u).toArray = H := ⟨_, rfl⟩
  rw [hHe] at hH
  have sH : H.size ≤ 22 := by
    have h1 := uvarint_length32 (x := k.size) (by omega)
    have h2 := uvarint_length32 (x := v.size) (by omega)
    have h3 := Lib.uvarint_length64 hx
    rw [← hHe]
    show (hdrBytes k.size v.size x m u).length ≤ 22
    rw [hdrBytes_length]; omega
  have e1 : H ++ k ++ v = ⟨(entHead k.data.toList v.data.toList m u x).toArray⟩ := by
    rw [← hHe]
    apply ByteArray.ext
    simp [ByteArray.data_append, entHead]
  have hlen := entHead_length k.data.toList v.data.toList m u x (by simp; omega) (by simp; omega) hx
  obtain ⟨l, hl⟩ : ∃ l, entHead k.data.toList v.data.toList m u x = l := ⟨_, rfl⟩
  have e2 : entBytes k.data.toList v.data.toList m u x = l ++ Lib.beBytes 4 (crc32 l) := by rw [entBytes, hl]
  rw [e2]
  rw [hl] at e1 hlen
  have hC := fun W => specCrc_any l W (by simp at hlen; omega)
  have hlt := crc32_lt l
  obtain ⟨c, hc⟩ : ∃ c, crc32 l = c := ⟨_, rfl⟩
  rw [hc] at hC hlt ⊢
  have hG := fun W => big_any c hlt W
  have a1 : ¬ 9223372036854775807 < H.size + k.size := by omega
  have a2 : ¬ 9223372036854775807 < H.size + k.size + v.size := by omega
  have wk : IntKind.u32.wrap (k.size : Int) = (k.size : Int) := IntWalk.u32_in _ (by omega)
  have wv : IntKind.u32.wrap (v.size : Int) = (v.size : Int) := IntWalk.u32_in _ (by omega)
  have e1' := Lib.hid e1
  have hlen' := Lib.hid hlen
  have hH' := fun W => Lib.hid (hH W)
  have hC' := fun W => Lib.hid (hC W)
  have hG' := fun W => Lib.hid (hG W)
  clear hH hHe e1 hlen hl e2 hC hc hG sH
  unfold entCells
  go_enter Tryz.func24, Tryz.ntmps24
  go_upto_region 1 with fail
  go_cut [3] (fun s3 wx => s3 = .string ⟨l.toArray⟩ ∧ Below w.heap.size w wx)
  case first =>
    go_region_held3 (fun w' => w'.cell? ⟨w.heap.size, 0, none⟩ = some (.string k) ∧ w'.cell? ⟨w.heap.size, 1, none⟩ = some (.string v) ∧ w'.cell? ⟨w.heap.size, 2, none⟩ = some (.int .u8 (m : Int)) ∧ w'.cell? ⟨w.heap.size, 3, none⟩ = some (.int .u8 (u : Int)) ∧ w'.cell? ⟨w.heap.size, 4, none⟩ = some (.int .u64 (x : Int))) (first | (simp [go_sem]; done) | exact ⟨q0, q1, q2, q3, q4⟩) (first | (go_at_call 39; refine (hH' _).out.mono ?_; rintro e w1 ⟨rfl, hb1⟩; have q0 : w1.cell? ⟨w.heap.size, 0, none⟩ = some (.string k) := (hb1.cell (p := ⟨w.heap.size, 0, none⟩) (by simp)).trans (by go_simp); have q1 : w1.cell? ⟨w.heap.size, 1, none⟩ = some (.string v) := (hb1.cell (p := ⟨w.heap.size, 1, none⟩) (by simp)).trans (by go_simp); have q2 : w1.cell? ⟨w.heap.size, 2, none⟩ = some (.int .u8 (m : Int)) := (hb1.cell (p := ⟨w.heap.size, 2, none⟩) (by simp)).trans (by go_simp); have q3 : w1.cell? ⟨w.heap.size, 3, none⟩ = some (.int .u8 (u : Int)) := (hb1.cell (p := ⟨w.heap.size, 3, none⟩) (by simp)).trans (by go_simp); have q4 : w1.cell? ⟨w.heap.size, 4, none⟩ = some (.int .u64 (x : Int)) := (hb1.cell (p := ⟨w.heap.size, 4, none⟩) (by simp)).trans (by go_simp)))
    all_goals
      go_wp2_with fail
      go_meet
      exact ⟨congrArg Value.string e1'.out, below_call_ hb1 (below_drew_ (below_alloc_ (Below.refl _ _) _))⟩
  case rest =>
  obtain ⟨rfl, hbl⟩ := hcut
  have hbl' := Lib.hid hbl
  have a3 : ¬ 9223372036854775807 < l.length + (Lib.beBytes 4 c).length := by
    have := hlen'.out
    rw [Lib.beBytes_length]
    simp at this
    omega
  clear hbl
  go_wp2_with fail
  refine (hC' _).out.mono ?_
  rintro e w2 ⟨rfl, hb2⟩
  have hb2' := Lib.hid hb2
  clear hb2
  go_wp2_with fail
  refine (hG' _).out.mono ?_
  rintro e w3 ⟨rfl, hb3⟩
  have hb3' := Lib.hid hb3
  clear hb3
  go_wp2_with fail
  go_ret
  exact ⟨congrArg (fun b => Ending.returned (Value.string b)) (ByteArray.mk_append_mk _ _), below_call_ hb3'.out (below_call_ hb2'.out hbl'.out)⟩
end Go.Proofs.YtpndlcjilgcfkaaGreatDoor
