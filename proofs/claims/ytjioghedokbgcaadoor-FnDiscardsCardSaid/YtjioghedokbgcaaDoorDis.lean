/-
  Contracts of discardStats: get, Len, Less, Swap.
-/
import Derived.Test.YtjioghedokbgcaaDoorKey
import Derived.Test.YtjioghedokbgcaaDoorDisP
import Derived.Test.YtjioghedokbgcaaDoorSortI
import Derived.Deep.RegionWith
namespace Go.Proofs.YtjioghedokbgcaaDoor
open Go Go.RowKit
open Go.Proofs

/-- Where discard stats stand. -/
structure DisMem (sb mb db len cap n : Nat) (W : World) : Prop where
  fp : W.cell? ⟨sb, 0, none⟩ = some (.pointer (some ⟨mb, 0, none⟩))
  fn : W.cell? ⟨sb, 44, none⟩ = some (.int .i64 (n : Int))
  fd : W.cell? ⟨mb, 0, none⟩ = some (.slice (some ⟨db, 0, none⟩) len cap)

set_option maxHeartbeats 2000000 in
set_option maxRecDepth 20000 in
theorem disLen_any (sb mb db len cap n : Nat) (W : World) (h : DisMem sb mb db len cap n W) :
    Calls Tryd.prog 72 #[.pointer (some ⟨sb, 0, none⟩)] W fun e w' => e = .returned (.int .i64 (n : Int)) ∧ w' = W := by
  have c1 := h.fn
  clear h
  go_enter Tryd.func72, Tryd.ntmps72
  go_wp2_with fail
  go_ret
  exact ⟨rfl, rfl⟩

set_option maxHeartbeats 2000000 in
set_option maxRecDepth 20000 in
theorem disGet_any (sb mb db len cap n off : Nat) (L : List UInt8) (W : World) (h : DisMem sb mb db len cap n W) (hB : Bk W db 5 (Lib.byteCells L).toArray) (hL : L.length = len) (hlc : len ≤ cap) (ho : off + 8 ≤ len) (hcap : cap ≤ 4294967296) :
    Calls Tryd.prog 16 #[.pointer (some ⟨sb, 0, none⟩), .int .i64 (off : Int)] W fun e w' => e = .returned (.int .u64 (Lib.beNat ((L.drop off).take 8) : Nat)) ∧ Below W.heap.size W w' := by
  have c0 := h.fp
  have c2 := h.fd
  have hbs : Bs W db off (L.drop off) := by
    have := (bs_of_bk hB).drop off
    rwa [Nat.zero_add] at this
  have hcall := u64BE_any db off 8 (cap - off) (L.drop off) W.drew hbs.drew (by rw [List.length_drop]; omega) (Nat.le_refl _)
  have w8 : IntKind.i64.wrap ((off : Int) + 8) = (off : Int) + 8 := IntWalk.i64_in _ (by omega)
  have h1 : (0 : Int) ≤ (off : Int) := by omega
  have h2 : (off : Int) ≤ (off : Int) + 8 := by omega
  have h3 : (off : Int) + 8 ≤ (cap : Int) := by omega
  have h4 : ¬ cap = off := by omega
  have h5 : ((off : Int) + 8).toNat = off + 8 := by omega
  obtain ⟨x, hx⟩ : ∃ x, Lib.beNat ((L.drop off).take 8) = x := ⟨_, rfl⟩
  rw [hx] at hcall
  rw [hx]
  clear h hB hbs
  have hcall' := Lib.hid hcall
  have hx' := Lib.hid hx
  clear hx hcall
  go_enter Tryd.func16, Tryd.ntmps16
  go_wp2_with fail
  go_region_with (go_at_call 29; with_reducible refine hcall'.out.mono ?_; rintro e w1 ⟨rfl, hb1⟩)
  all_goals
    go_wp2_with fail
    go_ret
    exact ⟨rfl, below_step (Below.drew (Below.refl _ _)) (Nat.le_refl _) hb1⟩

/-- What is fixed while the stats are sorted. -/
structure DisFix (sb mb db len cap n : Nat) (rest : List UInt8) (w0 : World) : Prop where
  mem : DisMem sb mb db len cap n w0
  s : sb < w0.heap.size
  m : mb < w0.heap.size
  d : db < w0.heap.size
  sd : sb ≠ db
  md : mb ≠ db
  le : len = 16 * n + rest.length
  ce : len ≤ cap
  max : cap ≤ 4294967296
  n8 : n < 256

/-- The stats d stand there; all else is as it was. -/
structure DisR (db n : Nat) (rest : List UInt8) (w0 W : World) (d : Array (Nat × Nat)) : Prop where
  blk : Bk W db 5 (Lib.byteCells (rowsB d.toList ++ rest)).toArray
  keep : ∀ k, k < w0.heap.size → k ≠ db → W.heap[k]? = w0.heap[k]?
  grow : w0.heap.size ≤ W.heap.size
  os : W.os = w0.os
  tape : W.tape = w0.tape
  out : W.output = w0.output
  wf : ∀ i, i < d.size → d[i]!.1 < 18446744073709551616 ∧ d[i]!.2 < 18446744073709551616
  sz : d.size = n

section
variable {sb mb db len cap n : Nat} {rest : List UInt8} {w0 W w' : World} {d : Array (Nat × Nat)}
theorem DisR.below (h : DisR db n rest w0 W d) (hdb : db < w0.heap.size) (hb : Below W.heap.size W w') : DisR db n rest w0 w' d :=
  ⟨h.blk.below hb (Nat.lt_of_lt_of_le hdb h.grow), fun k hk hn => (hb.block k (Nat.lt_of_lt_of_le hk h.grow)).trans (h.keep k hk hn), Nat.le_trans h.grow hb.size, hb.os.trans h.os, hb.tape.trans h.tape, hb.output.trans h.out, h.wf, h.sz⟩
theorem DisR.cell (h : DisR db n rest w0 W d) {b : Nat} (o : Nat) (hb : b < w0.heap.size) (hn : b ≠ db) : W.cell? ⟨b, o, none⟩ = w0.cell? ⟨b, o, none⟩ := World.cell?_of_block (w := w0) (h.keep b hb hn)
theorem DisR.mem (h : DisR db n rest w0 W d) (f : DisFix sb mb db len cap n rest w0) : DisMem sb mb db len cap n W :=
  ⟨(h.cell 0 f.s f.sd).trans f.mem.fp, (h.cell 44 f.s f.sd).trans f.mem.fn, (h.cell 0 f.m f.md).trans f.mem.fd⟩
theorem DisR.at_ (h : DisR db n rest w0 W d) {i : Nat} (hi : i < n) : (rowsB d.toList ++ rest).drop (16 * i) = rowB d[i]! ++ (rowsB (d.toList.drop (i + 1)) ++ rest) := by
  have hi' : i < d.toList.length := by rw [Array.length_toList, h.sz]; exact hi
  have hi2 : i < d.size := by rw [h.sz]; exact hi
  rw [rowsB_at _ _ _ hi']
  simp [hi2]
theorem DisR.fid (h : DisR db n rest w0 W d) {i : Nat} (hi : i < n) : Lib.beNat (((rowsB d.toList ++ rest).drop (16 * i)).take 8) = d[i]!.1 := by
  have hi2 : i < d.size := by rw [h.sz]; exact hi
  rw [h.at_ hi, rowB, List.append_assoc, List.take_left' (Lib.beBytes_length 8 _), Lib.beNat_beBytes 8 _ (by have := (h.wf i hi2).1; omega)]
theorem DisR.llen (h : DisR db n rest w0 W d) (f : DisFix sb mb db len cap n rest w0) : (rowsB d.toList ++ rest).length = len := by
  rw [List.length_append, rowsB_length, Array.length_toList, h.sz, f.le]
end

set_option maxHeartbeats 2000000 in
set_option maxRecDepth 20000 in
theorem disLess_any {sb mb db len cap n : Nat} {rest : List UInt8} {w0 : World} (f : DisFix sb mb db len cap n rest w0) (W : World) (d : Array (Nat × Nat)) (i j : Nat) (h : DisR db n rest w0 W d) (hi : i < n) (hj : j < n) :
    Calls Tryd.prog 73 #[.pointer (some ⟨sb, 0, none⟩), .int .i64 (i : Int), .int .i64 (j : Int)] W fun e w' => e = .returned (.bool (decide (d[i]!.1 < d[j]!.1))) ∧ DisR db n rest w0 w' d ∧ Below W.heap.size W w' := by
  have hg : ∀ (W' : World) (k : Nat), DisR db n rest w0 W' d → k < n → Calls Tryd.prog 16 #[.pointer (some ⟨sb, 0, none⟩), .int .i64 ((16 * k : Nat) : Int)] W' fun e w' => e = .returned (.int .u64 (d[k]!.1 : Nat)) ∧ Below W'.heap.size W' w' := fun W' k h' hk => by
    have h1 := disGet_any sb mb db len cap n (16 * k) _ W' (h'.mem f) h'.blk (h'.llen f) f.ce (by have := f.le; omega) f.max
    rw [h'.fid hk] at h1
    exact h1
  have hn := f.n8
  have wi : IntKind.i64.wrap (16 * (i : Int)) = ((16 * i : Nat) : Int) := (IntWalk.i64_in _ (by omega)).trans (by omega)
  have wj : IntKind.i64.wrap (16 * (j : Int)) = ((16 * j : Nat) : Int) := (IntWalk.i64_in _ (by omega)).trans (by omega)
  have hg1 := hg W i h hi
  have hg2 := fun (W' : World) (h' : DisR db n rest w0 W' d) => hg W' j h' hj
  obtain ⟨x, hx⟩ : ∃ x, d[i]!.1 = x := ⟨_, rfl⟩
  obtain ⟨y, hy⟩ : ∃ y, d[j]!.1 = y := ⟨_, rfl⟩
  obtain ⟨p, hp⟩ : ∃ p, 16 * i = p := ⟨_, rfl⟩
  obtain ⟨q, hq⟩ : ∃ q, 16 * j = q := ⟨_, rfl⟩
  rw [hx, hp] at hg1
  simp only [hy, hq] at hg2
  rw [hx, hy]
  rw [hp] at wi
  rw [hq] at wj
  have hlt : decide ((x : Int) < (y : Int)) = decide (x < y) := decide_eq_decide.2 (by omega)
  clear hg
  have hg1' := Lib.hid hg1
  have hg2' := Lib.hid hg2
  have h' := Lib.hid h
  have hx' := Lib.hid hx
  have hy' := Lib.hid hy
  have hp' := Lib.hid hp
  have hq' := Lib.hid hq
  clear hq hp hy hx h hg2 hg1
  go_enter Tryd.func73, Tryd.ntmps73
  go_wp2_with fail
  with_reducible refine hg1'.out.mono ?_
  rintro e w1 ⟨rfl, hb1⟩
  have h1 := h'.out.below f.d hb1
  have h1' := Lib.hid h1
  have hb1' := Lib.hid hb1
  clear hb1 h1
  go_wp2_with fail
  refine (hg2'.out _ h1'.out).mono ?_
  rintro e w2 ⟨rfl, hb2⟩
  have h2 := h1'.out.below f.d hb2
  have h2' := Lib.hid h2
  have hb2' := Lib.hid hb2
  clear hb2 h2
  go_wp2_with fail
  go_ret
  exact ⟨by simp, h2'.out, below_step hb1'.out hb1'.out.size hb2'.out⟩
end Go.Proofs.YtjioghedokbgcaaDoor
