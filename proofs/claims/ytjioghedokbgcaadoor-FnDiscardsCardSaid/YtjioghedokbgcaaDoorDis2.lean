/-
  discardStats.Swap; sort.Sort over discard stats.
-/
import Derived.Test.YtjioghedokbgcaaDoorDis
import Derived.Sort.Lot0
namespace Go.Proofs.YtjioghedokbgcaaDoor
open Go Go.RowKit
open Go.Proofs

theorem below_alloc_r (W : World) (o : Obj) : Below W.heap.size W (W.alloc o) := (Below.refl _ _).alloc (Nat.le_refl _) o
theorem splice_len {β : Type} (L v : List β) (o : Nat) (h : o + v.length ≤ L.length) : (splice L o v).length = L.length := by
  simp [splice]
  omega
theorem splice_all {β : Type} (a v : List β) (h : v.length = a.length) : splice a 0 v = v := by
  unfold splice
  rw [List.take_zero, h, Nat.zero_add, List.drop_length]
  simp


set_option maxHeartbeats 4000000 in
set_option maxRecDepth 20000 in
theorem disSwap_any {sb mb db len cap n : Nat} {rest : List UInt8} {w0 : World} (f : DisFix sb mb db len cap n rest w0) (W : World) (d : Array (Nat × Nat)) (i j : Nat) (h : DisR db n rest w0 W d) (hi : i < n) (hj : j < n) :
    Calls Tryd.prog 74 #[.pointer (some ⟨sb, 0, none⟩), .int .i64 (i : Int), .int .i64 (j : Int)] W fun e w' => e = .returned (.tuple #[]) ∧ DisR db n rest w0 w' (Sort.swp d i j) ∧ (∀ k, w0.heap.size ≤ k → k < W.heap.size → w'.heap[k]? = W.heap[k]?) := by
  have hm := h.mem f
  have c0 := hm.fp
  have c2 := hm.fd
  have hn := f.n8
  have hl := h.llen f
  have hle := f.le
  have hce := f.ce
  have hmx := f.max
  have bi : 16 * i + 16 ≤ len := by omega
  have bj : 16 * j + 16 ≤ len := by omega
  obtain ⟨p, hp⟩ : ∃ p, 16 * i = p := ⟨_, rfl⟩
  obtain ⟨q, hq⟩ : ∃ q, 16 * j = q := ⟨_, rfl⟩
  have hai := h.at_ hi
  have haj := h.at_ hj
  rw [hp] at hai bi
  rw [hq] at haj bj
  obtain ⟨L, hL⟩ : ∃ L, rowsB d.toList ++ rest = L := ⟨_, rfl⟩
  have hblk := h.blk
  rw [hL] at hai haj hl hblk
  obtain ⟨x, hx⟩ : ∃ x, rowB d[i]! = x := ⟨_, rfl⟩
  obtain ⟨y, hy⟩ : ∃ y, rowB d[j]! = y := ⟨_, rfl⟩
  have hx16 : x.length = 16 := by rw [← hx]; exact rowB_length _
  have hy16 : y.length = 16 := by rw [← hy]; exact rowB_length _
  rw [hx] at hai
  rw [hy] at haj
  have bsx : Bs W db p x := by
    have h1 := ((bs_of_bk hblk).drop p).take 16
    rw [hai, List.take_left' hx16, Nat.zero_add] at h1
    exact h1
  have bsy : Bs W db q y := by
    have h1 := ((bs_of_bk hblk).drop q).take 16
    rw [haj, List.take_left' hy16, Nat.zero_add] at h1
    exact h1
  have hsw := rows_swp d rest i j (by rw [h.sz]; exact hi) (by rw [h.sz]; exact hj)
  rw [hL, hx, hy, hp, hq] at hsw
  have wi : IntKind.i64.wrap (16 * (i : Int)) = (p : Int) := (IntWalk.i64_in _ (by omega)).trans (by omega)
  have wj : IntKind.i64.wrap (16 * (j : Int)) = (q : Int) := (IntWalk.i64_in _ (by omega)).trans (by omega)
  have wp : IntKind.i64.wrap ((p : Int) + 16) = (p : Int) + 16 := IntWalk.i64_in _ (by omega)
  have wq : IntKind.i64.wrap ((q : Int) + 16) = (q : Int) + 16 := IntWalk.i64_in _ (by omega)
  have p1 : (0 : Int) ≤ (p : Int) := by omega
  have p2 : (p : Int) ≤ (p : Int) + 16 := by omega
  have p3 : (p : Int) + 16 ≤ (cap : Int) := by omega
  have p4 : ¬ cap = p := by omega
  have p5 : ((p : Int) + 16).toNat = p + 16 := by omega
  have q1 : (0 : Int) ≤ (q : Int) := by omega
  have q2 : (q : Int) ≤ (q : Int) + 16 := by omega
  have q3 : (q : Int) + 16 ≤ (cap : Int) := by omega
  have q4 : ¬ cap = q := by omega
  have q5 : ((q : Int) + 16).toNat = q + 16 := by omega
  have hdlt := hblk.lt
  have hLc : (Lib.byteCells L).length = len := by rw [← hl]; simp [Lib.byteCells]
  have h' := Lib.hid h
  have hm' := Lib.hid hm
  have hai' := Lib.hid hai
  have haj' := Lib.hid haj
  have hL' := Lib.hid hL
  have hblk' := Lib.hid hblk
  have hx' := Lib.hid hx
  have hy' := Lib.hid hy
  have bsx' := Lib.hid bsx
  have bsy' := Lib.hid bsy
  have hsw' := Lib.hid hsw
  have hp' := Lib.hid hp
  have hq' := Lib.hid hq
  have hl' := Lib.hid hl
  have hle' := Lib.hid hle
  have hLc' := Lib.hid hLc
  clear hLc hle hl hq hp hsw bsy bsx hy hx hblk hL haj hai hm h
  go_enter Tryd.func74, Tryd.ntmps74
  go_upto_region 3 with fail
  obtain ⟨W1, hW1⟩ : ∃ w, W.alloc (Obj.cells #[Value.int IntKind.u8 0, Value.int IntKind.u8 0, Value.int IntKind.u8 0, Value.int IntKind.u8 0, Value.int IntKind.u8 0, Value.int IntKind.u8 0, Value.int IntKind.u8 0, Value.int IntKind.u8 0, Value.int IntKind.u8 0, Value.int IntKind.u8 0, Value.int IntKind.u8 0, Value.int IntKind.u8 0, Value.int IntKind.u8 0, Value.int IntKind.u8 0, Value.int IntKind.u8 0, Value.int IntKind.u8 0] 140) = w := ⟨_, rfl⟩
  rw [hW1]
  obtain ⟨tb, htb⟩ : ∃ b, W.heap.size = b := ⟨_, rfl⟩
  have hZ : Bk W1 tb 140 (List.replicate 16 (Value.int IntKind.u8 0)).toArray := by rw [← hW1, ← htb]; exact Bk.at_ _ _ _ _ rfl
  have hg0 : W.grownBy W1 none := by rw [← hW1]; exact World.grownBy_alloc W _ _
  have hZl : (List.replicate 16 (Value.int IntKind.u8 0)).length = 16 := rfl
  obtain ⟨Z, hZZ⟩ : ∃ Z, List.replicate 16 (Value.int IntKind.u8 0) = Z := ⟨_, rfl⟩
  rw [hZZ] at hZ hZl
  clear hZZ hW1
  rw [htb]
  have hdt : db ≠ tb := by omega
  have hb1 := hblk'.out.grown hg0 (by simp)
  have hx1 : Bs W1 db p x := bsx'.out.grown hg0 (by simp)
  have hy1 : Bs W1 db q y := bsy'.out.grown hg0 (by simp)
  have hsx : Src W1 (some ⟨db, p, none⟩) 16 x := ⟨hx16, fun _ => ⟨db, p, rfl, hx1⟩⟩
  have hxt : x.take 16 = x := List.take_of_length_le (by omega)
  have hyt : y.take 16 = y := List.take_of_length_le (by omega)
  have hbl := hLc'.out
  have hZ' := Lib.hid hZ
  have hg0' := Lib.hid hg0
  have hb1' := Lib.hid hb1
  have hx1' := Lib.hid hx1
  have hy1' := Lib.hid hy1
  have hsx' := Lib.hid hsx
  clear hsx hy1 hx1 hb1 hg0 hZ
  have hsl : (Lib.byteCells (splice L p y)).length = len := by
    rw [← byteCells_splice, splice_len _ _ _ (by rw [hbl]; simp [Lib.byteCells]; omega), hbl]
  go_wp2_with (first | (refine wpList_copyB rfl (.tmp 35) (.tmp 36) 74 74 rfl 5 Tryd.underlying74 (by kernel_rfl) tb 0 16 16 rfl (some ⟨db, p, none⟩) 16 (cap - p) rfl x hsx'.out Z 140 hZ'.out (by simp; omega) ?_; intro w1 hT1 hg1; rw [hxt, splice_all _ _ (by simp [Lib.byteCells]; omega)] at hT1; have hb2' := Lib.hid (hb1'.out.grown hg1 (by simp; exact hdt)); have hsy' := Lib.hid (show Src w1 (some ⟨db, q, none⟩) 16 y from ⟨hy16, fun _ => ⟨db, q, rfl, hy1'.out.grown hg1 (by simp; exact hdt)⟩⟩); have hT1' := Lib.hid hT1; have hg1' := Lib.hid hg1; clear hT1 hg1) | (refine wpList_copyB rfl (.tmp 38) (.tmp 39) 74 74 rfl 5 Tryd.underlying74 (by kernel_rfl) db p 16 (cap - p) rfl (some ⟨db, q, none⟩) 16 (cap - q) rfl y hsy'.out (Lib.byteCells L) 5 hb2'.out (by simp; omega) ?_; intro w2 hB2 hg2; rw [hyt, byteCells_splice] at hB2; have hsx2' := Lib.hid (show Src w2 (some ⟨tb, 0, none⟩) 16 x from ⟨hx16, fun _ => ⟨tb, 0, rfl, bs_of_bk (hT1'.out.grown hg2 (by simp; exact Ne.symm hdt))⟩⟩); have hB2' := Lib.hid hB2; have hg2' := Lib.hid hg2; clear hB2 hg2) | (refine wpList_copyB rfl (.tmp 41) (.tmp 42) 74 74 rfl 5 Tryd.underlying74 (by kernel_rfl) db q 16 (cap - q) rfl (some ⟨tb, 0, none⟩) 16 16 rfl x hsx2'.out (Lib.byteCells (splice L p y)) 5 hB2'.out (by simp; omega) ?_; intro w3 hB3 hg3; rw [hxt, byteCells_splice, hsw'.out] at hB3; have hB3' := Lib.hid hB3; have hg3' := Lib.hid hg3; clear hB3 hg3))
  go_end0
  have hall : ∀ k, k < W.heap.size → k ≠ db → w3.heap[k]? = W.heap[k]? := fun k hk hkd => by
    have k1 : k < w1.heap.size := Nat.lt_of_lt_of_le hk (Nat.le_trans hg0'.out.size hg1'.out.size)
    have e3 := hg3'.out.block k (Nat.lt_of_lt_of_le k1 hg2'.out.size) (by simpa using hkd)
    have e2 := hg2'.out.block k k1 (by simpa using hkd)
    have e1 := hg1'.out.block k (Nat.lt_of_lt_of_le hk hg0'.out.size) (by simp; omega)
    have e0 := hg0'.out.block k hk (by simp)
    exact e3.trans (e2.trans (e1.trans e0))
  have hgr : W.heap.size ≤ w3.heap.size := Nat.le_trans hg0'.out.size (Nat.le_trans hg1'.out.size (Nat.le_trans hg2'.out.size hg3'.out.size))
  refine ⟨rfl, ⟨hB3'.out, fun k hk hkd => (hall k (Nat.lt_of_lt_of_le hk h'.out.grow) hkd).trans (h'.out.keep k hk hkd), Nat.le_trans h'.out.grow hgr, ?_, ?_, ?_, ?_, by rw [Sort.size_swp]; exact h'.out.sz⟩, fun k hk hkW => hall k (by omega) (by have := f.d; omega)⟩
  · exact hg3'.out.os.trans (hg2'.out.os.trans (hg1'.out.os.trans (hg0'.out.os.trans h'.out.os)))
  · exact hg3'.out.tape.trans (hg2'.out.tape.trans (hg1'.out.tape.trans (hg0'.out.tape.trans h'.out.tape)))
  · exact hg3'.out.output.trans (hg2'.out.output.trans (hg1'.out.output.trans (hg0'.out.output.trans h'.out.out)))
  · intro k hk
    rw [Sort.size_swp] at hk
    have wfi := h'.out.wf i (by rw [h'.out.sz]; exact hi)
    have wfj := h'.out.wf j (by rw [h'.out.sz]; exact hj)
    by_cases hkj : k = j
    · subst hkj
      rw [Sort.swp_right d i k hk]
      exact wfi
    · by_cases hki : k = i
      · subst hki
        rw [Sort.swp_left d k j hk hkj]
        exact wfj
      · rw [Sort.swp_other d i j k hki hkj]
        exact h'.out.wf k hk

/-- What sort.Sort asks of discard stats. -/
theorem disEnv {sb mb db len cap n : Nat} {rest : List UInt8} {w0 : World} (f : DisFix sb mb db len cap n rest w0) : SortEnv ⟨sb, 0, none⟩ (fun x y : Nat × Nat => decide (x.1 < y.1)) n w0.heap.size (DisR db n rest w0) where
  less := fun W d i j h _ hi hj => disLess_any f W d i j h hi hj
  swap := fun W d i j h _ hi hj => disSwap_any f W d i j h hi hj
  alloc := fun W d o h => h.below f.d (below_alloc_r W o)
  drew := fun W d h => h.below f.d (Below.drew (Below.refl _ _))
  store := fun W d p v h hp => ⟨h.blk.far (by have := f.d; omega) v, fun k hk hn => (heap_setCell_other W p k v (by omega)).trans (h.keep k hk hn), by simpa using h.grow, h.os, h.tape, h.out, h.wf, h.sz⟩
  size := fun W d h => h.grow
  small := by have := f.n8; omega

/-- sort.Sort sorts discard stats. -/
theorem disSort_any {sb mb db len cap n : Nat} {rest : List UInt8} {w0 : World} (f : DisFix sb mb db len cap n rest w0) (d : Array (Nat × Nat)) (W : World) (h : DisR db n rest w0 W d) :
    Calls Tryd.prog 17 #[.iface 38 (.pointer (some ⟨sb, 0, none⟩))] W fun e w' => e = .returned (.tuple #[]) ∧ DisR db n rest w0 w' (Sort.sort (fun x y : Nat × Nat => decide (x.1 < y.1)) d) := by
  exact sort_any (disEnv f) f.n8 ⟨fun x => by simp, fun x y z h1 h2 => by simp at h1 h2 ⊢; omega, fun x y z h1 h2 => by simp at h1 h2 ⊢; omega⟩ (fun W' d' h' => (disLen_any sb mb db len cap n W' (h'.mem f)).mono fun e w' ⟨he, hw⟩ => ⟨he, by rw [hw]; exact h'⟩) d W h h.sz
end Go.Proofs.YtjioghedokbgcaaDoor
