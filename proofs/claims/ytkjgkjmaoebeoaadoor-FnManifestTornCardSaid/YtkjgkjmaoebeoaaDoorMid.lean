/-
  Manifest.ids: the numbers of the tables, in order.
-/
import Derived.Maps.RangeWalk
import Derived.Shelf.GgSortFunc.Whole
import Derived.Shelf.GgSortFunc.Tiny
import Derived.Sort.OwnSortedInts
import Derived.Deep.QuietTactic
import Derived.Test.YtkjgkjmaoebeoaaDoorMsm
import Derived.Test.YtkjgkjmaoebeoaaDoorMac
namespace Go.Proofs.YtkjgkjmaoebeoaaDoor
open Go Go.RowKit Go.Maps Go.Sort
open Go.Proofs

section
variable {H : Type} {P : Program} {k : TypeId} {R : Value → Option (DataW H × List MemPlace)} {w w' : World} {b r n : Nat} {D : DataW H} {left : Lit → Bool} {cnt : Nat} {S : List Nat}
theorem ranges_ch (h : w.ranges P k R b r n D left cnt) (hc : Ch S w w') (hb : b ∉ S) (hr : r ∉ S) : w'.ranges P k R b r n D left cnt := by
  have h1 := h.owns.lt
  have h2 := h.lt
  obtain ⟨es, clock, since, seen, c0, hb', F, hs, hD, hr', rest⟩ := h
  exact ⟨es, clock, since, seen, c0, (hc.block b h1 hb).trans hb', F, hs, hD, (hc.block r h2 hr).trans hr', rest⟩
theorem ranges_noTy (h : w.ranges P k R b r n D left cnt) (t : TypeId) : ¬ TyAt w r t := fun ⟨cs, hc⟩ => by
  obtain ⟨es, clock, since, seen, c0, _, _, _, _, hr', _⟩ := h
  rw [hr'] at hc
  cases hc
theorem ranges_noTyB (h : w.ranges P k R b r n D left cnt) (t : TypeId) : ¬ TyAt w b t := fun ⟨cs, hc⟩ => by
  obtain ⟨es, clock, since, seen, c0, hb', _⟩ := h
  rw [hb'] at hc
  cases hc
end

def encU : Int → Value := Value.int .u64
theorem sameKey_u (x y : Nat) : (Lit.int .u64 (x : Int)).sameKey (.int .u64 (y : Int)) = decide (x = y) := by
  show decide (IntKind.u64 = IntKind.u64 ∧ (x : Int) = (y : Int)) = _
  simp
  omega

theorem holds_u {w : World} {base g n cap : Nat} {e : TypeId} {ss : List Int} (h : w.ownsRow base e 1 (.slice (some ⟨g, 0, none⟩) n cap) n (ss.map (Value.int .u64))) : Holds (Value.int .u64) w g 0 ss.toArray := by
  intro j hj
  have hj' : j < ss.length := by simpa using hj
  obtain ⟨g', e', _, hc⟩ := own_cell h (o := j) (x := .int .u64 ss[j]) (by simp [hj'])
  injection e' with e'
  injection e' with e'
  subst e'
  exact ⟨by rw [Nat.zero_add, hc]; simp [hj'], by rw [Nat.zero_add]; exact h.frozenAt j⟩

theorem grown_u {w : World} {g n : Nat} {os : Array Obj} (d : Array Int) : w.grownBy (grow (putRow (Value.int .u64) (Sort.ahead w n) g 0 d) os) (some g) := by
  refine ⟨rfl, rfl, rfl, by simp, fun k hk hne => ?_⟩
  rw [heap_grow_old _ _ (by simpa using hk)]
  have : g ≠ k := fun e => hne (by rw [e])
  simp [putRow, mapBlock, Sort.ahead, Array.getElem?_modify, this]

set_option maxHeartbeats 2000000 in
theorem less_any (blk c B size : Nat) (W : World) (G : Nat → Int) (hs : W.cell? ⟨B, 0, none⟩ = some (.slice (some ⟨blk, 0, none⟩) size c))
    (hc : ∀ t, t < size → W.cell? ⟨blk, t, none⟩ = some (.int .u64 (G t))) (i j : Nat) (hi : i < size) (hj : j < size) :
    Calls Tryd.prog 40 #[.int .i64 i, .int .i64 j, .pointer (some ⟨B, 0, none⟩)] W fun e w' => e = .returned (.bool (decide (G i < G j))) ∧ ∃ q, w' = W.drewN q := by
  have ci := hc i hi
  have cj := hc j hj
  go_enter Tryd.func40, Tryd.ntmps40
  go_wp2_with fail
  go_quiet (fail)
  go_wp2_with fail
  go_ret
  exact ⟨rfl, nq, rfl⟩

noncomputable def siT : TypeInfo := (Tryd.prog.info? 34).get (by kernel_rfl)
noncomputable def siE : TypeInfo := (Tryd.prog.info? 45).get (by kernel_rfl)
theorem siK (n : Nat) (h2 : 2 ≤ n) : Lib.swapperK n siE 11 = 5 := by
  have a : siE.hasPointers = false := by kernel_rfl
  have b : siE.bytes = 8 := by kernel_rfl
  have c : (n == 0) = false := by simp; omega
  have d : (n == 1) = false := by simp; omega
  simp [Lib.swapperK, a, b, c, d]

theorem swap_few : ∀ N : Nat, N ≤ 1 → Array.findIdx? (fun (x : Func) => x.name == "internal/reflectlite" ++ ".Swapper$" ++ toString (Lib.swapperK N siE 11)) Tryd.prog.funcs = some (56 + N)
  | 0, _ => by kernel_rfl
  | 1, _ => by kernel_rfl
theorem few_sorted : ∀ l : List Int, l.length ≤ 1 → l.Pairwise (fun x y => x ≤ y)
  | [], _ => List.Pairwise.nil
  | [_], _ => List.pairwise_singleton _ _

set_option maxHeartbeats 2000000 in
theorem sortIds_any (B blk c base : Nat) (ss : List Int) (w : World) (hB : Bk w B 34 #[.slice (some ⟨blk, 0, none⟩) ss.length c]) (h : w.ownsRow base 45 1 (.slice (some ⟨blk, 0, none⟩) ss.length c) ss.length (ss.map (Value.int .u64))) (h2 : ss.length < 4611686018427387904) :
    Calls Tryd.prog 39 #[.iface 34 (.slice (some ⟨blk, 0, none⟩) ss.length c), .func (.func 40) #[] #[.pointer (some ⟨B, 0, none⟩)]] w fun e w' => e = .returned (.tuple #[]) ∧
      ∃ ts : List Int, ts.Perm ss ∧ ts.Pairwise (fun x y => x ≤ y) ∧ (∀ j (h : j < ts.length), w'.cell? ⟨blk, j, none⟩ = some (.int .u64 ts[j])) ∧ Ch [blk] w w' := by
  have hne : B ≠ blk := hB.ty.ne (own_ty h rfl) (by decide)
  have hblk : blk < w.heap.size := (h.lt blk rfl).2
  have hBl : B < w.heap.size := hB.lt
  by_cases h2' : 2 ≤ ss.length
  · have hH : Holds (Value.int .u64) w blk 0 ss.toArray := holds_u h
    have hsz : ss.toArray.size = ss.length := by simp
    have hless : LessReads Tryd.prog 40 #[.pointer (some ⟨B, 0, none⟩)] (Value.int .u64) ltInt blk 0 ss.toArray.size w := by
      intro m os dk hs i j hi hj
      have e : sortWorld (Value.int .u64) w blk 0 m dk os = putRow (Value.int .u64) (grow (Sort.ahead w m) os) blk 0 dk := by
        unfold sortWorld; rw [putRow_grow _ (Sort.ahead w m) _ blk 0 _ hblk]
      have hHg : Holds (Value.int .u64) (grow (Sort.ahead w m) os) blk 0 ss.toArray := holds_grow _ _ _ blk 0 _ hblk (holds_ahead _ _ _ _ _ _ hH)
      refine less_any blk c B ss.toArray.size _ (fun t => dk[t]!) ?_ (fun t ht => ?_) i j hi hj
      · rw [e, cell?_putRow_other _ _ blk 0 dk _ (Or.inl hne), cell?_grow _ _ _ hBl]
        have h0 := hB.cell 0
        simpa using h0
      · have h0 := cell?_putRow _ _ blk 0 _ dk hHg hs t (by omega)
        rw [e]
        simpa using h0
    have hS := Any.sort_Slice_sorted Tryd.laysGg6 34 45 siT siE (by kernel_rfl) (by kernel_rfl) (by kernel_rfl) (by kernel_rfl) 11 (fun _ => by kernel_rfl) (by kernel_rfl) (fun _ => by kernel_rfl) (Value.int .u64) (fun _ => rfl) ltInt swo_ltInt 40 _
      (enters_of Tryd.func40 (by kernel_rfl) rfl) blk 0 c ss.toArray (by rw [hsz]; exact h2') (by rw [hsz]; exact h2) 60 (by rw [siK _ (by rw [hsz]; exact h2')]; kernel_rfl) true
      (fun args W => run_callFunc_extern Tryd.func60 (by kernel_rfl) (by kernel_rfl) (by kernel_rfl) (e := Extern.ReflectliteSwapper.swap true) (by kernel_rfl) args W) _ hless hH hblk
    change Calls Tryd.prog 39 _ _ _ at hS
    rw [hsz] at hS
    refine hS.mono ?_
    rintro e w' ⟨rfl, d', n, os, hp, hso, rfl⟩
    have hds : d'.size = ss.length := hp.1
    refine ⟨rfl, d'.toList, ?_, ?_, fun j hj => ?_, Ch.of_grown (grown_u d')⟩
    · have h0 := hp.2.2
      have e1 : d'.extract 0 ss.length = d' := by rw [← hds]; exact Array.extract_size
      have e2 : ss.toArray.extract 0 ss.length = ss.toArray := by rw [← hsz]; exact Array.extract_size
      rw [e1, e2] at h0
      exact h0
    · rw [List.pairwise_iff_getElem]
      intro i j hi hj hij
      have h0 := hso i j (Nat.zero_le _) hij (by simp at hj; omega)
      simp at hi hj
      simp only [ltInt, decide_eq_false_iff_not] at h0
      rw [getElem!_pos d' i hi, getElem!_pos d' j hj] at h0
      simp
      omega
    · simp at hj
      have h0 := cell?_putRow (Value.int .u64) (Sort.ahead w n) blk 0 ss.toArray d' (holds_ahead _ _ _ _ _ _ hH) (by rw [hds, hsz]) j hj
      rw [cell?_grow _ _ _ (by simpa using hblk)]
      rw [Nat.zero_add] at h0
      rw [h0, getElem!_pos d' j hj]
      simp
  · have h1 : ss.length ≤ 1 := by omega
    have hS := Any.sort_Slice_tiny Tryd.laysGg6 34 45 siT siE (by kernel_rfl) (by kernel_rfl) (by kernel_rfl) (by kernel_rfl) 11 (fun _ => by kernel_rfl) (some ⟨blk, 0, none⟩) ss.length c h1 (56 + ss.length) (swap_few _ h1) (.func 40) #[] #[.pointer (some ⟨B, 0, none⟩)] w
    change Calls Tryd.prog 39 _ _ _ at hS
    refine hS.mono ?_
    rintro e w' ⟨rfl, os, rfl⟩
    have hg0 : Ch [] w (grow w os) := ⟨rfl, rfl, rfl, by simp [grow], fun k hk _ => heap_grow_old _ _ hk⟩
    refine ⟨rfl, ss, List.Perm.refl _, ?_, fun j hj => ?_, hg0.mono (by simp)⟩
    · exact few_sorted ss h1
    · rw [cell?_grow _ _ _ hblk]
      obtain ⟨g', e', _, hc⟩ := own_cell h (o := j) (x := .int .u64 ss[j]) (by simp [hj])
      injection e' with e'
      injection e' with e'
      subst e'
      exact hc

/-- What ids hands back. -/
def IdsR (B : Nat) (w' : World) (A : Option Addr) (l : List Nat) : Prop := ∀ j (h : j < l.length), ∃ g, A = some ⟨g, 0, none⟩ ∧ B ≤ g ∧ w'.cell? ⟨g, j, none⟩ = some (.int .u64 (l[j] : Int))

theorem made_u64 (n : Nat) : madeCells #[Value.int .u64 0] n = Array.replicate n (Value.int .u64 0) := by
  apply Array.ext'
  rw [toList_madeCells_one]
  simp
theorem run_mkU (n : Nat) (hn : n ≤ 1000000000) (W : World) : (Instr.makeSlice 34 (.int .i64 0) (.int .i64 (n : Int))).run Tryd.prog W = .ok (.slice (some ⟨W.heap.size, 0, none⟩) 0 n) (W.alloc (.cells (Array.replicate n (Value.int .u64 0)) 45)) := by
  obtain ⟨i0, hi, hz0, hz1, hz2⟩ := info_parts (show (Tryd.prog.info? 45).map (fun i => (i.zero, i.size, i.bytes)) = some (some (.int .u64 0), 1, 8) by kernel_rfl)
  have h := run_make_rowN (P := Tryd.prog) 34 45 i0 (.int .u64 0) Tryd.underlying34 hi hz0 .i64 .i64 0 n (by omega) (by rw [hz2]; omega) (by omega) W
  rw [hz1, Nat.mul_one, show (Value.int .u64 0).cells = #[Value.int .u64 0] from rfl, made_u64] at h
  exact h

def mkT (l : Int) : Value := .agg #[.int .u8 l, .int .u64 0, .int .u32 0]
theorem keyU_inv (key : Value) (kl : Lit) (h : keyOf Tryd.prog 45 key = some kl) : ∃ x, key = Value.int .u64 x := by
  obtain ⟨x, rfl, _⟩ := Maps.keyOf_int_inv Tryd.underlying45 h
  exact ⟨x, rfl⟩
theorem tmR_inv2 (v : Value) (y : DataW Unit × List MemPlace) (h : tmR v = some y) : ∃ c, v = mkT c := by
  obtain ⟨l, rfl, _⟩ := tmR_inv h
  exact ⟨l, rfl⟩
theorem keyU_nat {x : Int} {kl : Lit} (h : keyOf Tryd.prog 45 (.int .u64 x) = some kl) : ∃ g : Nat, x = (g : Int) ∧ g < 18446744073709551616 ∧ kl = .int .u64 (g : Int) := by
  obtain ⟨x', e, rfl, hw⟩ := Maps.keyOf_int_inv Tryd.underlying45 h
  injection e with _ e
  subst e
  simp [Lit.wf, IntKind.min, IntKind.max, IntKind.signed, IntKind.bits] at hw
  exact ⟨x.toNat, by omega, by omega, by rw [Int.toNat_of_nonneg hw.1]⟩

def natU (l : List Nat) : List Int := l.map fun g : Nat => (g : Int)
theorem natU_map (l : List Nat) : (natU l).map (Value.int .u64) = l.map fun g : Nat => Value.int .u64 (g : Int) := by simp [natU]

theorem natU_nodup {l : List Nat} (h : l.Nodup) : (natU l).Nodup := by
  unfold natU List.Nodup at *
  rw [List.pairwise_map]
  exact h.imp fun hxy => by omega
theorem perm_ids {acc : List Nat} (hnd : acc.Nodup) {ts : List Int} (hp : ts.Perm (natU acc)) (hs : ts.Pairwise (fun x y => x ≤ y)) : ∃ l : List Nat, ts = natU l ∧ l.Pairwise (fun x y => x < y) ∧ ∀ g, g ∈ l ↔ g ∈ acc := by
  have hmem : ∀ t, t ∈ ts → ∃ g : Nat, g ∈ acc ∧ t = (g : Int) := fun t ht => by
    obtain ⟨g, hg, e⟩ := List.mem_map.1 (hp.mem_iff.1 ht)
    exact ⟨g, hg, e.symm⟩
  have hn : ts.Nodup := hp.nodup_iff.2 (natU_nodup hnd)
  have he : ts = natU (ts.map Int.toNat) := by
    unfold natU
    rw [List.map_map]
    conv => lhs; rw [← List.map_id ts]
    refine List.map_congr_left fun t ht => ?_
    obtain ⟨g, _, rfl⟩ := hmem t ht
    simp
  refine ⟨ts.map Int.toNat, he, ?_, fun g => ?_⟩
  · rw [List.pairwise_map]
    refine (List.Pairwise.and hs hn).imp_of_mem fun {x y} hx hy h => ?_
    obtain ⟨gx, _, rfl⟩ := hmem x hx
    obtain ⟨gy, _, rfl⟩ := hmem y hy
    have h1 := h.1
    have h2 := h.2
    simp at h2 ⊢
    omega
  · constructor
    · intro h
      obtain ⟨t, ht, rfl⟩ := List.mem_map.1 h
      obtain ⟨g, hg, rfl⟩ := hmem t ht
      simpa using hg
    · intro h
      have : (g : Int) ∈ ts := hp.mem_iff.2 (List.mem_map.2 ⟨g, h, rfl⟩)
      exact List.mem_map.2 ⟨(g : Int), this, by simp⟩

set_option maxHeartbeats 4000000 in
set_option maxRecDepth 20000 in
theorem ids_any (mb tb n : Nat) (lv a b : Value) (f : Nat → Option Nat) (w : World) (hM : Bk w mb 57 #[lv, .map (some tb), a, b]) (hT : TabAt w tb f n) (hn : n ≤ 1000000) :
    Calls Tryd.prog 24 #[.pointer (some ⟨mb, 0, none⟩)] w fun e w' => ∃ A c l, e = .returned (.slice A (l : List Nat).length c) ∧ IdsR w.heap.size w' A l ∧ l.Pairwise (fun x y => x < y) ∧ (∀ g, g ∈ l ↔ (f g).isSome = true) ∧ Ch [] w w' := by
  have c1 := hM.cell 1
  simp at c1
  have hml := hM.lt
  have htl := hT.lt
  obtain ⟨D, hown, hD, _⟩ := hT
  have hlen := hown.len Tryd.underlying55 3
  have hkn := hown.size_le
  obtain ⟨K, hK⟩ : ∃ K, Maps.size D = K := ⟨_, rfl⟩
  rw [hK] at hlen hkn
  have hmk := run_mkU K (by omega)
  obtain ⟨W2, hW2⟩ : ∃ W, (w.alloc (.cells (Array.replicate K (Value.int .u64 0)) 45)).alloc (.cells #[.slice (some ⟨w.heap.size, 0, none⟩) 0 K] 34) = W := ⟨_, rfl⟩
  have hC2 : Ch [] w W2 := by rw [← hW2]; exact ((Ch.refl [] w).alloc _).alloc _
  have hB2 : Bk W2 (w.heap.size + 1) 34 #[.slice (some ⟨w.heap.size, 0, none⟩) 0 K] := by rw [← hW2]; exact Bk.at_ _ _ _ _ (by simp)
  have hg2 : Bk W2 w.heap.size 45 (Array.replicate K (Value.int .u64 0)) := by rw [← hW2]; exact (Bk.new _ _ _).alloc _
  have hr2 : W2.ownsRow w.heap.size 45 1 (.slice (some ⟨w.heap.size, 0, none⟩) 0 K) 0 ([] : List Value) := ⟨rfl, .inr ⟨w.heap.size, K, _, rfl, Nat.le_refl _, hg2, Nat.zero_le _, by unfold maxLen; omega, by simp, by simp⟩⟩
  have hown2 : W2.ownsMap Tryd.prog 45 tmR tb n D := by
    obtain ⟨es, clock, e1, e2⟩ := hown
    exact ⟨es, clock, (hC2.block tb htl (by simp)).trans e1, e2⟩
  have hz2 : W2.heap.size = w.heap.size + 2 := by rw [← hW2]; simp
  have c2 := (hM.ch hC2 (by simp)).cell 1
  simp at c2
  have hM' := Lib.hid hM
  have hown' := Lib.hid hown
  have hD' := Lib.hid hD
  have hC2' := Lib.hid hC2
  have hB2' := Lib.hid hB2
  have hg2' := Lib.hid hg2
  have hr2' := Lib.hid hr2
  have hown2' := Lib.hid hown2
  have hK' := Lib.hid hK
  have hz2' := Lib.hid hz2
  clear hz2 hK hown2 hr2 hg2 hB2 hC2 hD hown hM
  go_enter Tryd.func24, Tryd.ntmps24
  go_wp2_with (first | (at_range; refine wpList_range_own _ rfl _ 55 rfl 45 65 keyedT Tryd.underlying55 tmR tb n D rfl hown2'.out ?_; intro w0 hrg0 hg0 hs0) | go_in)
  try go_frame
  have hC0 : Ch [] W2 w0 := Ch.of_grown_none hg0
  have hB0 := hB2'.out.ch hC0 (by simp)
  have hr0 := own_ch hr2'.out hC0 (fun _ _ hm => by cases hm)
  have hs0' := hz2'.out
  rw [hs0'] at hrg0 hs0
  rw [hs0']
  clear hlen hmk hW2
  have hrg0' := Lib.hid hrg0
  have hg0' := Lib.hid hg0
  have hC0' := Lib.hid hC0
  have hB0' := Lib.hid hB0
  have hr0' := Lib.hid hr0
  clear hr0 hB0 hC0 hg0 hrg0
  go_loopw [4] (fun s4 wx => ∃ (acc : List Nat) (left : Lit → Bool) (cnt : Nat) (A : Option Addr) (c : Nat), Bk wx (w.heap.size + 1) 34 #[.slice A acc.length c] ∧ wx.ownsRow w.heap.size 45 1 (.slice A acc.length c) acc.length ((natU acc).map (Value.int .u64)) ∧
      wx.ranges Tryd.prog 45 tmR tb (w.heap.size + 2) n D left cnt ∧ acc.Nodup ∧ (∀ g, g ∈ acc → (f g).isSome = true) ∧ (∀ g : Nat, left (.int .u64 (g : Int)) = ((f g).isSome && !acc.contains g)) ∧ acc.length + cnt ≤ 1000000 ∧ A.isSome = true ∧ Ch [] w wx)
    (fun s4 wx => wx.rangeLeft tb (w.heap.size + 2))
  case atStart =>
    exact ⟨[], _, _, _, _, hB0'.out, hr0'.out, hrg0'.out, List.nodup_nil, fun g hg => (by cases hg), fun g => by rw [(hD'.out g).2]; simp, by have := hK'.out; simp; omega, rfl, hC2'.out.trans_nil hC0'.out⟩
  case round =>
    obtain ⟨acc, left, cnt, A, c, hB, hr, hrg, hnd, hmem, hleft, hcnt, hA, hCr⟩ := hrel
    have hleft0 := hrg.left_eq
    have hb0 := hB.cell 0
    have hf0 := hB.free 0
    simp at hb0
    have hbl := hB.lt
    have hszr := hCr.size
    have hB' := Lib.hid hB
    have hr' := Lib.hid hr
    have hrg' := Lib.hid hrg
    have hnd' := Lib.hid hnd
    have hmem' := Lib.hid hmem
    have hleft' := Lib.hid hleft
    have hCr' := Lib.hid hCr
    clear hCr hleft hmem hnd hrg hr hB
    go_wp2_with (first | (at_next; refine wpList_next_ranges _ rfl _ rfl 45 keyedT tmR (Value.int .u64) mkT keyU_inv tmR_inv2 tb (w.heap.size + 2) n D left cnt rfl hrg'.out ?_ ?_) | go_in)
    · intro hc0 hl0
      obtain ⟨g, rfl⟩ : ∃ g, A = some ⟨g, 0, none⟩ := by
        rcases hr'.out.2 with ⟨h0, _⟩ | ⟨g, cap, cur, h0, _⟩
        · injection h0 with h0 _ _
          rw [h0] at hA
          cases hA
        · injection h0 with h0 _ _
          exact ⟨g, h0⟩
      have hall : ∀ g, g ∈ acc ↔ (f g).isSome = true := fun g => by
        constructor
        · exact hmem'.out g
        · intro h
          have h0 := hl0 (.int .u64 (g : Int))
          rw [hleft'.out g, h] at h0
          simpa using h0
      have hnl : (natU acc).length = acc.length := by simp [natU]
      have hsort := sortIds_any (w.heap.size + 1) g c w.heap.size (natU acc) wr (by rw [hnl]; exact hB'.out) (by rw [hnl]; exact hr'.out) (by rw [hnl]; omega)
      rw [hnl] at hsort
      have hgB : w.heap.size + 1 ≠ g := hB'.out.ty.ne (own_ty hr'.out rfl) (by decide)
      have hgw := (hr'.out.lt g rfl).1
      have hsort' := Lib.hid hsort
      have hall' := Lib.hid hall
      have hnl' := Lib.hid hnl
      clear hnl hall hsort
      go_wp2_with fail
      refine hsort'.out.mono ?_
      rintro e w5 ⟨rfl, ts, hp, hs, hcells, hC5⟩
      have hB5 := hB'.out.ch hC5 (by simpa using hgB)
      have b5 := hB5.cell 0
      simp at b5
      have hp' := Lib.hid hp
      have hs' := Lib.hid hs
      have hcells' := Lib.hid hcells
      have hC5' := Lib.hid hC5
      have hB5' := Lib.hid hB5
      clear hB5 hC5 hcells hs hp
      go_wp2_with fail
      go_ret
      obtain ⟨l, rfl, hl1, hl2⟩ := perm_ids hnd'.out hp'.out hs'.out
      have hll : l.length = acc.length := by have := hp'.out.length_eq; simpa [natU] using this
      refine ⟨_, c, l, by rw [hll]; rfl, fun j hj => ⟨g, rfl, hgw, ?_⟩, hl1, fun x => (hl2 x).trans (hall'.out x), hCr'.out.trans' hC5'.out (fun k hk => .inr (by simp at hk; omega))⟩
      have h0 := hcells'.out j (by simpa [natU] using hj)
      simpa [natU] using h0
    · intro x cv kl y1 y2 w2 cnt1 hkey hlx hR hat hrg1 hlt hg1 hs1 hen
      obtain ⟨g, rfl, hg64, rfl⟩ := keyU_nat hkey
      unfold mkT at hen
      have hC1 : Ch [w.heap.size + 2] wr w2 := Ch.of_grown hg1
      have hnt := ranges_noTy hrg'.out
      have hB1 := hB'.out.ch hC1 (by simp)
      have hr1 := own_ch hr'.out hC1 (fun g hg hm => by simp at hm; subst hm; exact hnt _ (own_ty hr'.out hg))
      obtain ⟨W3, hW3⟩ : ∃ W, w2.alloc (.cells #[.int .u64 (g : Int)] 45) = W := ⟨_, rfl⟩
      have hC3 : Ch [] w2 W3 := by rw [← hW3]; exact (Ch.refl [] w2).alloc _
      have hN3 : Bk W3 w2.heap.size 45 #[.int .u64 (g : Int)] := by rw [← hW3]; exact Bk.new _ _ _
      have hB3 := hB1.ch hC3 (by simp)
      have hr3 := own_ch hr1 hC3 (fun _ _ hm => by cases hm)
      have hrg3 := ranges_ch hrg1 hC3 (by simp) (by simp)
      have b1 := hB1.cell 0
      simp at b1
      have hacc : acc.length ≤ 1000000 := by omega
      have hsz3 := hC3.size
      have hsz1 := hC1.size
      clear hb0 hf0
      have hkey' := Lib.hid hkey
      have hlx' := Lib.hid hlx
      have hR' := Lib.hid hR
      have hat' := Lib.hid hat
      have hrg1' := Lib.hid hrg1
      have hg1' := Lib.hid hg1
      have hC1' := Lib.hid hC1
      have hB1' := Lib.hid hB1
      have hr1' := Lib.hid hr1
      have hC3' := Lib.hid hC3
      have hN3' := Lib.hid hN3
      have hB3' := Lib.hid hB3
      have hr3' := Lib.hid hr3
      have hrg3' := Lib.hid hrg3
      have hs1' := Lib.hid hs1
      clear hs1 hrg3 hr3 hB3 hN3 hC3 hr1 hB1 hC1 hg1 hrg1 hat hR hlx hkey
      go_wp2_with (at_builtin; refine wpList_append1 rfl (.tmp 20) (.tmp 22) 34 rfl w.heap.size 45 1 Tryd.underlying34 (by kernel_rfl) (by omega) (.slice A acc.length c) acc.length ((natU acc).map (Value.int .u64)) rfl hr3'.out w2.heap.size 1 [.int .u64 (g : Int)] rfl rfl hN3'.out (by intro u hu; simp at hu; subst hu; rfl) (by omega) (by omega) ?_; intro A' c' w6 hown6 hc6 hat6; have hB6 := hB3'.out.ch hc6 (ty_notin hr3'.out hB3'.out.ty (by decide)); have d0 := hB6.cell 0; have e0 := hB6.free 0; simp at d0; have hB6' := Lib.hid hB6; have hown6' := Lib.hid hown6; have hc6' := Lib.hid hc6; clear hB6 hown6 hc6 hat6)
      have hC7 : Ch [w.heap.size + 1] w6 (w6.setCell ⟨w.heap.size + 1, 0, none⟩ (.slice A' (acc.length + 1) c')) := (Ch.refl [w.heap.size + 1] w6).setCell (p := ⟨w.heap.size + 1, 0, none⟩) (.inl (by simp)) _
      have hB7 : Bk (w6.setCell ⟨w.heap.size + 1, 0, none⟩ (.slice A' (acc.length + 1) c')) (w.heap.size + 1) 34 #[.slice A' (acc.length + 1) c'] := by simpa using hB6'.out.set 0 (.slice A' (acc.length + 1) c')
      have hlg := hleft'.out g
      rw [hlx'.out] at hlg
      have hfg : (f g).isSome = true ∧ g ∉ acc := by simpa using hlg.symm
      have hrg6 := ranges_ch hrg3'.out hc6'.out (fun hm => ranges_noTyB hrg3'.out _ (own_ty hr3'.out (by simpa using hm))) (fun hm => ranges_noTy hrg3'.out _ (own_ty hr3'.out (by simpa using hm)))
      have hrg7 := ranges_ch hrg6 hC7 (by simp; exact fun h => ranges_noTyB hrg6 _ (h ▸ hB6'.out.ty)) (by simp)
      have hC7' := Lib.hid hC7
      have hB7' := Lib.hid hB7
      have hlg' := Lib.hid hlg
      have hfg' := Lib.hid hfg
      have hrg6' := Lib.hid hrg6
      have hrg7' := Lib.hid hrg7
      clear hrg7 hrg6 hfg hlg hB7 hC7
      go_roundw
      case rel =>
        refine ⟨acc ++ [g], _, cnt1, A', c', by simpa using hB7'.out, ?_, hrg7'.out, ?_, ?_, ?_, ?_, ?_, ?_⟩
        · have h0 := own_ch hown6'.out hC7'.out (fun b hb => by simpa using (own_ty hown6'.out hb).ne hB6'.out.ty (by decide))
          rw [List.length_append]
          simpa [natU] using h0
        · rw [List.nodup_append]
          exact ⟨hnd'.out, by simp, fun x hx y hy => by simp at hy; subst hy; rintro rfl; exact hfg'.out.2 hx⟩
        · intro x hx
          rcases List.mem_append.1 hx with h | h
          · exact hmem'.out x h
          · simp at h
            subst h
            exact hfg'.out.1
        · intro x
          rw [sameKey_u, hleft'.out x]
          by_cases e : x = g
          · subst e; simp
          · simp [e]
        · simp; omega
        · rcases hown6'.out.2 with ⟨_, h0⟩ | ⟨g6, _, _, h0, _⟩
          · omega
          · injection h0 with h0 _ _
            rw [h0]
            rfl
        · exact (((hCr'.out.trans' hC1'.out (fun k hk => .inr (by simp at hk; omega))).trans_nil hC3'.out).trans' hc6'.out (fun k hk => .inr (hr3'.out.lt k (by simpa using hk)).1)).trans' hC7'.out (fun k hk => .inr (by simp at hk; omega))
      case measure =>
        rw [hrg7'.out.left_eq, hrg'.out.left_eq]
        exact hlt

set_option maxHeartbeats 1000000 in
theorem zzIDs_any (mb tb n : Nat) (lv a b : Value) (f : Nat → Option Nat) (w : World) (hM : Bk w mb 57 #[lv, .map (some tb), a, b]) (hT : TabAt w tb f n) (hn : n ≤ 1000000) :
    Calls Tryd.prog 20 #[.pointer (some ⟨mb, 0, none⟩)] w fun e w' => ∃ A c l, e = .returned (.slice A (l : List Nat).length c) ∧ IdsR w.heap.size w' A l ∧ l.Pairwise (fun x y => x < y) ∧ (∀ g, g ∈ l ↔ (f g).isSome = true) ∧ Ch [] w w' := by
  have hcall := Lib.hid (ids_any mb tb n lv a b f w hM hT hn)
  clear hM hT
  go_enter Tryd.func20, Tryd.ntmps20
  go_wp2_with fail
  refine hcall.out.mono ?_
  rintro e w1 ⟨A, c, l, rfl, h1, h2, h3, h4⟩
  have h1' := Lib.hid h1
  have h2' := Lib.hid h2
  have h3' := Lib.hid h3
  have h4' := Lib.hid h4
  clear h4 h3 h2 h1
  go_wp2_with fail
  go_ret
  exact ⟨A, c, l, rfl, h1'.out, h2'.out, h3'.out, h4'.out⟩
end Go.Proofs.YtkjgkjmaoebeoaaDoor
