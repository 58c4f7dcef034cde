/-
  Contracts of ZZHeader and impl.Header; the walk of FnHeader.
-/
import Derived.Test.YtakpiopiboipnaaHdr2
import Derived.Test.YtakpiopiboipnaaPtr2
namespace Go.Proofs.Ytakpiopiboipnaa
open Go Go.RowKit
open Go.Proofs
open Go.Lib (uvarint uvarintDec)

set_option maxHeartbeats 4000000 in
set_option maxRecDepth 20000 in
theorem zzHeader_any (k v x m u : Nat) (hk : k < 4294967296) (hv : v < 4294967296) (hx : x < 18446744073709551616) (hm : m < 256) (hu : u < 256) (w : World) :
    Calls Try.prog 35 #[.int .u32 (k : Int), .int .u32 (v : Int), .int .u64 (x : Int), .int .u8 (m : Int), .int .u8 (u : Int)] w fun e w' => ∃ g c,
      e = .returned (.tuple #[.slice (some ⟨g, 0, none⟩) (hdrBytes k v x m u).length c, .int .u32 (k : Int), .int .u32 (v : Int), .int .u64 (x : Int), .int .u8 (m : Int), .int .u8 (u : Int), .int .i64 ((hdrBytes k v x m u).length : Nat)]) ∧
      Bs w' g 0 (hdrBytes k v x m u) ∧ w.heap.size ≤ g ∧ (hdrBytes k v x m u).length ≤ c ∧ Below w.heap.size w w' := by
  have hlen : (hdrBytes k v x m u).length ≤ 22 := by
    have := uvarint_length32 hk
    have := uvarint_length32 hv
    have := Lib.uvarint_length64 hx
    rw [hdrBytes_length]; omega
  have hpos : 0 < (hdrBytes k v x m u).length := by rw [hdrBytes_length]; omega
  have hE := fun W h => Lib.hid (hdrEncode_any k v x m u hk hv hx hm hu w.heap.size 74 (List.replicate 22 (.int .u8 0)) rfl W h)
  have hD := fun g c b S hS W hB hb hne hc => Lib.hid (hdrDecode_any k v x m u hk hv hx hm hu g c b S hS W hB hb hne hc)
  obtain ⟨l, hl⟩ : ∃ l, hdrBytes k v x m u = l := ⟨_, rfl⟩
  rw [hl] at hE hD hlen hpos ⊢
  clear hl
  obtain ⟨n, hn⟩ : ∃ n, l.length = n := ⟨_, rfl⟩
  rw [hn] at hE hD hlen hpos ⊢
  have hn' := Lib.hid hn
  clear hn
  have hlenI : (n : Int) ≤ 22 := by omega
  have hlenA : (n : Int) ≤ ((Try.prog.arrayLen 74 : Nat) : Int) := hlenI
  go_enter Try.func35, Try.ntmps35
  go_wp2_with fail
  refine (hE _ (Bk.at_ w _ _ _ rfl)).out.mono ?_
  rintro e w1 ⟨rfl, hrow, hgr⟩
  have hbs : Bs w1 w.heap.size 0 l := by
    intro j hj
    rw [hrow.cell]
    have h22 : (splice (List.replicate 22 (Value.int .u8 0)) 0 (Lib.byteCells l))[j]? = some (.int .u8 ((l[j]).toNat : Int)) := by
      simp only [splice, List.take_zero, List.nil_append]
      rw [List.getElem?_append_left (by simpa [Lib.byteCells] using hj)]
      simp [Lib.byteCells, hj]
    simpa using h22
  have hbl : Below w.heap.size w w1 := below_own ((Below.refl _ w).alloc (Nat.le_refl _) _) (by simp) hgr (Nat.le_refl _)
  have hgl : w.heap.size < w1.heap.size := hrow.lt
  have hbl' := Lib.hid hbl
  have hbs' := Lib.hid hbs
  have hgl' := Lib.hid hgl
  clear hbl hbs hgr hgl
  go_wp2_with fail
  refine (hD w.heap.size 22 w1.heap.size #[.int .u32 0, .int .u32 0, .int .u64 0, .int .u8 0, .int .u8 0] rfl _ (Bk.at_ w1 _ _ _ rfl) (hbs'.out.alloc _) (by have := hgl'.out; omega) hlen).out.mono ?_
  rintro e w2 ⟨rfl, hB2, hg2⟩
  have c0 := hB2.cell 0
  have c1 := hB2.cell 1
  have c2 := hB2.cell 2
  have c3 := hB2.cell 3
  have c4 := hB2.cell 4
  simp [hdrCells] at c0 c1 c2 c3 c4
  have hbs2 := Lib.hid ((hbs'.out.alloc _).grown hg2 (by have := hgl'.out; simp; omega))
  have hbl2 := Lib.hid (below_own (hbl'.out.alloc hbl'.out.size _) (by have := hgl'.out; simp; omega) hg2 (by have := hgl'.out; omega))
  clear hB2 hg2
  go_wp2_with fail
  go_quiet (fail)
  go_wp2_with fail
  refine bodyPost_ret (v := .tuple #[.slice (some ⟨w.heap.size, 0, none⟩) n 22, .int .u32 (k : Int), .int .u32 (v : Int), .int .u64 (x : Int), .int .u8 (m : Int), .int .u8 (u : Int), .int .i64 (n : Int)]) (by simp [results, Try.results35, go_sem]) rfl ?_
  exact ⟨w.heap.size, 22, rfl, hbs2.out, Nat.le_refl _, hlen, below_drewN hbl2.out _⟩

def headCells (k v x m u n : Nat) : Array Value := #[.int .u32 (k : Int), .int .u32 (v : Int), .int .u64 (x : Int), .int .u8 (m : Int), .int .u8 (u : Int), .int .i64 (n : Int)]

set_option maxHeartbeats 4000000 in
set_option maxRecDepth 20000 in
theorem implHeader_any (k v x m u : Nat) (hk : k < 4294967296) (hv : v < 4294967296) (hx : x < 18446744073709551616) (hm : m < 256) (hu : u < 256) (w : World) :
    Calls Try.prog 22 #[.int .u32 (k : Int), .int .u32 (v : Int), .int .u64 (x : Int), .int .u8 (m : Int), .int .u8 (u : Int)] w fun e w' =>
      e = .returned (.tuple #[.string ⟨(hdrBytes k v x m u).toArray⟩, .agg (headCells k v x m u (hdrBytes k v x m u).length)]) ∧ Below w.heap.size w w' := by
  have hZ := fun W => Lib.hid (zzHeader_any k v x m u hk hv hx hm hu W)
  obtain ⟨l, hl⟩ : ∃ l, hdrBytes k v x m u = l := ⟨_, rfl⟩
  rw [hl] at hZ ⊢
  clear hl
  obtain ⟨n, hn⟩ : ∃ n, l.length = n := ⟨_, rfl⟩
  rw [hn] at hZ ⊢
  have hn' := Lib.hid hn
  clear hn
  go_enter Try.func22, Try.ntmps22
  go_wp2_with fail
  refine (hZ _).out.mono ?_
  rintro e w1 ⟨g, c, rfl, hbs, hge, hlc, hbl⟩
  have hbl' := Lib.hid hbl
  have hbs' := Lib.hid hbs
  have hB := (Bk.at_ w w.heap.size 41 _ rfl).below hbl (by simp)
  have c0 := hB.cell 0
  have c1 := hB.cell 1
  have c2 := hB.cell 2
  have c3 := hB.cell 3
  have c4 := hB.cell 4
  have c5 := hB.cell 5
  simp at c0 c1 c2 c3 c4 c5
  have f0 := hB.free 0
  have f1 := hB.free 1
  have f2 := hB.free 2
  have f3 := hB.free 3
  have f4 := hB.free 4
  have f5 := hB.free 5
  have hB' := Lib.hid hB
  clear hbl hbs hB
  go_wp2_with (refine wpList_b2s rfl 46 9 5 (.tmp 33) rfl Try.underlying46 Try.underlying5 Try.underlying9 g 0 _ _ rfl l hn'.out hbs'.out ?_)
  have hbl1 : Below w.heap.size w w1 := below_step ((Below.refl _ w).alloc (Nat.le_refl _) _) (by simp) hbl'.out
  have hB6 := (((((hB'.out.set 0 (.int .u32 (k : Int))).set 1 (.int .u32 (v : Int))).set 2 (.int .u64 (x : Int))).set 3 (.int .u8 (m : Int))).set 4 (.int .u8 (u : Int))).set 5 (.int .i64 (n : Int))
  have hbl6 := (((((hbl1.setCell (p := ⟨w.heap.size, 0, none⟩) (Nat.le_refl _) (.int .u32 (k : Int))).setCell (p := ⟨w.heap.size, 1, none⟩) (Nat.le_refl _) (.int .u32 (v : Int))).setCell (p := ⟨w.heap.size, 2, none⟩) (Nat.le_refl _) (.int .u64 (x : Int))).setCell (p := ⟨w.heap.size, 3, none⟩) (Nat.le_refl _) (.int .u8 (m : Int))).setCell (p := ⟨w.heap.size, 4, none⟩) (Nat.le_refl _) (.int .u8 (u : Int))).setCell (p := ⟨w.heap.size, 5, none⟩) (Nat.le_refl _) (.int .i64 (n : Int))
  generalize (((((w1.setCell ⟨w.heap.size, 0, none⟩ (.int .u32 (k : Int))).setCell ⟨w.heap.size, 1, none⟩ (.int .u32 (v : Int))).setCell ⟨w.heap.size, 2, none⟩ (.int .u64 (x : Int))).setCell ⟨w.heap.size, 3, none⟩ (.int .u8 (m : Int))).setCell ⟨w.heap.size, 4, none⟩ (.int .u8 (u : Int))).setCell ⟨w.heap.size, 5, none⟩ (.int .i64 (n : Int)) = W at *
  have d0 := hB6.cell 0
  have d1 := hB6.cell 1
  have d2 := hB6.cell 2
  have d3 := hB6.cell 3
  have d4 := hB6.cell 4
  have d5 := hB6.cell 5
  simp at d0 d1 d2 d3 d4 d5
  refine bodyPost_ret (v := .tuple #[.string ⟨l.toArray⟩, .agg (headCells k v x m u n)]) (by simp [results, Try.results22, headCells, go_sem, d0, d1, d2, d3, d4, d5]) rfl ?_
  exact ⟨rfl, hbl6⟩

set_option maxHeartbeats 4000000 in
set_option maxRecDepth 20000 in
/-- THE WALK of FnHeader: it returns true. -/
theorem fnHeader_walk (k v x m u : Nat) (hk : k < 4294967296) (hv : v < 4294967296) (hx : x < 18446744073709551616) (hm : m < 256) (hu : u < 256) (w : World) :
    Calls Try.prog 7 #[.int .u32 (k : Int), .int .u32 (v : Int), .int .u64 (x : Int), .int .u8 (m : Int), .int .u8 (u : Int)] w fun e w' => e = .returned (.bool true) ∧ Below w.heap.size w w' := by
  have hI := fun W => Lib.hid (implHeader_any k v x m u hk hv hx hm hu W)
  have hS := fun W => Lib.hid (specHeader_any k v x m u hk hv hx hm hu W)
  obtain ⟨s, hs⟩ : ∃ s, ByteArray.mk (hdrBytes k v x m u).toArray = s := ⟨_, rfl⟩
  have hn : (hdrBytes k v x m u).length = s.size := by rw [← hs]; rfl
  rw [hs, hn] at hI
  rw [hs] at hS
  clear hs hn
  go_enter Try.func7, Try.ntmps7
  go_wp2_with fail
  refine (hI _).out.mono ?_
  rintro e w1 ⟨rfl, hb1⟩
  have hb1' := Lib.hid hb1
  clear hb1
  unfold headCells
  go_wp2_with fail
  have hBk := Bk.at_ w1 w1.heap.size 41 #[.int .u32 (k : Int), .int .u32 (v : Int), .int .u64 (x : Int), .int .u8 (m : Int), .int .u8 (u : Int), .int .i64 (s.size : Int)] rfl
  refine (hS _).out.mono ?_
  rintro e w2 ⟨rfl, hb2⟩
  have hb2' := Lib.hid hb2
  have hB := hBk.below hb2 (by simp)
  clear hb2
  have c0 := hB.cell 0
  have c1 := hB.cell 1
  have c2 := hB.cell 2
  have c3 := hB.cell 3
  have c4 := hB.cell 4
  have c5 := hB.cell 5
  simp at c0 c1 c2 c3 c4 c5
  go_wp2_with fail
  go_ret
  exact ⟨rfl, below_step (hb1'.out.alloc hb1'.out.size _) (by have := hb1'.out.size; simp; omega) hb2'.out⟩
end Go.Proofs.Ytakpiopiboipnaa
