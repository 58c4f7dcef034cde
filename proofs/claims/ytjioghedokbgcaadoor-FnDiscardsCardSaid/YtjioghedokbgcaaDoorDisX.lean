/-
  discardStats.MaxDiscard: the first file that has most, and how much that is.
-/
import Derived.Test.YtjioghedokbgcaaDoorDisI
import Derived.Test.YtjioghedokbgcaaDoorDisU
namespace Go.Proofs.YtjioghedokbgcaaDoor
open Go Go.RowKit
open Go.Proofs

/-- The first that has most. -/
def bestOf (l : List (Nat × Nat)) : Nat × Nat := l.foldl (fun b x => if b.2 < x.2 then x else b) (0, 0)

theorem bestOf_take {d : Array (Nat × Nat)} {i : Nat} (h : i < d.size) : bestOf (d.toList.take (i + 1)) = if (bestOf (d.toList.take i)).2 < d[i]!.2 then d[i]! else bestOf (d.toList.take i) := by
  unfold bestOf
  rw [List.take_add_one, List.foldl_append]
  simp [h]

theorem bestOf_fits {d : Array (Nat × Nat)} (h : Fits d) : ∀ i, i ≤ d.size → (bestOf (d.toList.take i)).1 < 4294967296 ∧ (bestOf (d.toList.take i)).2 < 9223372036854775808
  | 0, _ => by simp [bestOf]
  | i + 1, hi => by
    rw [bestOf_take (by omega)]
    split
    · exact h i (by omega)
    · exact bestOf_fits h i (by omega)

section
variable {sb mb fb kb nb db s : Nat} {cs : Array Value} {nodes now name synced md at_ : Value} {rest : List UInt8} {d : Array (Nat × Nat)} {W W' : World} {S : List Nat}
theorem StatAt.ch6 (h : StatAt sb mb fb kb nb db s cs nodes now name synced md at_ rest d W) (hc : Ch S W W') (h1 : sb ∉ S) (h2 : mb ∉ S) (h3 : fb ∉ S) (h4 : kb ∉ S) (h5 : nb ∉ S) (h6 : db ∉ S) :
    StatAt sb mb fb kb nb db s cs nodes now name synced md at_ rest d W' :=
  ⟨⟨h.mem.file.ch hc h3 h4 h5 h6, h.mem.map.ch hc h2, h.mem.stat.ch hc h1, h.mem.c0, h.mem.c44⟩, h.room, h.most, h.least, h.steps, h.fits, h.few⟩
theorem StatAt.six (h : StatAt sb mb fb kb nb db s cs nodes now name synced md at_ rest d W) : sb < W.heap.size ∧ mb < W.heap.size ∧ fb < W.heap.size ∧ kb < W.heap.size ∧ nb < W.heap.size ∧ db < W.heap.size :=
  ⟨h.mem.stat.lt, h.mem.map.lt, h.mem.file.file.lt, h.mem.file.disk.lt, h.mem.file.node.lt, h.mem.file.data.lt⟩
end

set_option maxHeartbeats 2000000 in
set_option maxRecDepth 20000 in
theorem maxFn_any (vb ib f v f0 v0 : Nat) (W : World) (hv : Bk W vb 32 #[.int .u64 (v0 : Int)]) (hi : Bk W ib 32 #[.int .u64 (f0 : Int)]) (hne : vb ≠ ib) :
    Calls Tryd.prog 25 #[.int .u64 (f : Int), .int .u64 (v : Int), .pointer (some ⟨vb, 0, none⟩), .pointer (some ⟨ib, 0, none⟩)] W fun e w' => e = .returned (.tuple #[]) ∧
      Bk w' vb 32 #[.int .u64 (((if v0 < v then v else v0) : Nat) : Int)] ∧ Bk w' ib 32 #[.int .u64 (((if v0 < v then f else f0) : Nat) : Int)] ∧ Ch [vb, ib] W w' := by
  have c0 := hv.cell 0
  have z0 := hv.free 0
  have c1 := hi.cell 0
  have z1 := hi.free 0
  simp at c0 c1
  by_cases hlt : v0 < v
  · have hltI : (v0 : Int) < (v : Int) := by omega
    have hv' := Lib.hid hv
    have hi' := Lib.hid hi
    clear hi hv
    go_enter Tryd.func25, Tryd.ntmps25
    go_wp2_with fail
    go_end0
    refine ⟨rfl, ?_, ?_, ?_⟩
    · exact (by simpa using hv'.out.set 0 (.int .u64 (v : Int)) : Bk _ vb _ _).far (p := ⟨ib, 0, none⟩) hne _
    · simpa using (hi'.out.far (p := ⟨vb, 0, none⟩) (Ne.symm hne) (.int .u64 (v : Int))).set 0 (.int .u64 (f : Int))
    · exact (((Ch.refl [vb, ib] W).setCell (p := ⟨vb, 0, none⟩) (.inl (by simp)) _)).setCell (p := ⟨ib, 0, none⟩) (.inl (by simp)) _
  · have hltI : ¬ (v0 : Int) < (v : Int) := by omega
    have hv' := Lib.hid hv
    have hi' := Lib.hid hi
    clear hi hv
    go_enter Tryd.func25, Tryd.ntmps25
    go_wp2_with fail
    go_end0
    exact ⟨rfl, hv'.out, hi'.out, Ch.refl _ _⟩

set_option maxHeartbeats 2000000 in
set_option maxRecDepth 20000 in
theorem maxDiscard_any (sb mb fb kb nb db s : Nat) (cs : Array Value) (nodes now name synced md at_ : Value) (rest : List UInt8) (d : Array (Nat × Nat)) (W : World)
    (h : StatAt sb mb fb kb nb db s cs nodes now name synced md at_ rest d W) :
    Calls Tryd.prog 9 #[.pointer (some ⟨sb, 0, none⟩)] W fun e w' =>
      e = .returned (.tuple #[.int .u32 ((bestOf d.toList).1 : Int), .int .i64 ((bestOf d.toList).2 : Int)]) ∧ Ch [] W w' := by
  have hmf : ∀ (fn : Fn) (first cap : Array Value) (w : World), (Instr.makeFunc fn first cap).run Tryd.prog w = .ok (.func fn first cap) w := fun _ _ _ _ => rfl
  have hpart := partAt_self h.mem.stat
  obtain ⟨W1, hW1⟩ : ∃ w, (W.alloc (.cells #[.int .u64 0] 32)).alloc (.cells #[.int .u64 0] 32) = w := ⟨_, rfl⟩
  have hC1 : Ch [] W W1 := by rw [← hW1]; exact ((Ch.refl [] W).alloc _).alloc _
  have hi1 : Bk W1 W.heap.size 32 #[.int .u64 0] := by rw [← hW1]; exact (Bk.new _ _ _).alloc _
  have hv1 : Bk W1 (W.heap.size + 1) 32 #[.int .u64 0] := by rw [← hW1]; exact Bk.at_ _ _ _ _ (by simp)
  have h1 := h.ch hC1
  have hsix := h.six
  have hit := iterMax_any sb mb fb kb nb db s cs nodes now name synced md at_ rest d W1 (W.heap.size + 1) W.heap.size
    (fun i w => StatAt sb mb fb kb nb db s cs nodes now name synced md at_ rest d w ∧ Bk w (W.heap.size + 1) 32 #[.int .u64 ((bestOf (d.toList.take i)).2 : Int)] ∧ Bk w W.heap.size 32 #[.int .u64 ((bestOf (d.toList.take i)).1 : Int)] ∧ Ch [W.heap.size + 1, W.heap.size] W1 w)
    (fun i w hR => hR.1) (fun i w w' hR hb => ⟨hR.1.below hb, hR.2.1.below hb hR.2.1.lt, hR.2.2.1.below hb hR.2.2.1.lt, hR.2.2.2.trans_nil (Ch.of_below hb)⟩)
    (fun i w hi hR => (maxFn_any (W.heap.size + 1) W.heap.size d[i]!.1 d[i]!.2 _ _ w hR.2.1 hR.2.2.1 (by omega)).mono fun e w' he => by
      obtain ⟨he, hv, hi2, hc⟩ := he
      refine ⟨he, hR.1.ch6 hc (by simp; omega) (by simp; omega) (by simp; omega) (by simp; omega) (by simp; omega) (by simp; omega), ?_, ?_, hR.2.2.2.trans hc⟩
      · rw [bestOf_take hi]
        split
        · rename_i h1; rw [if_pos h1] at hv; exact hv
        · rename_i h1; rw [if_neg h1] at hv; exact hv
      · rw [bestOf_take hi]
        split
        · rename_i h1; rw [if_pos h1] at hi2; exact hi2
        · rename_i h1; rw [if_neg h1] at hi2; exact hi2)
    ⟨h1, hv1, hi1, Ch.refl _ _⟩
  have hfit := bestOf_fits h.fits d.size (Nat.le_refl _)
  have ht : d.toList.take d.size = d.toList := List.take_of_length_le (Nat.le_of_eq Array.length_toList)
  rw [ht] at hit hfit
  obtain ⟨⟨bf, bv⟩, hb⟩ : ∃ b, bestOf d.toList = b := ⟨_, rfl⟩
  rw [hb] at hit hfit
  rw [hb]
  simp only at hit hfit ⊢
  have w32 : IntKind.u32.wrap (bf : Int) = (bf : Int) := IntWalk.u32_in _ (by omega)
  have w64 : IntKind.i64.wrap (bv : Int) = (bv : Int) := IntWalk.i64_in _ (by omega)
  clear hfit hb hi1 hv1
  have h' := Lib.hid h
  have hit' := Lib.hid hit
  have h1' := Lib.hid h1
  have hC1' := Lib.hid hC1
  have hsix' := Lib.hid hsix
  clear hsix hC1 h1 hit h
  go_enter_defers Tryd.func9, Tryd.ntmps9
  go_wp2_with fail
  with_reducible refine (lock_any _ _).mono ?_
  rintro e wc ⟨rfl, rfl⟩
  go_wp2_with fail
  refine hit'.out.mono ?_
  rintro e w2 ⟨rfl, hS2, hv2, hi2, hC2⟩
  have c0 := hv2.cell 0
  have c1 := hi2.cell 0
  simp at c0 c1
  have hS2' := Lib.hid hS2
  have hv2' := Lib.hid hv2
  have hi2' := Lib.hid hi2
  have hC2' := Lib.hid hC2
  clear hC2 hi2 hv2 hS2
  go_wp2_with fail
  go_quiet (fail)
  all_goals
    go_wp2_with fail
    refine leaves_cons (f := 19) (args := #[.pointer (some ⟨sb, 0, none⟩)]) (by simp) (by simp [go_sem]) ?_
    refine (unlock_deferred _ .returning _).mono ?_
    rintro e u' w'' ⟨rfl, rfl, rfl⟩
    refine ⟨_, results_tmp2 rfl _ _ _, ?_⟩
    refine ⟨rfl, hC1'.out.trans' ((hC2'.out.drewN _)) fun k hk => ?_⟩
    simp at hk
    rcases hk with rfl | rfl
    · exact .inr (Nat.le_succ _)
    · exact .inr (Nat.le_refl _)
end Go.Proofs.YtjioghedokbgcaaDoor
