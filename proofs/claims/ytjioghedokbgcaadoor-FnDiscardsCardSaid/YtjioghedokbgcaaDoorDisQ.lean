/-
  InitDiscardStats on an empty disk: no rows yet.
-/
import Derived.Test.YtjioghedokbgcaaDoorDisT
import Derived.Test.YtjioghedokbgcaaDoorDisX
namespace Go.Proofs.YtjioghedokbgcaaDoor
open Go Go.RowKit
open Go.Proofs

theorem errSame (a : Addr) (W : World) : (binOp .eql 40 (.iface 101 (.pointer (some a))) (.iface 101 (.pointer (some a)))).run Tryd.prog W = .ok (.bool true) W := by
  obtain ⟨i, hi, hcmp⟩ := Option.map_eq_some_iff.1 (show (Tryd.prog.info? 101).map (·.comparable) = some true by kernel_rfl)
  obtain ⟨j, hj, hjs⟩ := Option.map_eq_some_iff.1 (show (Tryd.prog.info? 103).map (·.size) = some 1 by kernel_rfl)
  exact run_eql_iface_ptr_same W a Tryd.underlying40 Tryd.underlying101 hi hcmp hj

section
variable {P : Program}
theorem wp_built {o : Oper} {a : Act} {w : World} {K : Act → World → Prop} {Q : Exit → Act → World → Prop} (t : TypeId) (parts : List (Nat × Operand)) (ho : o.op = .build t parts.toArray) (ps : List (Nat × Value)) (hps : parts.map (fun x => (x.1, a.eval x.2)) = ps) (cells : Array Value)
    (h : P.built t ps = some cells) (hK : K (a.put o.dst (.agg cells)) w) : o.wp P a w K Q := by
  have hr := run_build (P := P) w t (parts.toArray.map fun x => (x.1, a.eval x.2)) cells (by rw [← hps] at h; simpa using h)
  unfold Oper.wp execOp
  simp only [ho, Sem.run_bind, Sem.run_pure, hr, Result.andThen_ok]
  exact hK
/-- A struct built, by what the tables say. -/
theorem wpList_built {ops : Array Oper} {rest : List Oper} {o : Oper} {a : Act} {w : World} {Q : Exit → Act → World → Prop} (hgd : o.guard = none) (t : TypeId) (parts : List (Nat × Operand)) (ho : o.op = .build t parts.toArray) (ps : List (Nat × Value)) (hps : parts.map (fun x => (x.1, a.eval x.2)) = ps) (cells : Array Value)
    (h : P.built t ps = some cells) (hK : wpList P ops Q rest (a.put o.dst (.agg cells)) w) : wpList P ops Q (o :: rest) a w :=
  wpList_plain hgd fun _ hK' => wp_built t parts ho ps hps cells h (hK' _ _ hK)
end

theorem be8_zero : Lib.beBytes 8 0 = List.replicate 8 0 := by decide

theorem splice_zero (S o : Nat) (h : o + 8 ≤ S) : splice (List.replicate S (0 : UInt8)) o (Lib.beBytes 8 0) = List.replicate S 0 := by
  rw [be8_zero]
  unfold splice
  rw [List.take_replicate, List.length_replicate, List.drop_replicate, List.replicate_append_replicate, List.replicate_append_replicate]
  congr 1
  omega

theorem optInfo : (Tryd.prog.info? 52).map (·.size) = some 43 := by kernel_rfl

/-- The name of the file. -/
def disN : ByteArray := { data := #[68, 73, 83, 67, 65, 82, 68] }

set_option maxHeartbeats 2000000 in
set_option maxRecDepth 20000 in
theorem initDis_any (kb k : Nat) (a : Addr) (W : World) (h : Bk W kb 46 #[.slice none 0 0, .int .i64 (-1), .int .i64 0, .int .u64 0])
    (hg : W.cell? ⟨0, 0, none⟩ = some (.iface 101 (.pointer (some a)))) (hk : 4 ≤ k) (hk2 : k ≤ 100) :
    Calls Tryd.prog 7 #[.agg (optCs kb ((16 * k : Nat) : Int))] W fun e w' => ∃ sb mb fb nb db nodes, e = .returned (.tuple #[.pointer (some ⟨sb, 0, none⟩), .nilIface]) ∧
      StatAt sb mb fb kb nb db 1 (disCs mb kb ((16 * k : Nat) : Int) 0) nodes (.int .u64 0) (.string disN) (.slice none 0 0) (.int .u64 0) (.int .i64 0) (List.replicate (16 * k) 0) #[] w' ∧
      W.heap.size ≤ sb ∧ W.heap.size ≤ mb ∧ W.heap.size ≤ fb ∧ W.heap.size ≤ nb ∧ W.heap.size ≤ db ∧ Ch [kb] W w' := by
  obtain ⟨S, hS⟩ : ∃ S, 16 * k = S := ⟨_, rfl⟩
  rw [hS]
  have hkl := h.lt
  have hgl := block_lt_of_cell hg
  have hgd : 0 ≠ kb := fun e => by
    have h0 := h.cell 0
    rw [← e] at h0
    have h1 := hg.symm.trans h0
    simp at h1
  have hsame := errSame a
  have hdl : ¬ (#[] : Array (Nat × Nat)).size ≠ 0 := by simp
  obtain ⟨W1, hW1⟩ : ∃ w, W.alloc (.cells (optCs kb (S : Int)) 52) = w := ⟨_, rfl⟩
  have hC1 : Ch [] W W1 := by rw [← hW1]; exact (Ch.refl [] W).alloc _
  have ho1 : Bk W1 W.heap.size 52 (optCs kb (S : Int)) := by rw [← hW1]; exact Bk.new _ _ _
  have hk1 := h.ch hC1 (by simp)
  have hg1 := (hC1.cell 0 hgl (by simp)).trans hg
  have o37 : W1.cell? ⟨W.heap.size, 37, none⟩ = some (.pointer (some ⟨kb, 0, none⟩)) := ho1.cell 37
  have o39 : W1.cell? ⟨W.heap.size, 39, none⟩ = some (.int .i64 (S : Int)) := ho1.cell 39
  have hopen := openMmap_new kb S disN a W1 hk1 hg1 (by omega) (by omega)
  have hoc : (Value.agg (optCs kb (S : Int))).cells = optCs kb (S : Int) := rfl
  unfold disN at *
  have h' := Lib.hid h
  have hC1' := Lib.hid hC1
  have ho1' := Lib.hid ho1
  have hk1' := Lib.hid hk1
  have hg1' := Lib.hid hg1
  have hopen' := Lib.hid hopen
  clear hopen hg1 hk1 ho1 hC1 h
  go_enter Tryd.func7, Tryd.ntmps7
  go_wp2_with fail
  refine hopen'.out.mono ?_
  rintro e w2 ⟨mb, fb, nb, db, nodes, rfl, hF2, hM2, hms, hfs, hns, hds, hC2⟩
  have hz1 := hC1'.out.size
  have ho2 := ho1'.out.ch hC2 (by simp; omega)
  have hg2 := (hC2.cell 0 (Nat.lt_of_lt_of_le hgl hz1) (by simpa using hgd)).trans hg1'.out
  have hblt := disBuilt mb kb (S : Int)
  obtain ⟨w3, hw3⟩ : ∃ w, w2.alloc (.cells (disCs mb kb (S : Int) 0) 64) = w := ⟨_, rfl⟩
  have hC3 : Ch [] w2 w3 := by rw [← hw3]; exact (Ch.refl [] w2).alloc _
  have hs3 : Bk w3 w2.heap.size 64 (disCs mb kb (S : Int) 0) := by rw [← hw3]; exact Bk.new _ _ _
  have hz2 := hC2.size
  have hg3 := (hC3.cell 0 (Nat.lt_of_lt_of_le hgl (Nat.le_trans hz1 hz2)) (by simp)).trans hg2
  have hrl : (List.replicate S (0 : UInt8)).length = S := List.length_replicate
  have hF3 := hF2.ch hC3 (by simp) (by simp) (by simp) (by simp)
  have hM3 := hM2.ch hC3 (by simp)
  have hmem3 : StatMem w2.heap.size mb fb kb nb db S 0 1 (disCs mb kb (S : Int) 0) nodes (.int .u64 0) (.string disN) (.slice none 0 0) (.int .u64 0) (.int .i64 0) (List.replicate S 0) w3 :=
    ⟨hF3, by rw [hrl]; exact hM3, hs3, rfl, rfl⟩
  have hSt3 : StatAt w2.heap.size mb fb kb nb db 1 (disCs mb kb (S : Int) 0) nodes (.int .u64 0) (.string disN) (.slice none 0 0) (.int .u64 0) (.int .i64 0) (List.replicate S 0) #[] w3 :=
    ⟨by simpa [rowsB, hrl] using hmem3, by simp, by simp [rowsB]; omega, by simp [rowsB]; omega, by simp [rowsB]; omega, fun i hi => by simp at hi, by simp⟩
  obtain ⟨sb, hsb⟩ : ∃ s, w2.heap.size = s := ⟨_, rfl⟩
  rw [hsb] at hSt3 hs3 hmem3
  have hm3 := hmem3.mem
  rw [hrl] at hm3
  have hz := zeroOut_any sb mb db S S 0 _ w3 hm3 hmem3.sd hmem3.md_ hmem3.file.data hrl (Nat.le_refl _) (by omega) (by omega)
  rw [Nat.mul_zero, Nat.zero_add, splice_zero S 0 (by omega), splice_zero S 8 (by omega)] at hz
  have hF2' := Lib.hid hF2
  have hM2' := Lib.hid hM2
  have hC2' := Lib.hid hC2
  have ho2' := Lib.hid ho2
  have hg2' := Lib.hid hg2
  have hC3' := Lib.hid hC3
  have hs3' := Lib.hid hs3
  have hmem3' := Lib.hid hmem3
  have hSt3' := Lib.hid hSt3
  have hz' := Lib.hid hz
  have hF3' := Lib.hid hF3
  have hM3' := Lib.hid hM3
  have hm3' := Lib.hid hm3
  clear hm3 hM3 hF3 hz hSt3 hmem3 hs3 hC3 hg2 ho2 hC2 hM2 hF2
  go_wp2_with (first | (refine wpList_load_row rfl 52 (.tmp 1) rfl W.heap.size rfl 52 (optCs kb (S : Int)) (0, 0) _ ho2'.out Tryd.underlying52 rfl optInfo ?_) | (refine wpList_built rfl 64 [(1, .tmp 18), (2, .tmp 19)] rfl _ rfl (disCs mb kb (S : Int) 0) hblt ?_))
  refine hz'.out.mono ?_
  rintro e w4 ⟨rfl, hB4, hgr4⟩
  have hC4 := Ch.of_grown hgr4
  have hS4 := StatAt.bytes (d' := #[]) (rest' := List.replicate S 0) hSt3'.out rfl rfl (fun i hi => by simp at hi) hB4 hC4
  have hmx := disMaxSlot_any sb mb db _ _ _ w4 hS4.mem.mem (by have := hS4.most; omega)
  have hlen4 : (rowsB (#[] : Array (Nat × Nat)).toList ++ List.replicate S (0 : UInt8)).length = S := hrl
  rw [hlen4, show S / 16 = k by omega] at hmx
  have hget := disGet_any sb mb db _ _ _ 0 _ w4 hS4.mem.mem hS4.mem.file.data rfl (Nat.le_refl _) (by rw [hlen4]; omega) (by have := hS4.most; omega)
  have hval : Lib.beNat (((rowsB (#[] : Array (Nat × Nat)).toList ++ List.replicate S (0 : UInt8)).drop 0).take 8) = 0 := by
    show Lib.beNat ((List.replicate S (0 : UInt8)).take 8) = 0
    rw [List.take_replicate, show min 8 S = 8 by omega]
    decide
  rw [hval, show ((0 : Nat) : Int) = 0 from rfl] at hget
  have hkI : (0 : Int) < (k : Int) := by omega
  have w0 : IntKind.i64.wrap 0 = 0 := rfl
  have hB4' := Lib.hid hB4
  have hgr4' := Lib.hid hgr4
  have hC4' := Lib.hid hC4
  have hS4' := Lib.hid hS4
  have hmx' := Lib.hid hmx
  have hget' := Lib.hid hget
  clear hget hmx hS4 hC4 hgr4 hB4
  go_wp2_with fail
  go_loopw [8] (fun s8 wx => s8 = .int .i64 0 ∧ w4 = wx) (fun _ _ => 0)
  case atStart => exact ⟨rfl, rfl⟩
  case round =>
    obtain ⟨rfl, rfl⟩ := hrel
    go_wp2_with fail
    refine hmx'.out.mono ?_
    rintro e w5 ⟨rfl, rfl⟩
    go_wp2_with fail
    refine hget'.out.mono ?_
    rintro e w6 ⟨rfl, hb6⟩
    have hS6 := hS4'.out.below hb6
    have c44 := hS6.mem.mem.fn
    rw [show (#[] : Array (Nat × Nat)).size = 0 from rfl, show ((0 : Nat) : Int) = 0 from rfl] at c44
    have f44 := hS6.mem.stat.free 44
    obtain ⟨w7, hw7⟩ : ∃ w, w6.setCell ⟨sb, 44, none⟩ (.int .i64 0) = w := ⟨_, rfl⟩
    have hC7 : Ch [sb] w6 w7 := by rw [← hw7]; exact (Ch.refl [sb] w6).setCell (p := ⟨sb, 44, none⟩) (.inl (by simp)) _
    have hst7 : Bk w7 sb 64 (disCs mb kb (S : Int) 0) := by rw [← hw7]; exact hS6.mem.stat.set 44 (.int .i64 0)
    have n1 := hS6.mem.map.apart hS6.mem.stat (by decide)
    have n2 := hS6.mem.file.file.apart hS6.mem.stat (by decide)
    have n3 := hS6.mem.file.disk.apart hS6.mem.stat (by decide)
    have n4 := hS6.mem.file.node.apart hS6.mem.stat (by decide)
    have n5 := hS6.mem.file.data.apart hS6.mem.stat (by decide)
    have hS7 : StatAt sb mb fb kb nb db 1 (disCs mb kb (S : Int) 0) nodes (.int .u64 0) (.string disN) (.slice none 0 0) (.int .u64 0) (.int .i64 0) (List.replicate S 0) #[] w7 :=
      ⟨⟨hS6.mem.file.ch hC7 (by simpa using n2) (by simpa using n3) (by simpa using n4) (by simpa using n5), hS6.mem.map.ch hC7 (by simpa using n1), hst7, hS6.mem.c0, hS6.mem.c44⟩, hS6.room, hS6.most, hS6.least, hS6.steps, hS6.fits, hS6.few⟩
    have hsort := disSort_any hS7.fix #[] w7 hS7.rel
    have hb6' := Lib.hid hb6
    have hS6' := Lib.hid hS6
    have hC7' := Lib.hid hC7
    have hst7' := Lib.hid hst7
    have hS7' := Lib.hid hS7
    have hsort' := Lib.hid hsort
    clear hsort hS7 hst7 hC7 hS6 hb6
    go_wp2_with fail
    refine hsort'.out.mono ?_
    rintro e w8 ⟨rfl, hR8⟩
    have hd0 : Sort.sort (fun x y : Nat × Nat => decide (x.1 < y.1)) #[] = #[] := Array.eq_empty_of_size_eq_zero hR8.sz
    rw [hd0] at hR8
    have hS8 := StatAt.bytes (d' := #[]) (rest' := List.replicate S 0) hS7'.out rfl rfl (fun i hi => by simp at hi) hR8.blk hR8.ch_db
    have hR8' := Lib.hid hR8
    have hS8' := Lib.hid hS8
    clear hS8 hR8
    go_wp2_with fail
    go_ret2
    have z1 := hC1'.out.size
    have z2 := hC2'.out.size
    have hsz := hsb
    refine ⟨sb, mb, fb, nb, db, nodes, rfl, hS8'.out, by omega, by omega, by omega, by omega, by omega, ?_⟩
    have q1 := (hC1'.out.mono (S' := [kb]) (by simp)).trans hC2'.out
    have q3 := q1.trans_nil hC3'.out
    have q4 := q3.trans' hC4'.out fun k hk => .inr (by simp at hk; omega)
    have q6 := q4.trans_nil (Ch.of_below hb6'.out)
    have q7 := q6.trans' hC7'.out fun k hk => .inr (by simp at hk; omega)
    exact q7.trans' hR8'.out.ch_db fun k hk => .inr (by simp at hk; omega)
end Go.Proofs.YtjioghedokbgcaaDoor
