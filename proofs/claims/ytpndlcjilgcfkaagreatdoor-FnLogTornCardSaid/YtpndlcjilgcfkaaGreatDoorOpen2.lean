/-
  Contracts of logFile.open and ZZLogFile.
-/
import Derived.Test.YtpndlcjilgcfkaaGreatDoorOpen
import Derived.Deep.DeepCutAuto
import Derived.Laws.Tables
import Derived.Deep.RegionLaw
import Derived.Laws.CopyOwn
import Derived.Test.YtpndlcjilgcfkaaGreatDoorSpecW
namespace Go.Proofs.YtpndlcjilgcfkaaGreatDoor
open Go Go.RowKit
open Go.Proofs

/-- The options that a log over bytes has: the disk alone. -/
noncomputable def optC (d : Nat) : Array Value := (Tryz.prog.built 89 [(37, .pointer (some ⟨d, 0, none⟩))]).getD #[]
theorem optC_built (d : Nat) : Tryz.prog.built 89 [(37, .pointer (some ⟨d, 0, none⟩))] = some (optC d) := by kernel_rfl
noncomputable def lfC (d : Nat) : Array Value := (Tryz.prog.built 96 [(3, .int .u32 1), (1, .string { data := #[108, 111, 103] }), (7, .agg (optC d))]).getD #[]
theorem lfC_built (d : Nat) : Tryz.prog.built 96 [(3, .int .u32 1), (1, .string { data := #[108, 111, 103] }), (7, .agg (optC d))] = some (lfC d) := by kernel_rfl
theorem lfC_fid (d : Nat) : (lfC d)[2]? = some (.int .u32 1) := by kernel_rfl
theorem lfC_c0 (d : Nat) : (lfC d)[0]? = some (.pointer none) := by kernel_rfl
theorem lfC_c3 (d : Nat) : (lfC d)[3]? = some (.int .u32 0) := by kernel_rfl
theorem lfC_c4 (d : Nat) : (lfC d)[4]? = some (.slice none 0 0) := by kernel_rfl
theorem lfC_disk (d : Nat) : (lfC d)[43]? = some (.pointer (some ⟨d, 0, none⟩)) := by kernel_rfl
theorem lfC_size (d : Nat) : (lfC d).size = Tryz.prog.cellsOf 96 := by kernel_rfl

theorem wpList_built {P : Program} {w : World} {ops : Array Oper} {rest : List Oper} {o : Oper} {a : Act} {Q : Exit → Act → World → Prop} (hg : o.guard = none) (t : TypeId) (parts : Array (Nat × Operand)) (ho : o.op = .build t parts)
    (vals : List (Nat × Value)) (hv : (parts.map fun (i, x) => (i, a.eval x)).toList = vals) (cells : Array Value) (hc : P.built t vals = some cells) (h : wpList P ops Q rest (a.put o.dst (.agg cells)) w) : wpList P ops Q (o :: rest) a w := by
  refine wpList_build hg t parts ho (by rw [hv, hc]; rfl) ?_
  rw [hv, hc]
  exact h

theorem wp_built {P : Program} {w : World} {o : Oper} {a : Act} {K : Act → World → Prop} {Q : Exit → Act → World → Prop} (t : TypeId) (parts : Array (Nat × Operand)) (ho : o.op = .build t parts)
    (vals : List (Nat × Value)) (hv : (parts.map fun (i, x) => (i, a.eval x)).toList = vals) (cells : Array Value) (hc : P.built t vals = some cells) (h : K (a.put o.dst (.agg cells)) w) : o.wp P a w K Q := by
  refine wp_build t parts ho (by rw [hv, hc]; rfl) ?_
  rw [hv, hc]
  exact h

theorem bs_cells_ {w : World} {b o k : Nat} {l : List UInt8} (h : Bs w b o l) : ∀ j v, (Lib.byteCells (l.take k))[j]? = some v → w.cell? ((⟨b, o, none⟩ : Addr).add j) = some v := by
  intro j v hj
  rw [Addr.add_lit]
  have h1 : (Lib.byteCells (l.take k))[j]? = ((l.take k)[j]?).map fun u => Value.int .u8 (u.toNat : Int) := by unfold Lib.byteCells; rw [List.getElem?_map]
  rw [h1] at hj
  cases hx : (l.take k)[j]? with
  | none => rw [hx] at hj; cases hj
  | some u =>
    rw [hx] at hj
    obtain ⟨hjl, hju⟩ := List.getElem?_eq_some_iff.1 hx
    rw [List.getElem_take] at hju
    have h2 := h j (by rw [List.length_take] at hjl; omega)
    rw [hju] at h2
    rw [h2]
    simpa using hj

set_option maxHeartbeats 1000000 in
theorem assertTrue_any (w : World) : Calls Tryz.prog 52 #[.bool true] w fun e w' => e = .returned (.tuple #[]) ∧ w = w' := by
  go_enter Tryz.func52, Tryz.ntmps52
  go_wp2_with fail
  go_end0
  exact ⟨rfl, rfl⟩
set_option maxHeartbeats 1000000 in
theorem assertTruef_any (s : ByteArray) (A : Option Addr) (n c : Nat) (w : World) : Calls Tryz.prog 51 #[.bool true, .string s, .slice A n c] w fun e w' => e = .returned (.tuple #[]) ∧ w = w' := by
  go_enter Tryz.func51, Tryz.ntmps51
  go_wp2_with fail
  refine (assertTrue_any _).mono ?_
  rintro e w' ⟨rfl, rfl⟩
  go_wp2_with fail
  go_end0
  exact ⟨rfl, rfl⟩
set_option maxHeartbeats 1000000 in
theorem u32Store_any (b o v : Nat) (x : Value) (w : World) (hc : w.cell? ⟨b, o, none⟩ = some x) (hf : w.frozen? ⟨b, o, none⟩ = false) (hx : ∃ n : Int, x = .int .u32 n) :
    Calls Tryz.prog 48 #[.pointer (some ⟨b, o, none⟩), .int .u32 (v : Int)] w fun e w' => e = .returned (.tuple #[]) ∧ w.setCell ⟨b, o, none⟩ (.int .u32 (v : Int)) = w' := by
  obtain ⟨n, rfl⟩ := hx
  go_enter Tryz.func48, Tryz.ntmps48
  go_wp2_with fail
  go_end0
  exact ⟨rfl, rfl⟩
set_option maxHeartbeats 1000000 in
theorem u32Load_any (b o v : Nat) (w : World) (hc : w.cell? ⟨b, o, none⟩ = some (.int .u32 (v : Int))) :
    Calls Tryz.prog 50 #[.pointer (some ⟨b, o, none⟩)] w fun e w' => e = .returned (.int .u32 (v : Int)) ∧ w = w' := by
  go_enter Tryz.func50, Tryz.ntmps50
  go_wp2_with fail
  go_ret
  exact ⟨rfl, rfl⟩

set_option maxHeartbeats 4000000 in
set_option maxRecDepth 20000 in
theorem lfOpen_any (lfb d nb db n c : Nat) (b : List UInt8) (w : World) (cs : Array Value) (hl : Bk w lfb 96 cs) (k0 : cs[0]? = some (.pointer none)) (k2 : cs[2]? = some (.int .u32 1)) (k3 : cs[3]? = some (.int .u32 0)) (k4 : cs[4]? = some (.slice none 0 0)) (k43 : cs[43]? = some (.pointer (some ⟨d, 0, none⟩))) (hdk : DiskL d nb db n c w) (hd : Bs w db 0 b) (hn : b.length = n) (h20 : 20 ≤ n) (hnl : n ≤ 1000000000) (hnf : ∃ te pe, w.cell? ⟨0, 0, none⟩ = some (.iface te pe)) (hng : 0 ≠ lfb) (hdl : db ≠ lfb) :
    Calls Tryz.prog 36 #[.pointer (some ⟨lfb, 0, none⟩), .string { data := #[108, 111, 103] }, .int .i64 16, .int .i64 0] w fun e w' => ∃ mb fb : Nat, e = .returned .nilIface ∧ w'.cell? ⟨lfb, 0, none⟩ = some (.pointer (some ⟨mb, 0, none⟩)) ∧ w'.cell? ⟨lfb, 2, none⟩ = some (.int .u32 1) ∧ Bk w' mb 123 #[.slice (some ⟨db, 0, none⟩) n c, .pointer (some ⟨fb, 0, none⟩)] ∧ w.heap.size ≤ mb ∧ Ch [lfb] w w' := by
  have c43 := hl.cell 43
  rw [k43] at c43
  have hcall := openMmap_any d nb db n c w hdk
  have hl' := Lib.hid hl
  have hdk' := Lib.hid hdk
  have hd' := Lib.hid hd
  have hcall' := Lib.hid hcall
  have hnf' := Lib.hid hnf
  clear hnf hcall hd hdk hl
  go_enter Tryz.func36, Tryz.ntmps36
  go_wp2_with fail
  refine hcall'.out.mono ?_
  rintro e w1 ⟨mb, fb, rfl, hmb, hmbl, hc1⟩
  have hl1 := hl'.out.ch hc1 (by simp)
  have c0 := hl1.cell 0
  have f0 := hl1.free 0
  rw [k0] at c0
  obtain ⟨te, pe, hnf0⟩ := hnf'.out
  have hnf1 := (hc1.cell 0 (block_lt_of_cell hnf0) (by simp)).trans hnf0
  have hmn : mb ≠ lfb := by have := hl'.out.lt; omega
  have hmb2 := hmb.far (p := ⟨lfb, 0, none⟩) hmn (.pointer (some ⟨mb, 0, none⟩))
  have hl2 := hl1.set 0 (.pointer (some ⟨mb, 0, none⟩))
  have hmb' := Lib.hid hmb
  have hmbl' := Lib.hid hmbl
  have hc1' := Lib.hid hc1
  have hl1' := Lib.hid hl1
  have hmb2' := Lib.hid hmb2
  have hl2' := Lib.hid hl2
  clear hl2 hmb2 hl1 hc1 hmbl hmb
  clear hnf0 hnf'
  have hnl0 : ∀ W : World, (binOp .eql 54 .nilIface (.iface te pe)).run Tryz.prog W = .ok (.bool false) W := fun W => run_eql_iface_nil_left W te pe Tryz.underlying54
  go_upto_region 11 with fail
  obtain ⟨W2, hW2⟩ : ∃ W2, w1.setCell ⟨lfb, 0, none⟩ (.pointer (some ⟨mb, 0, none⟩)) = W2 := ⟨_, rfl⟩
  have hL2 := hl2'.out
  rw [hW2] at hL2
  have hM2 := hmb2'.out
  rw [hW2] at hM2
  have hC2 : Ch [lfb] w W2 := by
    rw [← hW2]
    exact (hc1'.out.mono (by simp)).setCell (p := ⟨lfb, 0, none⟩) (.inl (by simp)) _
  have d0 := hL2.cell 0
  have d3 := hL2.cell 3
  have g3 := hL2.free 3
  have m0 := hM2.cell 0
  have hs0 : 0 < cs.size := (Array.getElem?_eq_some_iff.1 k0).1
  rw [Array.getElem?_setIfInBounds, if_pos rfl, if_pos hs0] at d0
  rw [Array.getElem?_setIfInBounds, if_neg (by omega), k3] at d3
  rw [show (#[Value.slice (some ⟨db, 0, none⟩) n c, .pointer (some ⟨fb, 0, none⟩)] : Array Value)[0]? = some (.slice (some ⟨db, 0, none⟩) n c) from rfl] at m0
  rw [hW2]
  clear k0 k43 c0 f0 c43 hnl0 hnf1
  have hL2' := Lib.hid hL2
  have hM2' := Lib.hid hM2
  have hC2' := Lib.hid hC2
  have k2' := Lib.hid k2
  have k4' := Lib.hid k4
  clear k4 k2 hC2 hM2 hL2
  have hnI : ¬ (n : Int) < 20 := by omega
  have wn : IntKind.u32.wrap (n : Int) = (n : Int) := IntWalk.u32_in _ (by omega)
  have hW2' := Lib.hid hW2
  clear hW2
  refine wp_tail 12 (by kernel_rfl) (by kernel_rfl) ?_
  simp only [List.take_succ_cons, List.take_zero, List.drop_succ_cons, List.drop_zero]
  repeat still_step
  refine wpStill_nil ?_
  go_wp2_with fail
  refine (u32Store_any lfb 3 n _ W2.drew d3 g3 ⟨_, rfl⟩).mono ?_
  rintro e w2 ⟨rfl, rfl⟩
  have hL3 := hL2'.out.drew.set 3 (.int .u32 (n : Int))
  have hM3 := hM2'.out.drew.far (p := ⟨lfb, 3, none⟩) hmn (.int .u32 (n : Int))
  have hC3 : Ch [lfb] w (W2.drew.setCell ⟨lfb, 3, none⟩ (.int .u32 (n : Int))) := (hC2'.out.drew).setCell (p := ⟨lfb, 3, none⟩) (.inl (by simp)) _
  obtain ⟨W3, hW3⟩ : ∃ W3, W2.drew.setCell ⟨lfb, 3, none⟩ (.int .u32 (n : Int)) = W3 := ⟨_, rfl⟩
  rw [hW3] at hL3 hM3 hC3 ⊢
  have hs3 : 3 < cs.size := (Array.getElem?_eq_some_iff.1 k3).1
  clear d0 d3 g3 m0
  have d0 := hL3.cell 0
  have d3 := hL3.cell 3
  have d4 := hL3.cell 4
  have g4 := hL3.free 4
  have m0 := hM3.cell 0
  rw [Array.getElem?_setIfInBounds, if_neg (by omega), Array.getElem?_setIfInBounds, if_pos rfl, if_pos (by omega)] at d0
  rw [Array.getElem?_setIfInBounds, if_pos rfl, if_pos (by simpa using hs3)] at d3
  rw [Array.getElem?_setIfInBounds, if_neg (by omega), Array.getElem?_setIfInBounds, if_neg (by omega), k4'.out] at d4
  rw [show (#[Value.slice (some ⟨db, 0, none⟩) n c, .pointer (some ⟨fb, 0, none⟩)] : Array Value)[0]? = some (.slice (some ⟨db, 0, none⟩) n c) from rfl] at m0
  have hmk := run_mkB .i64 .i64 20 20 rfl (by omega)
  obtain ⟨Z, hZ⟩ : ∃ Z, List.replicate 20 (Value.int .u8 0) = Z := ⟨_, rfl⟩
  have hZl : Z.length = 20 := by rw [← hZ]; rfl
  rw [hZ] at hmk
  have hZ' := Lib.hid hZ
  have hZl' := Lib.hid hZl
  clear hZl hZ
  have hdb3 := hd'.out.ch hC3 (by simp; exact hdl)
  have hlt3 := hL3.lt
  have hL3' := Lib.hid hL3
  have hM3' := Lib.hid hM3
  have hC3' := Lib.hid hC3
  have hW3' := Lib.hid hW3
  have hs3' := Lib.hid hs3
  have hdb3' := Lib.hid hdb3
  clear hdb3 hs3 hW3 hC3 hM3 hL3
  go_wp2_with fail
  refine (u32Load_any lfb 3 n W3 d3).mono ?_
  rintro e w2 ⟨rfl, rfl⟩
  go_wp2_with fail
  have hbuf : Bk (W3.alloc (.cells Z.toArray 5)) W3.heap.size 5 Z.toArray := Bk.at_ _ _ _ _ rfl
  have hb4 : Below W3.heap.size W3 (W3.alloc (.cells Z.toArray 5)) := below_alloc_ (Below.refl _ _) _
  obtain ⟨W4, hW4⟩ : ∃ W4, W3.alloc (.cells Z.toArray 5) = W4 := ⟨_, rfl⟩
  rw [hW4] at hbuf hb4 ⊢
  have hd3 : ∀ W, Below W3.heap.size W3 W → W.cell? ⟨lfb, 3, none⟩ = some (.int .u32 (n : Int)) := fun W h => (h.cell (p := ⟨lfb, 3, none⟩) hlt3).trans d3
  have hdbW : ∀ W, Below W3.heap.size W3 W → Bs W db 0 b := fun W h => hdb3'.out.below h (hdb3'.out.lt (by omega))
  have e0 := (hb4.cell (p := ⟨lfb, 0, none⟩) hlt3).trans d0
  have em := (hb4.cell (p := ⟨mb, 0, none⟩) hM3'.out.lt).trans m0
  have hcl : (Lib.byteCells (b.take 20)).length = Nat.min n 20 := by rw [show (Lib.byteCells (b.take 20)).length = 20 by simp [Lib.byteCells, hn]; omega]; exact (Nat.min_eq_right h20).symm
  have hone := oneCell_bytes (b.take 20)
  obtain ⟨CS, hCS⟩ : ∃ CS, Lib.byteCells (b.take 20) = CS := ⟨_, rfl⟩
  have hsrc : ∀ W, Below W3.heap.size W3 W → ∀ j v, CS[j]? = some v → W.cell? ((⟨db, 0, none⟩ : Addr).add j) = some v := fun W h j v hj => bs_cells_ (hdbW W h) j v (by rw [hCS]; exact hj)
  rw [hCS] at hcl hone
  have hc20 : CS.length = 20 := hcl.trans (Nat.min_eq_right h20)
  have hd3' := Lib.hid hd3
  have hsrc' := Lib.hid hsrc
  clear d0 d3 m0 hmk hd3 hsrc
  have hW4' := Lib.hid hW4
  have hbuf' := Lib.hid hbuf
  have hb4' := Lib.hid hb4
  have hdbW' := Lib.hid hdbW
  have hcl' := Lib.hid hcl
  have hone' := Lib.hid hone
  have hCS' := Lib.hid hCS
  have hc20' := Lib.hid hc20
  clear hc20 hCS hone hcl hdbW hb4 hbuf hW4
  go_cut [89] (fun s89 wx => Below W3.heap.size W3 wx)
  case first =>
    go_region_law (first
      | (refine step_copy_splice rfl (.tmp 71) (.tmp 78) 22 22 rfl 5 Tryz.underlying22 (by kernel_rfl) (some ⟨W3.heap.size, 0, none⟩) (some ⟨db, 0, none⟩) 20 20 n c rfl rfl W3.heap.size 0 Z 5 (by first | exact hbuf'.out.drew | exact hbuf'.out.drew.alloc _ | exact hbuf'.out) CS hcl'.out (fun _ => ⟨rfl, _, rfl, hsrc'.out _ (by repeat (first | exact hb4'.out | refine below_drew_ ?_ | refine below_alloc_ ?_ _))⟩) (by rw [hc20'.out, hZl'.out]; omega) hone'.out W3.heap.size W3 (by repeat (first | exact hb4'.out | refine below_drew_ ?_ | refine below_alloc_ ?_ _)) (Nat.le_refl _) ?_; intro w5 hg5 hb5; have hl20 := hc20'.out)
      | (go_simp; go_at_call 50; refine (u32Load_any lfb 3 n _ (hd3'.out _ (by repeat (first | assumption | exact hb4'.out | refine below_drew_ ?_ | refine below_alloc_ ?_ _)))).mono ?_; rintro e w6 ⟨rfl, rfl⟩)
      | (go_simp; go_at_call 51; refine (assertTruef_any _ _ _ _ _).mono ?_; rintro e w7 ⟨rfl, rfl⟩))
    all_goals
      go_wp2_with fail
      go_meet
      repeat (first | assumption | exact hb4'.out | refine below_drew_ ?_ | refine below_alloc_ ?_ _)
  case rest =>
  have hcut' := Lib.hid hcut
  have hLc := hL3'.out.below hcut hlt3
  have hMc := hM3'.out.below hcut hM3'.out.lt
  have c4 := (hcut.cell (p := ⟨lfb, 4, none⟩) hlt3).trans d4
  have f4 := (hcut.frozen (p := ⟨lfb, 4, none⟩) hlt3).trans g4
  clear hcut d4 g4 e0 em
  have hLc' := Lib.hid hLc
  have hMc' := Lib.hid hMc
  clear hMc hLc
  go_wp2_with fail
  refine (assertTrue_any _).mono ?_
  rintro e w5 ⟨rfl, rfl⟩
  go_wp2_with fail
  go_ret
  have hCw : Ch [lfb] w wc := hC3'.out.trans_nil (Ch.of_below hcut'.out)
  have hLf := hLc'.out.set 4 (.slice (some ⟨W3.heap.size, 8, none⟩) 12 12)
  have q0 := hLf.cell 0
  have q2 := hLf.cell 2
  have hs0 : 0 < cs.size := by have := hs3'.out; omega
  rw [Array.getElem?_setIfInBounds, if_neg (by omega), Array.getElem?_setIfInBounds, if_neg (by omega), Array.getElem?_setIfInBounds, if_pos rfl, if_pos hs0] at q0
  rw [Array.getElem?_setIfInBounds, if_neg (by omega), Array.getElem?_setIfInBounds, if_neg (by omega), Array.getElem?_setIfInBounds, if_neg (by omega), k2'.out] at q2
  exact ⟨mb, fb, rfl, q0, q2, hMc'.out.far (p := ⟨lfb, 4, none⟩) hmn _, hmbl'.out, hCw.setCell (p := ⟨lfb, 4, none⟩) (.inl (by simp)) _⟩

set_option maxHeartbeats 4000000 in
set_option maxRecDepth 20000 in
theorem zzLogFile_any (db n c : Nat) (b : List UInt8) (w : World) (hd : Bs w db 0 b) (hn : b.length = n) (h20 : 20 ≤ n) (hnl : n ≤ 1000000000) (hnf : ∃ te pe, w.cell? ⟨0, 0, none⟩ = some (.iface te pe)) :
    Calls Tryz.prog 22 #[.slice (some ⟨db, 0, none⟩) n c] w fun e w' => ∃ lfb mb fb : Nat, e = .returned (.pointer (some ⟨lfb, 0, none⟩)) ∧ w.heap.size ≤ lfb ∧ w'.cell? ⟨lfb, 0, none⟩ = some (.pointer (some ⟨mb, 0, none⟩)) ∧ w'.cell? ⟨lfb, 2, none⟩ = some (.int .u32 1) ∧
      Bk w' mb 123 #[.slice (some ⟨db, 0, none⟩) n c, .pointer (some ⟨fb, 0, none⟩)] ∧ Ch [] w w' := by
  have hls := lfC_size
  have hdw := hd.lt (by omega)
  obtain ⟨te, pe, hnf⟩ := hnf
  have hnl0 := block_lt_of_cell hnf
  have hd' := Lib.hid hd
  have hnf' := Lib.hid hnf
  clear hnf hd
  go_enter Tryz.func22, Tryz.ntmps22
  go_wp2_with fail
  refine (diskPut_any w.heap.size (w.heap.size + 1) (.int .i64 (-1)) (.int .i64 0) (.int .u64 0) (.slice (some ⟨db, 0, none⟩) n c) (.slice none 0 0) (.int .u64 0) _ ((Bk.at_ _ _ _ _ rfl).alloc _) (Bk.at_ _ _ _ _ (by simp))).mono ?_
  rintro e w1 ⟨rfl, g, c', hd1, hg1, hgl, hc1⟩
  have hsz1 := hc1.size
  simp at hsz1
  have hnode : Bk w1 (w.heap.size + 1) 83 #[.string { data := #[108, 111, 103] }, .slice (some ⟨db, 0, none⟩) n c, .slice none 0 0, .int .u64 0] := (Bk.at_ _ _ _ _ (by simp)).ch hc1 (by simp)
  have hcA : Ch [w.heap.size] w w1 := by
    have h1 : Ch [w.heap.size] w ((w.alloc (.cells #[.slice none 0 0, .int .i64 (-1), .int .i64 0, .int .u64 0] 79)).alloc (.cells #[.string { data := #[108, 111, 103] }, .slice (some ⟨db, 0, none⟩) n c, .slice none 0 0, .int .u64 0] 83)) := ((Ch.refl _ w).alloc _).alloc _
    exact h1.trans hc1
  have hcB : Ch [] w (w1.alloc (.cells (lfC w.heap.size) 96)) := (hcA.mono (by simp)).alloc _
  have hdk : DiskL w.heap.size (w.heap.size + 1) db n c (w1.alloc (.cells (lfC w.heap.size) 96)) :=
    ⟨⟨g, c', _, _, _, hd1.alloc _, (((Ch.refl [] w1).alloc _).cell 0 (block_lt_of_cell hg1) (by simp)).trans hg1⟩, ⟨_, _, hnode.alloc _⟩⟩
  have hop := lfOpen_any w1.heap.size w.heap.size (w.heap.size + 1) db n c b _ (lfC w.heap.size) (Bk.at_ w1 _ _ _ rfl) (lfC_c0 _) (lfC_fid _) (lfC_c3 _) (lfC_c4 _) (lfC_disk _) hdk (hd'.out.ch hcB (by simp)) hn h20 hnl ⟨te, pe, (hcB.cell 0 hnl0 (by simp)).trans hnf'.out⟩ (by omega) (by omega)
  have hd1' := Lib.hid hd1
  have hg1' := Lib.hid hg1
  have hgl' := Lib.hid hgl
  have hc1' := Lib.hid hc1
  have hnode' := Lib.hid hnode
  have hcA' := Lib.hid hcA
  have hcB' := Lib.hid hcB
  have hdk' := Lib.hid hdk
  have hop' := Lib.hid hop
  clear hop hdk hcB hcA hnode hc1 hgl hg1 hd1
  go_wp2_with (first | (refine wpList_built rfl 89 #[(37, .tmp 13)] rfl [(37, .pointer (some ⟨w.heap.size, 0, none⟩))] (by simp; rfl) (optC w.heap.size) (optC_built w.heap.size) ?_) | (refine wpList_built rfl 96 #[(3, .const (.int .u32 1)), (1, .const (.string { data := #[108, 111, 103] })), (7, .tmp 14)] rfl [(3, .int .u32 1), (1, .string { data := #[108, 111, 103] }), (7, .agg (optC w.heap.size))] (by simp; exact ⟨rfl, rfl, rfl⟩) (lfC w.heap.size) (lfC_built w.heap.size) ?_))
  refine hop'.out.mono ?_
  rintro e w2 ⟨mb, fb, rfl, q0, q2, hmb, hmbl, hc2⟩
  have q0' := Lib.hid q0
  have q2' := Lib.hid q2
  have hmb' := Lib.hid hmb
  have hc2' := Lib.hid hc2
  clear hc2 hmb q2 q0
  go_wp2_with fail
  go_ret
  exact ⟨w1.heap.size, mb, fb, rfl, by omega, q0'.out, q2'.out, hmb'.out, hcB'.out.trans' hc2'.out (by simp; omega)⟩
end Go.Proofs.YtpndlcjilgcfkaaGreatDoor
