/-
  ZZManifest: a disk with one file, and its replay.
-/
import Derived.Test.YtkjgkjmaoebeoaaDoorMrp
namespace Go.Proofs.YtkjgkjmaoebeoaaDoor
open Go Go.RowKit
open Go.Proofs

theorem Gs.mono {B B' : Nat} {w : World} (h : Gs B w) (hB : B ≤ B') : Gs B' w := by
  obtain ⟨⟨a1, e1, p1⟩, ⟨a2, e2, p2⟩, ⟨a3, e3, p3⟩, h4⟩ := h
  exact ⟨⟨a1, e1, Nat.lt_of_lt_of_le p1.1 hB, p1.2⟩, ⟨a2, e2, Nat.lt_of_lt_of_le p2.1 hB, p2.2⟩, ⟨a3, e3, Nat.lt_of_lt_of_le p3.1 hB, p3.2⟩, Nat.le_trans h4 hB⟩

section
variable {P : Program}
theorem wp_built {o : Oper} {a : Act} {w : World} {K : Act → World → Prop} {Q : Exit → Act → World → Prop} (t : TypeId) (parts : List (Nat × Operand)) (ho : o.op = .build t parts.toArray) (ps : List (Nat × Value)) (hps : parts.map (fun x => (x.1, a.eval x.2)) = ps) (cells : Array Value)
    (h : P.built t ps = some cells) (hK : K (a.put o.dst (.agg cells)) w) : o.wp P a w K Q := by
  have hr := run_build (P := P) w t (parts.toArray.map fun x => (x.1, a.eval x.2)) cells (by rw [← hps] at h; simpa using h)
  unfold Oper.wp execOp
  simp only [ho, Sem.run_bind, Sem.run_pure, hr, Result.andThen_ok]
  exact hK
/-- A struct built, by what the tables say. -/
theorem wpList_built {ops : Array Oper} {rest : List Oper} {o : Oper} {a : Act} {w : World} {Q : Exit → Act → World → Prop} (hgd : o.guard = none) (t : TypeId) (parts : List (Nat × Operand)) (ho : o.op = .build t parts.toArray) (ps : List (Nat × Value)) (hps : parts.map (fun x => (x.1, a.eval x.2)) = ps) (cells : Array Value)
    (h : P.built t ps = some cells) (hK : wpList P ops Q rest (a.put o.dst (.agg cells)) w) : wpList P ops Q (o :: rest) a w :=
  wpList_plain hgd fun _ hK' => wp_built t parts ho ps hps cells h (hK' _ _ hK)
end

/-- Options of a disk. -/
def optCs (kb : Nat) : Array Value := #[.string ⟨#[]⟩, .string ⟨#[]⟩, .bool false, .int .i64 0, .bool false, .int .u32 0, .bool false, .bool false, .int .i64 0, .int .i64 0, .int .i64 0, .int .i64 0, .int .i64 0, .int .i64 0, .int .i64 0, .float .f64 0, .int .i64 0, .int .i64 0, .int .i64 0, .float .f64 0, .int .i64 0, .int .i64 0, .int .i64 0, .int .i64 0, .int .i64 0, .int .u32 0, .int .i64 0, .bool false, .bool false, .int .i64 0, .bool false, .bool false, .int .i64 0, .bool false, .int .i64 0, .int .u16 0, .bool false, .pointer (some ⟨kb, 0, none⟩), .int .i64 0, .int .i64 0, .int .i64 0, .int .i64 0, .int .i64 0]
theorem optBuilt (kb : Nat) : Tryd.prog.built 81 [(37, .pointer (some ⟨kb, 0, none⟩))] = some (optCs kb) := by kernel_rfl

set_option maxHeartbeats 2000000 in
theorem diskOpen2_any (d nb db n c : Nat) (w : World) (h : DiskL d nb db n c w) :
    Calls Tryd.prog 22 #[.pointer (some ⟨d, 0, none⟩), .string { data := #[77, 65, 78, 73, 70, 69, 83, 84] }, .int .i64 16] w fun e w' => ∃ fb, w.heap.size ≤ fb ∧ e = .returned (.tuple #[.pointer (some ⟨fb, 0, none⟩), .nilIface]) ∧ Bk w' fb 86 #[.pointer (some ⟨d, 0, none⟩), .pointer (some ⟨nb, 0, none⟩), .int .i64 0] ∧ Ch [] w w' := by
  have hcall := diskFind_any d nb db n c w h
  have h' := Lib.hid h
  have hcall' := Lib.hid hcall
  clear hcall h
  go_enter Tryd.func22, Tryd.ntmps22
  go_wp2_with fail
  refine hcall'.out.mono ?_
  rintro e w1 ⟨rfl, hc1⟩
  have hc1' := Lib.hid hc1
  clear hc1
  go_wp2_with fail
  go_ret2
  exact ⟨_, hc1'.out.size, rfl, Bk.at_ _ _ _ _ rfl, hc1'.out.alloc _⟩

/-- Refused. -/
def ZmNo (e : Ending) : Prop := ∃ a, e = .returned (.tuple #[.agg #[.slice none 0 0, .map none, .int .i64 0, .int .i64 0], .int .i64 0, .iface 119 (.pointer (some a))])
/-- Read: what the whole sets say, and where they end. -/
def ZmOk (Ls : List (List Chg)) (e : Ending) (w' : World) : Prop := ∃ A k cv tb, e = .returned (.tuple #[.agg #[.slice A k cv, .map (some tb), .int .i64 ((bok0.run Ls.flatten).made : Int), .int .i64 ((bok0.run Ls.flatten).dropped : Int)], .int .i64 ((8 + (setsB Ls).length : Nat) : Int), .nilIface]) ∧ TabAt w' tb (bok0.run Ls.flatten).f 1000000


set_option maxHeartbeats 2000000 in
set_option maxRecDepth 20000 in
theorem zzManifest_any (same bad : Bool) (db n c m mg : Nat) (data tail rest : List UInt8) (Ls : List (List Chg)) (w : World) (hb : Bs w db 0 data) (hn : data.length = n) (hc : n ≤ c) (hdl : db < w.heap.size) (hgs : Gs w.heap.size w) (hN : n ≤ 1000000) (hm : m < 65536)
    (h1 : same = false → data = headB m ++ rest ∧ m ≠ mg)
    (h2 : same = true → mg = m ∧ data = headB m ++ (setsB Ls ++ tail) ∧ (∀ j (h : j < Ls.length), (bok0.run (Ls.take j).flatten).oks Ls[j]) ∧ (∀ L, L ∈ Ls → L.length ≤ 1000 ∧ ∀ x, x ∈ L → 1 ≤ x.id ∧ x.id < 1000000 ∧ x.lev ≤ 6) ∧ Ls.length ≤ 100 ∧ ((bad = true ∧ BadT tail n) ∨ (bad = false ∧ CutT tail n))) :
    Calls Tryd.prog 19 #[.slice (some ⟨db, 0, none⟩) n c, .int .u16 (mg : Int)] w fun e w' => ((same = true ∧ bad = false ∧ ZmOk Ls e w') ∨ ((same = false ∨ bad = true) ∧ ZmNo e)) ∧ Ch [] w w' := by
  obtain ⟨W1, hW1⟩ : ∃ W, (w.alloc (.cells #[.slice none 0 0, .map none, .int .i64 0, .int .i64 0] 57)).alloc (.cells #[.slice none 0 0, .int .i64 (-1), .int .i64 0, .int .u64 0] 69) = W := ⟨_, rfl⟩
  have hC1 : Ch [] w W1 := by rw [← hW1]; exact ((Ch.refl [] w).alloc _).alloc _
  have hr1 : Bk W1 w.heap.size 57 #[.slice none 0 0, .map none, .int .i64 0, .int .i64 0] := by rw [← hW1]; exact (Bk.new _ _ _).alloc _
  have hk1 : Bk W1 (w.heap.size + 1) 69 #[.slice none 0 0, .int .i64 (-1), .int .i64 0, .int .u64 0] := by rw [← hW1]; exact Bk.at_ _ _ _ _ (by simp)
  have hsz1 : W1.heap.size = w.heap.size + 1 + 1 := by rw [← hW1]; simp
  obtain ⟨W2, hW2⟩ : ∃ W, W1.alloc (.cells #[.string ⟨#[77, 65, 78, 73, 70, 69, 83, 84]⟩, .slice (some ⟨db, 0, none⟩) n c, .slice none 0 0, .int .u64 0] 73) = W := ⟨_, rfl⟩
  have hC2 : Ch [] w W2 := by rw [← hW2]; exact hC1.alloc _
  have hn2 : Bk W2 W1.heap.size 73 #[.string ⟨#[77, 65, 78, 73, 70, 69, 83, 84]⟩, .slice (some ⟨db, 0, none⟩) n c, .slice none 0 0, .int .u64 0] := by rw [← hW2]; exact Bk.new _ _ _
  have hk2 : Bk W2 (w.heap.size + 1) 69 #[.slice none 0 0, .int .i64 (-1), .int .i64 0, .int .u64 0] := by rw [← hW2]; exact hk1.alloc _
  have hr2 := hr1.ch ((by rw [← hW2]; exact (Ch.refl [] W1).alloc _) : Ch [] W1 W2) (by simp)
  have hsz2 : W2.heap.size = w.heap.size + 3 := by rw [← hW2]; simp; omega
  have hblt := optBuilt (w.heap.size + 1)
  have hput := diskPut_any (w.heap.size + 1) W1.heap.size _ _ _ _ _ _ W2 hk2 hn2
  have hb' := Lib.hid hb
  have hgs' := Lib.hid hgs
  have hC1' := Lib.hid hC1
  have hr1' := Lib.hid hr1
  have hk1' := Lib.hid hk1
  have hsz1' := Lib.hid hsz1
  have hC2' := Lib.hid hC2
  have hn2' := Lib.hid hn2
  have hk2' := Lib.hid hk2
  have hr2' := Lib.hid hr2
  have hsz2' := Lib.hid hsz2
  have hput' := Lib.hid hput
  have h1' := Lib.hid h1
  have h2' := Lib.hid h2
  clear h2 h1 hput hsz2 hr2 hk2 hn2 hC2 hsz1 hk1 hr1 hC1 hgs hb
  go_enter Tryd.func19, Tryd.ntmps19
  go_wp2_with fail
  try rw [hW2]
  refine hput'.out.mono ?_
  rintro e w3 ⟨rfl, g, c', hk3, hg3, hgl3, hC3⟩
  have hs1 := hsz1'.out
  have hs2 := hsz2'.out
  have hnd3 := hn2'.out.ch hC3 (by simp; omega)
  have hop := diskOpen2_any (w.heap.size + 1) W1.heap.size db n c w3 ⟨⟨g, c', _, _, _, hk3, hg3⟩, _, _, hnd3⟩
  have hs3 := hC3.size
  have hk3' := Lib.hid hk3
  have hg3' := Lib.hid hg3
  have hC3' := Lib.hid hC3
  have hnd3' := Lib.hid hnd3
  have hop' := Lib.hid hop
  clear hop hnd3 hC3 hg3 hk3
  clear hW1 hW2 hs1 hs2
  go_wp2_with fail
  refine hop'.out.mono ?_
  rintro e w4 ⟨fb, hfbl, rfl, hfb, hC4⟩
  have hC34 := hC3'.out.trans_nil hC4
  have hr4 := (hr2'.out.ch hC3'.out (by simp)).ch hC4 (by simp)
  have hnd4 := hnd3'.out.ch hC4 (by simp)
  have hC24 : Ch [] w w4 := hC2'.out.trans' hC34 (fun k hk => .inr (by simp at hk; omega))
  have hb4 := hb'.out.ch hC24 (by simp)
  have hgs4 := (hgs'.out.ch hC24 (by simp)).mono (Nat.le_trans hC2'.out.size (Nat.le_trans hs3 hfbl) : w.heap.size ≤ fb)
  have hsw := hC24.size
  have hz2 := hsz2'.out
  have hz1 := hsz1'.out
  have hf4 : Fr fb W1.heap.size db data w4 := ⟨data, 0, c, _, _, _, _, hfb, by rw [hn]; exact hnd4, hb4, Nat.zero_le _, by omega, by omega, rfl, by omega, by omega, by omega⟩
  have hrep : Calls Tryd.prog 23 #[.pointer (some ⟨fb, 0, none⟩), .int .u16 (mg : Int), .agg (optCs (w.heap.size + 1))] w4 fun e w' => ((same = true ∧ bad = false ∧ ZmOk Ls e w') ∨ ((same = false ∨ bad = true) ∧ ZmNo e)) ∧ Ch [fb] w4 w' := by
    cases same with
    | false =>
      obtain ⟨hd, hne⟩ := h1'.out rfl
      exact (replayMg_any fb W1.heap.size db n c m mg data rest _ _ _ _ w4 hf4 hnd4 hgs4.gl hgs4.hB hd hm hne (by omega) rfl (by omega) (by omega) (by omega)).mono fun e w' ⟨h, hc⟩ => ⟨.inr ⟨.inl rfl, h⟩, hc⟩
    | true =>
      obtain ⟨rfl, hd, hok, hlim, hLs, htl⟩ := h2'.out rfl
      exact (replay_any bad fb W1.heap.size db n c mg data tail Ls _ _ _ _ w4 hf4 hnd4 hgs4 hd hm (by omega) (by omega) rfl (by omega) (by omega) (by omega) hok hlim hLs htl).mono fun e w' ⟨h, hc⟩ => ⟨by
        rcases h with ⟨hb, h⟩ | ⟨hb, A, k, cv, tb, h1, h2⟩
        · exact .inr ⟨.inr hb, h⟩
        · exact .inl ⟨rfl, hb, A, k, cv, tb, h1, h2⟩, hc⟩
  have hfw : w.heap.size + 3 ≤ fb := by omega
  clear hz1 hz2
  have hfb' := Lib.hid hfb
  have hC4' := Lib.hid hC4
  have hC34' := Lib.hid hC34
  have hr4' := Lib.hid hr4
  have hnd4' := Lib.hid hnd4
  have hC24' := Lib.hid hC24
  have hb4' := Lib.hid hb4
  have hgs4' := Lib.hid hgs4
  have hf4' := Lib.hid hf4
  have hrep' := Lib.hid hrep
  clear hrep hf4 hgs4 hb4 hC24 hnd4 hr4 hC34 hC4 hfb
  go_wp2_with (refine wpList_built rfl 81 [(37, .tmp 27)] (by rfl) [(37, .pointer (some ⟨w.heap.size + 1, 0, none⟩))] (by rfl) (optCs (w.heap.size + 1)) hblt ?_)
  refine hrep'.out.mono ?_
  rintro e w5 ⟨h | ⟨hsb, a, rfl⟩, hC5⟩
  · obtain ⟨hs, hbd, A, k, cv, tb, rfl, htb⟩ := h
    have hr5 := hr4'.out.ch hC5 (by simp; omega)
    have f0 := hr5.free 0
    have f1 := hr5.free 1
    have f2 := hr5.free 2
    have f3 := hr5.free 3
    have r0 := hr5.cell 0
    have r1 := hr5.cell 1
    have r2 := hr5.cell 2
    have r3 := hr5.cell 3
    simp at r0 r1 r2 r3
    have hCW5 : Ch [] w w5 := hC24'.out.trans' hC5 (fun k hk => .inr (by simp at hk; omega))
    have htl := htb.noTy
    have hr5' := Lib.hid hr5
    have hC5' := Lib.hid hC5
    have htb' := Lib.hid htb
    have hCW5' := Lib.hid hCW5
    clear hCW5 htb hC5 hr5
    go_wp2_with fail
    obtain ⟨WE, hWE⟩ : ∃ WW, (((w5.setCell ⟨w.heap.size, 0, none⟩ (.slice A k cv)).setCell ⟨w.heap.size, 1, none⟩ (.map (some tb))).setCell ⟨w.heap.size, 2, none⟩ (.int .i64 ((bok0.run Ls.flatten).made : Int))).setCell ⟨w.heap.size, 3, none⟩ (.int .i64 ((bok0.run Ls.flatten).dropped : Int)) = WW := ⟨_, rfl⟩
    have hE : Bk WE w.heap.size 57 #[.slice A k cv, .map (some tb), .int .i64 ((bok0.run Ls.flatten).made : Int), .int .i64 ((bok0.run Ls.flatten).dropped : Int)] := by rw [← hWE]; simpa using (((hr5'.out.set 0 (.slice A k cv)).set 1 (.map (some tb))).set 2 (.int .i64 ((bok0.run Ls.flatten).made : Int))).set 3 (.int .i64 ((bok0.run Ls.flatten).dropped : Int))
    have hCE : Ch [w.heap.size] w5 WE := by rw [← hWE]; exact (((((Ch.refl [w.heap.size] w5).setCell (p := ⟨w.heap.size, 0, none⟩) (.inl (by simp)) _).setCell (p := ⟨w.heap.size, 1, none⟩) (.inl (by simp)) _).setCell (p := ⟨w.heap.size, 2, none⟩) (.inl (by simp)) _).setCell (p := ⟨w.heap.size, 3, none⟩) (.inl (by simp)) _)
    have e0 := hE.cell 0
    have e1 := hE.cell 1
    have e2 := hE.cell 2
    have e3 := hE.cell 3
    simp at e0 e1 e2 e3
    rw [hWE]
    refine bodyPost_ret (v := .tuple #[.agg #[.slice A k cv, .map (some tb), .int .i64 ((bok0.run Ls.flatten).made : Int), .int .i64 ((bok0.run Ls.flatten).dropped : Int)], .int .i64 ((8 + (setsB Ls).length : Nat) : Int), .nilIface]) (by simp [results, Tryd.results19, go_sem, e0, e1, e2, e3]) rfl ?_
    exact ⟨.inl ⟨hs, hbd, A, k, cv, tb, rfl, htb'.out.ch hCE (by simp; exact fun h => htb'.out.noTy _ (h ▸ hr5'.out.ty))⟩, hCW5'.out.trans' hCE (fun k hk => .inr (by simp at hk; omega))⟩
  · have hr5 := hr4'.out.ch hC5 (by simp; omega)
    have f0 := hr5.free 0
    have f1 := hr5.free 1
    have f2 := hr5.free 2
    have f3 := hr5.free 3
    have r0 := hr5.cell 0
    have r1 := hr5.cell 1
    have r2 := hr5.cell 2
    have r3 := hr5.cell 3
    simp at r0 r1 r2 r3
    have hCW5 : Ch [] w w5 := hC24'.out.trans' hC5 (fun k hk => .inr (by simp at hk; omega))
    have hr5' := Lib.hid hr5
    have hC5' := Lib.hid hC5
    have hCW5' := Lib.hid hCW5
    clear hCW5 hC5 hr5
    go_wp2_with fail
    obtain ⟨WE, hWE⟩ : ∃ WW, (((w5.setCell ⟨w.heap.size, 0, none⟩ (.slice none 0 0)).setCell ⟨w.heap.size, 1, none⟩ (.map none)).setCell ⟨w.heap.size, 2, none⟩ (.int .i64 0)).setCell ⟨w.heap.size, 3, none⟩ (.int .i64 0) = WW := ⟨_, rfl⟩
    have hE : Bk WE w.heap.size 57 #[.slice none 0 0, .map none, .int .i64 0, .int .i64 0] := by rw [← hWE]; simpa using (((hr5'.out.set 0 (.slice none 0 0)).set 1 (.map none)).set 2 (.int .i64 0)).set 3 (.int .i64 0)
    have hCE : Ch [w.heap.size] w5 WE := by rw [← hWE]; exact (((((Ch.refl [w.heap.size] w5).setCell (p := ⟨w.heap.size, 0, none⟩) (.inl (by simp)) _).setCell (p := ⟨w.heap.size, 1, none⟩) (.inl (by simp)) _).setCell (p := ⟨w.heap.size, 2, none⟩) (.inl (by simp)) _).setCell (p := ⟨w.heap.size, 3, none⟩) (.inl (by simp)) _)
    have e0 := hE.cell 0
    have e1 := hE.cell 1
    have e2 := hE.cell 2
    have e3 := hE.cell 3
    simp at e0 e1 e2 e3
    rw [hWE]
    refine bodyPost_ret (v := .tuple #[.agg #[.slice none 0 0, .map none, .int .i64 0, .int .i64 0], .int .i64 0, .iface 119 (.pointer (some a))]) (by simp [results, Tryd.results19, go_sem, e0, e1, e2, e3]) rfl ?_
    exact ⟨.inr ⟨hsb, a, rfl⟩, hCW5'.out.trans' hCE (fun k hk => .inr (by simp at hk; omega))⟩
end Go.Proofs.YtkjgkjmaoebeoaaDoor
