/-
  applyManifestChange: a table is made.
-/
import Derived.Deep.CutBlock
import Derived.Deep.DeepCutAuto
import Derived.Test.YtkjgkjmaoebeoaaDoorMtb
import Derived.Test.YtkjgkjmaoebeoaaDoorRow
import Derived.Test.YtkjgkjmaoebeoaaDoorWt
namespace Go.Proofs.YtkjgkjmaoebeoaaDoor
open Go Go.RowKit
open Go.Proofs

/-- A manifest in memory: its own block, its tables' map, as many levels as it has, what tables there are. -/
structure Man (B mb tb k : Nat) (f : Nat → Option Nat) (n m made dropped : Nat) (w : World) : Prop where
  cells : ∃ lv, Bk w mb 57 #[lv, .map (some tb), .int .i64 (made : Int), .int .i64 (dropped : Int)] ∧ ∃ bs : List Nat, w.ownsRow B 156 1 lv k (bs.map fun b => .map (some b)) ∧ ∀ b, b ∈ bs → b ≠ tb ∧ B ≤ b ∧ SetAt w b m
  tab : TabAt w tb f n
  lim : ∀ g l, f g = some l → l < k
  few : k ≤ 7
  hB : B ≤ mb ∧ B ≤ tb

/-- What may turn while a manifest turns. -/
def ManS (B : Nat) (w : World) (S : List Nat) : Prop := (∀ b, b ∈ S → B ≤ b) ∧ ∀ b t, TyAt w b t → t ≠ 57 → t ≠ 156 → b ∉ S

/-- A change of a manifest. -/
def chC (id op lev : Nat) : Array Value := #[.int .u64 (id : Int), .int .i32 (op : Int), .int .u32 (lev : Int), .int .u64 0, .int .i32 0, .int .u32 0]

theorem TabAt.noTy {w : World} {b n : Nat} {f : Nat → Option Nat} (h : TabAt w b f n) (t : TypeId) : ¬ TyAt w b t := fun ⟨cs, hc⟩ => by
  obtain ⟨D, ⟨es, clock, hb, _⟩, _⟩ := h
  rw [hb] at hc
  cases hc
theorem SetAt.noTy {w : World} {b n : Nat} (h : SetAt w b n) (t : TypeId) : ¬ TyAt w b t := fun ⟨cs, hc⟩ => by
  obtain ⟨D, es, clock, hb, _⟩ := h
  rw [hb] at hc
  cases hc

section
variable {w w' w6 : World} {B mb k n : Nat} {lv : Value} {xs : List Value} {cs : Array Value}
theorem manQ {l : List Nat} (h1 : Ch l w w6) (h2 : Ch [mb] w6 w') : Ch (l ++ [mb]) w w' := (h1.mono fun _ hy => .inl (List.mem_append_left _ hy)).trans' h2 fun _ hy => .inl (List.mem_append_right _ hy)
theorem manNo (ho : w.ownsRow B 156 1 lv k xs) (hm : Bk w mb 57 cs) : ∀ b, (∀ t, ¬ TyAt w b t) → b ∉ lv.ownBlock.toList ++ [mb] := fun b hb h => by
  rcases List.mem_append.1 h with h | h
  · exact hb _ (own_ty ho (by simpa using h))
  · simp at h
    subst h
    exact hb _ hm.ty
theorem manTy (ho : w.ownsRow B 156 1 lv k xs) (hm : Bk w mb 57 cs) : ∀ b t, TyAt w b t → t ≠ 57 → t ≠ 156 → b ∉ lv.ownBlock.toList ++ [mb] := fun b t hb h1 h2 h => by
  rcases List.mem_append.1 h with h | h
  · exact hb.ne (own_ty ho (by simpa using h)) h2 rfl
  · simp at h
    exact hb.ne hm.ty h1 h
end

set_option maxHeartbeats 4000000 in
set_option maxRecDepth 20000 in
theorem applyCreate_any (B mb tb k : Nat) (f : Nat → Option Nat) (n m made dropped cb id lev : Nat) (O : Array Value) (w : World) (hM : Man B mb tb k f n m made dropped w) (hc : Bk w cb 131 (chC id 0 lev)) (hf : f id = none) (hid : id < 1000000) (hlev : lev ≤ 6)
    (hn : n < 1000000) (hm : m < 1000000) (hmade : made < 1000000) :
    Calls Tryd.prog 48 #[.pointer (some ⟨mb, 0, none⟩), .pointer (some ⟨cb, 0, none⟩), .agg O] w fun e w' => e = .returned .nilIface ∧
      ∃ k', k ≤ k' ∧ Man B mb tb k' (fun x => if x = id then some lev else f x) (n + 1) (m + 1) (made + 1) dropped w' ∧ ∃ S, Ch S w w' ∧ ManS B w S := by
  obtain ⟨⟨lv, hmb, bs, hown, hbs⟩, htab, hlim, hfew, hBm, hBt⟩ := hM
  obtain ⟨W0, hW0⟩ : ∃ W, w.alloc (.cells O 81) = W := ⟨_, rfl⟩
  have hC0 : Ch [] w W0 := by rw [← hW0]; exact (Ch.refl [] w).alloc _
  have hoc : (Value.agg O).cells = O := rfl
  have hmb0 := hmb.ch hC0 (by simp)
  have hc0 := hc.ch hC0 (by simp)
  have htab0 := htab.ch hC0 (by simp)
  have hown0 := own_ch hown hC0 (fun g _ hm => by cases hm)
  have b1 := hmb0.cell 1
  have b0 := hmb0.cell 0
  have t0 := hc0.cell 0
  have t1 := hc0.cell 1
  have t2 := hc0.cell 2
  have t3 := hc0.cell 3
  have t5 := hc0.cell 5
  simp [chC] at b1 b0 t0 t1 t2 t3 t5
  have hlA : (Instr.lookup 55 (.map (some tb)) (.int .u64 (id : Int)) true).run Tryd.prog W0.drew = .ok (.tuple #[tmV 0, .bool false]) W0.drew := by
    have h := (htab0.ch ((Ch.refl [] W0).drew) (by simp)).look_ok (g := id) (by omega)
    rw [hf] at h
    exact h
  have hlB : ∀ o, (Instr.lookup 55 (.map (some tb)) (.int .u64 (id : Int)) true).run Tryd.prog (W0.alloc o).drew = .ok (.tuple #[tmV 0, .bool false]) (W0.alloc o).drew := fun o => by
    have h := (htab0.ch (((Ch.refl [] W0).alloc o).drew) (by simp)).look_ok (g := id) (by omega)
    rw [hf] at h
    exact h
  have hlC : ∀ o, (Instr.lookup 55 (.map (some tb)) (.int .u64 (id : Int)) true).run Tryd.prog (W0.drew.alloc o) = .ok (.tuple #[tmV 0, .bool false]) (W0.drew.alloc o) := fun o => by
    have h := (htab0.ch (((Ch.refl [] W0).drew).alloc o) (by simp)).look_ok (g := id) (by omega)
    rw [hf] at h
    exact h
  have t0a : ∀ o, (W0.alloc o).cell? ⟨cb, 0, none⟩ = some (.int .u64 (id : Int)) := fun o => (hc0.alloc o).cell 0
  have b1a : ∀ o, (W0.alloc o).cell? ⟨mb, 1, none⟩ = some (.map (some tb)) := fun o => (hmb0.alloc o).cell 1
  unfold tmV at *
  have hmb' := Lib.hid hmb
  have hc' := Lib.hid hc
  have htab' := Lib.hid htab
  have hown' := Lib.hid hown
  have hmb0' := Lib.hid hmb0
  have hc0' := Lib.hid hc0
  have htab0' := Lib.hid htab0
  have hown0' := Lib.hid hown0
  have hbs' := Lib.hid hbs
  have hlim' := Lib.hid hlim
  have hC0' := Lib.hid hC0
  clear hC0 hlim hbs hown0 htab0 hc0 hmb0 hown htab hc hmb
  go_enter Tryd.func48, Tryd.ntmps48
  go_upto_region 4 with fail
  go_cut [7, 8] (fun s7 s8 wx => s8 = .bool false ∧ Ch [] W0 wx)
  case first =>
    go_region
    all_goals
      go_wp2_with fail
      go_meet
      exact ⟨rfl, by first | exact ((Ch.refl [] W0).alloc _).drew | exact ((Ch.refl [] W0).drew).alloc _⟩
  case rest =>
  obtain ⟨rfl, hC1⟩ := hcut
  have hmb1 := hmb0'.out.ch hC1 (by simp)
  have hc1 := hc0'.out.ch hC1 (by simp)
  have htab1 := htab0'.out.ch hC1 (by simp)
  have hown1 := own_ch hown0'.out hC1 (fun g _ hm => by cases hm)
  clear b1 b0 t0 t1 t2 t3 t5 t0a b1a hlA hlB hlC
  have b1 := hmb1.cell 1
  have t0 := hc1.cell 0
  have t2 := hc1.cell 2
  have t3 := hc1.cell 3
  have t5 := hc1.cell 5
  simp [chC] at b1 t0 t2 t3 t5
  have u8l : IntKind.u8.wrap (lev : Int) = (lev : Int) := IntWalk.u8_in _ (by omega)
  obtain ⟨w2, hput, htab2, hC2⟩ := (htab1.ch ((Ch.refl [] wc).drew) (by simp)).put (by omega) (g := id) (v := lev) (by omega)
  unfold tmV at hput
  have hmb2 := hmb1.drew.ch hC2 (by simp; exact fun h => htab1.noTy _ (h ▸ hmb1.ty))
  have hc2 := hc1.drew.ch hC2 (by simp; exact fun h => htab1.noTy _ (h ▸ hc1.ty))
  have hmb1' := Lib.hid hmb1
  have hc1' := Lib.hid hc1
  have htab1' := Lib.hid htab1
  have hown1' := Lib.hid hown1
  have hC1' := Lib.hid hC1
  have htab2' := Lib.hid htab2
  have hC2' := Lib.hid hC2
  have hmb2' := Lib.hid hmb2
  have hc2' := Lib.hid hc2
  clear hc2 hmb2 hC2 htab2 hC1 hown1 htab1 hc1 hmb1
  go_upto_region 7 with fail
  refine wp_tail 22 (by kernel_rfl) (by kernel_rfl) ?_
  simp only [List.take_succ_cons, List.take_zero, List.drop_succ_cons, List.drop_zero]
  repeat still_step
  refine wpStill_nil ?_
  go_wp2_with fail
  go_loopw [] (fun wx => ∃ (k' : Nat) (lv' : Value) (bs' : List Nat), k ≤ k' ∧ k' ≤ 7 ∧ Bk wx mb 57 #[lv', .map (some tb), .int .i64 (made : Int), .int .i64 (dropped : Int)] ∧ wx.ownsRow B 156 1 lv' k' (bs'.map fun b => .map (some b)) ∧ (∀ b, b ∈ bs' → b ≠ tb ∧ B ≤ b ∧ SetAt wx b m) ∧
      TabAt wx tb (fun x => if x = id then some lev else f x) (n + 1) ∧ Bk wx cb 131 (chC id 0 lev) ∧ ∃ S, Ch S w wx ∧ ManS B w S)
    (fun wx => match wx.cell? ⟨mb, 0, none⟩ with
      | some (.slice _ len _) => 8 - len
      | _ => 0)
  case atStart =>
    have hb0 : ∀ b, b ∈ bs → b ≠ tb := fun b hb => (hbs'.out b hb).1
    refine ⟨k, lv, bs, Nat.le_refl _, hfew, hmb2'.out, own_ch (own_ch hown1'.out ((Ch.refl [] wc).drew) (fun g _ hm => by cases hm)) hC2'.out (fun g hg hm => ?_), fun b hb => ?_, htab2'.out, hc2'.out, [tb], ?_, ?_⟩
    · simp at hm
      subst hm
      exact htab1'.out.noTy _ (own_ty hown1'.out hg)
    · obtain ⟨h1, h2, h3⟩ := hbs'.out b hb
      exact ⟨h1, h2, (((h3.ch hC0'.out (by simp)).ch hC1'.out (by simp)).ch ((Ch.refl [] wc).drew) (by simp)).ch hC2'.out (by simpa using h1)⟩
    · exact ((((hC0'.out.mono (S' := [tb]) (by simp)).trans (hC1'.out.mono (by simp))).drew).trans hC2'.out)
    · exact ⟨fun b hb => by simp at hb; subst hb; exact hBt, fun b t hb _ _ => by simp; rintro rfl; exact htab'.out.noTy _ hb⟩
  case round =>
    obtain ⟨k', lv', bs', hkk, hk7, hmbr, hownr, hbsr, htabr, hcr, S, hCr, hSr⟩ := hrel
    obtain ⟨av, cv, rfl⟩ := own_form hownr
    have b0 := hmbr.cell 0
    have f0 := hmbr.free 0
    have t2 := hcr.cell 2
    simp [chC] at b0 t2
    have i64l : IntKind.i64.wrap (lev : Int) = (lev : Int) := IntWalk.i64_in _ (by omega)
    by_cases hlt : k' ≤ lev
    · have hltI : (k' : Int) ≤ (lev : Int) := by omega
      have hmm := @run_makeMap Tryd.prog
      have hBr : B ≤ wr.heap.size := Nat.le_trans hBm (Nat.le_of_lt hmbr.lt)
      have hmlt := hmbr.lt
      have hmbr' := Lib.hid hmbr
      have hownr' := Lib.hid hownr
      have hbsr' := Lib.hid hbsr
      have htabr' := Lib.hid htabr
      have hcr' := Lib.hid hcr
      have hCr' := Lib.hid hCr
      have hSr' := Lib.hid hSr
      clear hSr hCr hcr htabr hbsr hownr hmbr
      go_wp2_with fail
      go_quiet (fail)
      obtain ⟨X2, hX2⟩ : ∃ W, ((wr.drewN nq).alloc (.map #[] 0)).alloc (.cells #[.map (some wr.heap.size)] 156) = W := ⟨_, rfl⟩
      have hCX : Ch [] wr X2 := by rw [← hX2]; exact (((Ch.refl [] wr).drewN nq).alloc _).alloc _
      have hownX := own_ch hownr'.out hCX (fun g _ hm => by cases hm)
      have hmbX := hmbr'.out.ch hCX (by simp)
      have hnX : Bk X2 (wr.heap.size + 1) 156 #[.map (some wr.heap.size)] := by rw [← hX2]; exact Bk.at_ _ _ _ _ (by simp)
      have hsX : SetAt X2 wr.heap.size m := by
        rw [← hX2]
        have h0 := SetAt.made (wr.drewN nq)
        exact ((h0.ch ((Ch.refl [] _).alloc _) (by simp)).more (Nat.zero_le _))
      have hn1 : mb ∉ (Value.slice av k' cv).ownBlock.toList := ty_notin hownX hmbX.ty (by decide)
      have hBX := Nat.le_trans hBr hCX.size
      have hCX' := Lib.hid hCX
      have hownX' := Lib.hid hownX
      have hmbX' := Lib.hid hmbX
      have hnX' := Lib.hid hnX
      have hsX' := Lib.hid hsX
      have hn1' := Lib.hid hn1
      have hBX' := Lib.hid hBX
      clear hBX hn1 hsX hnX hmbX hownX hCX
      go_wp2_with (at_builtin; refine wpList_append1 rfl (.tmp 71) (.tmp 74) 54 rfl B 156 1 Tryd.underlying54 (by kernel_rfl) (by omega) (.slice av k' cv) k' (bs'.map fun b => .map (some b)) rfl hownX'.out (wr.heap.size + 1) 1 [.map (some wr.heap.size)] rfl rfl hnX'.out (by intro u hu; simp at hu; subst hu; rfl) (by omega) hBX'.out ?_; intro A' c' w6 hown6 hc6 hat6; have hmb6 := hmbX'.out.ch hc6 hn1'.out; have d0 := hmb6.cell 0; have g0 := hmb6.free 0; simp at d0; have hmb6' := Lib.hid hmb6; have hown6' := Lib.hid hown6; have hc6' := Lib.hid hc6; clear hmb6 hown6 hc6 hat6)
      have hC7 : Ch [mb] w6 (w6.setCell ⟨mb, 0, none⟩ (.slice A' (k' + 1) c')) := (Ch.refl [mb] w6).setCell (p := ⟨mb, 0, none⟩) (.inl (by simp)) _
      have hmb7 : Bk (w6.setCell ⟨mb, 0, none⟩ (.slice A' (k' + 1) c')) mb 57 #[.slice A' (k' + 1) c', .map (some tb), .int .i64 (made : Int), .int .i64 (dropped : Int)] := by simpa using hmb6'.out.set 0 (.slice A' (k' + 1) c')
      have hc7 := hmb7.cell 0
      simp at hc7
      have hC7' := Lib.hid hC7
      have hmb7' := Lib.hid hmb7
      clear hmb7 hC7
      go_roundw
      case rel =>
        have hQ := manQ hc6'.out hC7'.out
        have hnoS := manNo hownX'.out hmbX'.out
        have hTyS := manTy hownX'.out hmbX'.out
        have hsets : ∀ b, b ∈ bs' → b ≠ tb ∧ B ≤ b ∧ SetAt X2 b m := fun b hb => by
          obtain ⟨h1, h2, h3⟩ := hbsr'.out b hb
          exact ⟨h1, h2, h3.ch hCX'.out (by simp)⟩
        have htX := htabr'.out.ch hCX'.out (by simp)
        have hcX := hcr'.out.ch hCX'.out (by simp)
        refine ⟨k' + 1, _, bs' ++ [wr.heap.size], by omega, by omega, hmb7'.out, ?_, fun b hb => ?_, htX.ch hQ (hnoS _ fun t => htX.noTy t), hcX.ch hQ (hTyS _ _ hcX.ty (by decide) (by decide)), S ++ ((Value.slice av k' cv).ownBlock.toList ++ [mb]),
          ((hCr'.out.trans' hCX'.out (by simp)).mono fun y hy => .inl (List.mem_append_left _ hy)).trans' hQ (fun y hy => .inl (List.mem_append_right _ hy)), ?_, ?_⟩
        · rw [List.map_append]
          refine own_ch hown6'.out hC7'.out (fun g hg => by simpa using (own_ty hown6'.out hg).ne hmb6'.out.ty (by decide))
        · rcases List.mem_append.1 hb with h0 | h0
          · obtain ⟨h1, h2, h3⟩ := hsets b h0
            exact ⟨h1, h2, h3.ch hQ (hnoS _ fun t => h3.noTy t)⟩
          · simp at h0
            subst h0
            exact ⟨fun e => by have := htabr'.out.lt; omega, hBr, hsX'.out.ch hQ (hnoS _ fun t => hsX'.out.noTy t)⟩
        · intro b hb
          rcases List.mem_append.1 hb with h0 | h0
          · exact hSr'.out.1 b h0
          · rcases List.mem_append.1 h0 with h1 | h1
            · exact (hownX'.out.lt b (by simpa using h1)).1
            · simp at h1
              subst h1
              exact hBm
        · intro b t hb h1 h2 h3
          rcases List.mem_append.1 h3 with h0 | h0
          · exact hSr'.out.2 b t hb h1 h2 h0
          · exact hTyS b t ((hb.ch hCr'.out (hSr'.out.2 b t hb h1 h2)).ch hCX'.out (by simp)) h1 h2 h0
      case measure =>
        rw [hc7, b0]
        simp
        omega
    · have hltI : ¬ (k' : Int) ≤ (lev : Int) := by omega
      have hlen : bs'.length = k' := by
        have h0 := hownr.1
        simp at h0
        exact h0
      have hl2 : lev < bs'.length := by omega
      obtain ⟨bl, hbl⟩ : ∃ b, bs'[lev]? = some b := ⟨_, List.getElem?_eq_getElem hl2⟩
      obtain ⟨gl, rfl, _, cl⟩ := own_cell hownr (o := lev) (x := .map (some bl)) (by simp [hbl])
      have hl2I : (lev : Int) < (k' : Int) := by omega
      have hl0 : (0 : Int) ≤ (lev : Int) := by omega
      have hlk : lev < k' := by omega
      have hmem : bl ∈ bs' := List.mem_of_getElem? hbl
      obtain ⟨hb1, hb2, hb3⟩ := hbsr bl hmem
      have t0 := hcr.cell 0
      simp [chC] at t0
      have m1 : IntKind.i64.wrap ((made : Int) + 1) = ((made + 1 : Nat) : Int) := (IntWalk.i64_in _ (by omega)).trans (by omega)
      clear hbl hlen hl2
      have hmbr' := Lib.hid hmbr
      have hownr' := Lib.hid hownr
      have hbsr' := Lib.hid hbsr
      have htabr' := Lib.hid htabr
      have hcr' := Lib.hid hcr
      have hCr' := Lib.hid hCr
      have hSr' := Lib.hid hSr
      have hb3' := Lib.hid hb3
      have hmem' := Lib.hid hmem
      clear hmem hb3 hSr hCr hcr htabr hbsr hownr hmbr
      go_wp2_with fail
      go_quiet (fail)
      obtain ⟨w5, hput5, hs5, hC5⟩ := (hb3'.out.ch ((Ch.refl [] wr).drewN (nq + 1)) (by simp)).put (by omega) (g := id) (by omega)
      have hnm : mb ∉ [bl] := by simp; rintro rfl; exact hb3'.out.noTy _ hmbr'.out.ty
      have hmb5 := (hmbr'.out.drewN (nq + 1)).ch hC5 hnm
      have b2 := hmb5.cell 2
      have f2 := hmb5.free 2
      simp at b2
      have hs5' := Lib.hid hs5
      have hC5' := Lib.hid hC5
      have hmb5' := Lib.hid hmb5
      clear hmb5 hC5 hs5
      go_upto_region 10 with fail
      refine wp_tail 16 (by kernel_rfl) (by kernel_rfl) ?_
      simp only [List.take_succ_cons, List.take_zero, List.drop_succ_cons, List.drop_zero]
      repeat still_step
      refine wpStill_nil ?_
      go_wp2_with fail
      go_ret
      have hCd : Ch [] wr (wr.drewN (nq + 1)) := (Ch.refl [] wr).drewN _
      have hC8 : Ch [mb] w5 (w5.setCell ⟨mb, 2, none⟩ (.int .i64 ((made + 1 : Nat) : Int))) := (Ch.refl [mb] w5).setCell (p := ⟨mb, 2, none⟩) (.inl (by simp)) _
      have hQ : Ch ([bl] ++ [mb]) wr (w5.setCell ⟨mb, 2, none⟩ (.int .i64 ((made + 1 : Nat) : Int))) := (((hCd.mono (S' := [bl] ++ [mb]) (by simp)).trans' hC5'.out (fun y hy => .inl (List.mem_append_left _ hy)))).trans' hC8 (fun y hy => .inl (List.mem_append_right _ hy))
      have hnoM : ∀ b, (∀ t, ¬ TyAt wr b t) → b ≠ mb := fun b hb h => hb _ (h ▸ hmbr'.out.ty)
      have hnoB : ∀ b t, TyAt wr b t → b ≠ bl := fun b t hb h => hb3'.out.noTy t (h ▸ hb)
      refine ⟨rfl, k', hkk, ⟨⟨_, by simpa using hmb5'.out.set 2 (.int .i64 ((made + 1 : Nat) : Int)), bs', own_ch hownr'.out hQ (fun g hg => ?_), fun b hb => ?_⟩, htabr'.out.ch hQ ?_, ?_, hk7, hBm, hBt⟩, S ++ ([bl] ++ [mb]), ?_, ?_, ?_⟩
      · have h0 := own_ty hownr'.out hg
        simp
        exact ⟨hnoB _ _ h0, h0.ne hmbr'.out.ty (by decide)⟩
      · obtain ⟨h1, h2, h3⟩ := hbsr'.out b hb
        refine ⟨h1, h2, ?_⟩
        by_cases e : b = bl
        · subst e
          exact hs5'.out.ch hC8 (by simpa using hnoM _ fun t => h3.noTy t)
        · exact (h3.ch hQ (by simp; exact ⟨e, hnoM _ fun t => h3.noTy t⟩)).more (Nat.le_succ _)
      · simp
        exact ⟨fun h => hb1 h.symm, hnoM _ fun t => htabr'.out.noTy t⟩
      · intro g l hgl
        by_cases e : g = id
        · rw [if_pos e] at hgl
          injection hgl with hgl
          omega
        · rw [if_neg e] at hgl
          exact Nat.lt_of_lt_of_le (hlim'.out g l hgl) hkk
      · exact (hCr'.out.mono fun y hy => .inl (List.mem_append_left _ hy)).trans' hQ fun y hy => .inl (List.mem_append_right _ hy)
      · intro b hb
        rcases List.mem_append.1 hb with h0 | h0
        · exact hSr'.out.1 b h0
        · simp at h0
          rcases h0 with rfl | rfl
          · exact hb2
          · exact hBm
      · intro b t hb h1 h2 h3
        have hbr := hb.ch hCr'.out (hSr'.out.2 b t hb h1 h2)
        rcases List.mem_append.1 h3 with h0 | h0
        · exact hSr'.out.2 b t hb h1 h2 h0
        · simp at h0
          rcases h0 with h0 | h0
          · exact hnoB b t hbr h0
          · exact hbr.ne hmbr'.out.ty h1 h0
end Go.Proofs.YtkjgkjmaoebeoaaDoor
