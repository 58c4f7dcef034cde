/-
  applyManifestChange: a table goes.
-/
import Derived.Test.YtkjgkjmaoebeoaaDoorMap
namespace Go.Proofs.YtkjgkjmaoebeoaaDoor
open Go Go.RowKit
open Go.Proofs

/-- The last word of a dropping: one more is counted. -/
theorem manDrop {B mb tb k n m made dropped id : Nat} {f : Nat → Option Nat} {lv : Value} {bs S : List Nat} {w W : World} (hmb0 : TyAt w mb 57) (hmb : Bk W mb 57 #[lv, .map (some tb), .int .i64 (made : Int), .int .i64 (dropped : Int)])
    (hown : W.ownsRow B 156 1 lv k (bs.map fun b => .map (some b))) (hbs : ∀ b, b ∈ bs → b ≠ tb ∧ B ≤ b ∧ SetAt W b m) (htab : TabAt W tb (fun x => if x = id then none else f x) n) (hlim : ∀ g l, f g = some l → l < k) (hfew : k ≤ 7) (hBm : B ≤ mb) (hBt : B ≤ tb)
    (hC : Ch S w W) (hS : ManS B w S) :
    Man B mb tb k (fun x => if x = id then none else f x) n m made (dropped + 1) (W.setCell ⟨mb, 3, none⟩ (.int .i64 ((dropped + 1 : Nat) : Int))) ∧ ∃ S, Ch S w (W.setCell ⟨mb, 3, none⟩ (.int .i64 ((dropped + 1 : Nat) : Int))) ∧ ManS B w S := by
  have hC8 : Ch [mb] W (W.setCell ⟨mb, 3, none⟩ (.int .i64 ((dropped + 1 : Nat) : Int))) := (Ch.refl [mb] W).setCell (p := ⟨mb, 3, none⟩) (.inl (by simp)) _
  have hno : ∀ b, (∀ t, ¬ TyAt W b t) → b ∉ [mb] := fun b hb h => by
    simp at h
    subst h
    exact hb _ hmb.ty
  refine ⟨⟨⟨lv, by simpa using hmb.set 3 (.int .i64 ((dropped + 1 : Nat) : Int)), bs, own_ch hown hC8 (fun g hg => by simpa using (own_ty hown hg).ne hmb.ty (by decide)), fun b hb => ?_⟩, htab.ch hC8 (hno _ fun t => htab.noTy t), fun g l hg => ?_, hfew, hBm, hBt⟩, S ++ [mb], manQ hC hC8, fun b hb => ?_, fun b t hb h1 h2 h3 => ?_⟩
  · obtain ⟨h1, h2, h3⟩ := hbs b hb
    exact ⟨h1, h2, h3.ch hC8 (hno _ fun t => h3.noTy t)⟩
  · split at hg
    · cases hg
    · exact hlim g l hg
  · rcases List.mem_append.1 hb with h0 | h0
    · exact hS.1 b h0
    · simp at h0
      subst h0
      exact hBm
  · rcases List.mem_append.1 h3 with h0 | h0
    · exact hS.2 b t hb h1 h2 h0
    · simp at h0
      exact hb.ne hmb0 h1 h0

set_option maxHeartbeats 4000000 in
set_option maxRecDepth 20000 in
theorem applyDelete_any (B mb tb k : Nat) (f : Nat → Option Nat) (n m made dropped cb id lev : Nat) (O : Array Value) (w : World) (hM : Man B mb tb k f n m made dropped w) (hc : Bk w cb 131 (chC id 1 lev)) (hid : id < 1000000)
    (hdr : dropped < 1000000) :
    Calls Tryd.prog 48 #[.pointer (some ⟨mb, 0, none⟩), .pointer (some ⟨cb, 0, none⟩), .agg O] w fun e w' => e = .returned .nilIface ∧
      Man B mb tb k (fun x => if x = id then none else f x) n m made (dropped + 1) w' ∧ ∃ S, Ch S w w' ∧ ManS B w S := by
  obtain ⟨⟨lv, hmb, bs, hown, hbs⟩, htab, hlim, hfew, hBm, hBt⟩ := hM
  obtain ⟨W0, hW0⟩ : ∃ W, w.alloc (.cells O 81) = W := ⟨_, rfl⟩
  have hC0 : Ch [] w W0 := by rw [← hW0]; exact (Ch.refl [] w).alloc _
  have hoc : (Value.agg O).cells = O := rfl
  have hmb0 := hmb.ch hC0 (by simp)
  have hc0 := hc.ch hC0 (by simp)
  have htab0 := htab.ch hC0 (by simp)
  have hown0 := own_ch hown hC0 (fun g _ hm => by cases hm)
  have b1 := hmb0.cell 1
  have t0 := hc0.cell 0
  have t1 := hc0.cell 1
  simp [chC] at b1 t0 t1
  have t0a : ∀ o, (W0.alloc o).cell? ⟨cb, 0, none⟩ = some (.int .u64 (id : Int)) := fun o => (hc0.alloc o).cell 0
  have b1a : ∀ o, (W0.alloc o).cell? ⟨mb, 1, none⟩ = some (.map (some tb)) := fun o => (hmb0.alloc o).cell 1
  have hlA := (htab0.ch ((Ch.refl [] W0).drew) (by simp)).look_ok (g := id) (by omega)
  have hlB := fun o => (htab0.ch (((Ch.refl [] W0).alloc o).drew) (by simp)).look_ok (g := id) (by omega)
  have hlC := fun o => (htab0.ch (((Ch.refl [] W0).drew).alloc o) (by simp)).look_ok (g := id) (by omega)
  have hd1 : IntKind.i64.wrap ((dropped : Int) + 1) = ((dropped + 1 : Nat) : Int) := (IntWalk.i64_in _ (by omega)).trans (by omega)
  obtain ⟨l0, hl0⟩ : ∃ l, (f id).getD 0 = l := ⟨_, rfl⟩
  obtain ⟨P, hP⟩ : ∃ p, (f id).isSome = p := ⟨_, rfl⟩
  rw [hl0, hP] at hlA
  simp only [hl0, hP] at hlB hlC
  unfold tmV at *
  have hmb' := Lib.hid hmb
  have hc' := Lib.hid hc
  have htab' := Lib.hid htab
  have hown' := Lib.hid hown
  have hmb0' := Lib.hid hmb0
  have hc0' := Lib.hid hc0
  have htab0' := Lib.hid htab0
  have hown0' := Lib.hid hown0
  have hbs' := Lib.hid hbs
  have hlim' := Lib.hid hlim
  have hC0' := Lib.hid hC0
  have hl0' := Lib.hid hl0
  have hP' := Lib.hid hP
  clear hP hl0 hC0 hlim hbs hown0 htab0 hc0 hmb0 hown htab hc hmb
  go_enter Tryd.func48, Tryd.ntmps48
  go_upto_region 13 with fail
  go_cut [9, 10] (fun s9 s10 wx => s9 = .pointer (some ⟨W0.heap.size, 0, none⟩) ∧ s10 = .bool P ∧ Bk wx W0.heap.size 65 #[.int .u8 (l0 : Int), .int .u64 0, .int .u32 0] ∧ Ch [] W0 wx)
  case first =>
    go_region
    all_goals
      go_wp2_with fail
      go_meet
      exact ⟨rfl, rfl, by first | exact (Bk.at_ _ _ _ _ rfl).drew | exact Bk.at_ _ _ _ _ rfl, by first | exact ((Ch.refl [] W0).alloc _).drew | exact ((Ch.refl [] W0).drew).alloc _⟩
  case rest =>
  obtain ⟨rfl, rfl, hbox, hC1⟩ := hcut
  have hC01 := hC0'.out.trans hC1
  have hmb1 := hmb0'.out.ch hC1 (by simp)
  have hc1 := hc0'.out.ch hC1 (by simp)
  have htab1 := htab0'.out.ch hC1 (by simp)
  have hown1 := own_ch hown0'.out hC1 (fun g _ hm => by cases hm)
  have hbs1 : ∀ b, b ∈ bs → b ≠ tb ∧ B ≤ b ∧ SetAt wc b m := fun b hb => by
    obtain ⟨h1, h2, h3⟩ := hbs'.out b hb
    exact ⟨h1, h2, h3.ch hC01 (by simp)⟩
  clear b1 t0 t1 t0a b1a hlA hlB hlC
  obtain ⟨av, cv, rfl⟩ := own_form hown1
  have b0 := hmb1.cell 0
  have b1 := hmb1.cell 1
  have t0 := hc1.cell 0
  have x0 := hbox.cell 0
  simp [chC] at b0 b1 t0 x0
  cases P with
  | true =>
    obtain ⟨l1, hl1⟩ := Option.isSome_iff_exists.1 hP'.out
    have hl10 : l1 = l0 := by
      have := hl0'.out
      rw [hl1] at this
      simpa using this
    subst hl10
    have hlk := hlim'.out id l1 hl1
    have hlen : bs.length = k := by
      have h0 := hown1.1
      simp at h0
      exact h0
    have hl2 : l1 < bs.length := by omega
    obtain ⟨bl, hbl⟩ : ∃ b, bs[l1]? = some b := ⟨_, List.getElem?_eq_getElem hl2⟩
    obtain ⟨gl, rfl, _, cl⟩ := own_cell hown1 (o := l1) (x := .map (some bl)) (by simp [hbl])
    have hl2I : (l1 : Int) < (k : Int) := by omega
    have hl0I : (0 : Int) ≤ (l1 : Int) := by omega
    have hmem : bl ∈ bs := List.mem_of_getElem? hbl
    obtain ⟨hb1, hb2, hb3⟩ := hbs1 bl hmem
    obtain ⟨w5, hput5, hs5, hC5⟩ := (hb3.ch ((Ch.refl [] wc).drew) (by simp)).drop (g := id) (by omega) 0
    have hnob : ∀ b t, TyAt wc b t → b ∉ [bl] := fun b t hb h => by
      simp at h
      subst h
      exact hb3.noTy _ hb
    have hC15 : Ch [bl] wc w5 := ((Ch.refl [bl] wc).drew).trans hC5
    have hmb5 := hmb1.ch hC15 (hnob _ _ hmb1.ty)
    have hc5 := hc1.ch hC15 (hnob _ _ hc1.ty)
    have htab5 := htab1.ch hC15 (by simp; exact fun h => hb1 h.symm)
    have d1 := hmb5.cell 1
    have d0 := hc5.cell 0
    simp [chC] at d0 d1
    obtain ⟨w6, hput6, ht6, hC6⟩ := (htab5.ch ((Ch.refl [] w5).drew) (by simp)).drop (g := id) (by omega) 0
    have hnot : ∀ b t, TyAt w5 b t → b ∉ [tb] := fun b t hb h => by
      simp at h
      subst h
      exact htab5.noTy _ hb
    have hC56 : Ch [tb] w5 w6 := ((Ch.refl [tb] w5).drew).trans hC6
    have hmb6 := hmb5.ch hC56 (hnot _ _ hmb5.ty)
    have d3 := hmb6.cell 3
    have f3 := hmb6.free 3
    simp at d3
    clear hbl hlen hl2
    have hmb1' := Lib.hid hmb1
    have hc1' := Lib.hid hc1
    have htab1' := Lib.hid htab1
    have hown1' := Lib.hid hown1
    have hbs1' := Lib.hid hbs1
    have hbox' := Lib.hid hbox
    have hC01' := Lib.hid hC01
    have hC1' := Lib.hid hC1
    have hb3' := Lib.hid hb3
    have hmem' := Lib.hid hmem
    have hs5' := Lib.hid hs5
    have hC5' := Lib.hid hC5
    have hC15' := Lib.hid hC15
    have hmb5' := Lib.hid hmb5
    have hc5' := Lib.hid hc5
    have htab5' := Lib.hid htab5
    have ht6' := Lib.hid ht6
    have hC6' := Lib.hid hC6
    have hC56' := Lib.hid hC56
    have hmb6' := Lib.hid hmb6
    have hl1' := Lib.hid hl1
    clear hl1 hmb6 hC56 hC6 ht6 htab5 hc5 hmb5 hC15 hC5 hs5 hmem hb3 hC1 hC01 hbox hbs1 hown1 htab1 hc1 hmb1
    go_upto_region 20 with fail
    refine wp_tail 13 (by kernel_rfl) (by kernel_rfl) ?_
    simp only [List.take_succ_cons, List.take_zero, List.drop_succ_cons, List.drop_zero]
    repeat still_step
    refine wpStill_nil ?_
    go_wp2_with fail
    refine wp_tail 8 (by kernel_rfl) (by kernel_rfl) ?_
    simp only [List.take_succ_cons, List.take_zero, List.drop_succ_cons, List.drop_zero]
    repeat still_step
    refine wpStill_nil ?_
    go_wp2_with fail
    go_ret
    have hC16 : Ch ([bl] ++ [tb]) wc w6 := manQ hC15'.out hC56'.out
    refine ⟨rfl, manDrop (S := [bl] ++ [tb]) hmb'.out.ty hmb6'.out (own_ch hown1'.out hC16 (fun g hg => ?_)) (fun b hb => ?_) ht6'.out hlim'.out hfew hBm hBt ((hC01'.out.mono (by simp)).trans hC16) ⟨fun b hb => ?_, fun b t hb h1 h2 h3 => ?_⟩⟩
    · have h0 := own_ty hown1'.out hg
      simp
      exact ⟨fun h => hb3'.out.noTy _ (h ▸ h0), fun h => htab1'.out.noTy _ (h ▸ h0)⟩
    · obtain ⟨h1, h2, h3⟩ := hbs1'.out b hb
      refine ⟨h1, h2, ?_⟩
      by_cases e : b = bl
      · subst e
        exact hs5'.out.ch hC56'.out (by simpa using h1)
      · exact h3.ch hC16 (by simp; exact ⟨e, h1⟩)
    · simp at hb
      rcases hb with rfl | rfl
      · exact hb2
      · exact hBt
    · have hbc := hb.ch hC01'.out (by simp)
      simp at h3
      rcases h3 with rfl | rfl
      · exact hb3'.out.noTy _ hbc
      · exact htab1'.out.noTy _ hbc
  | false =>
    have hfn : f id = none := by
      have h0 := hP'.out
      cases hh : f id with
      | none => rfl
      | some u => rw [hh] at h0; simp at h0
    have hff : (fun x => if x = id then none else f x) = f := by
      funext x
      split
      · rename_i e; rw [e, hfn]
      · rfl
    have hmb1' := Lib.hid hmb1
    have hc1' := Lib.hid hc1
    have htab1' := Lib.hid htab1
    have hown1' := Lib.hid hown1
    have hbs1' := Lib.hid hbs1
    have hbox' := Lib.hid hbox
    have hC01' := Lib.hid hC01
    have hC1' := Lib.hid hC1
    have hfn' := Lib.hid hfn
    have hff' := Lib.hid hff
    clear hff hfn hC1 hC01 hbox hbs1 hown1 htab1 hc1 hmb1
    go_wp2_with fail
    go_loopw [122] (fun s122 wx => ∃ j : Nat, j ≤ k ∧ s122 = .int .i64 (j : Int) ∧ Bk wx mb 57 #[.slice av k cv, .map (some tb), .int .i64 (made : Int), .int .i64 (dropped : Int)] ∧ Bk wx cb 131 (chC id 1 lev) ∧ wx.ownsRow B 156 1 (.slice av k cv) k (bs.map fun b => .map (some b)) ∧
      (∀ b, b ∈ bs → b ≠ tb ∧ B ≤ b ∧ SetAt wx b m) ∧ TabAt wx tb f n ∧ ∃ S, Ch S w wx ∧ (∀ b, b ∈ S → B ≤ b) ∧ ∀ b t, TyAt w b t → b ∉ S) (fun s122 _ => k - (intOf s122).toNat)
    case atStart => exact ⟨0, Nat.zero_le _, rfl, hmb1'.out, hc1'.out, hown1'.out, hbs1'.out, htab1'.out, [], hC01'.out, fun _ hb => (by cases hb), fun _ _ _ hb => (by cases hb)⟩
    case round =>
      obtain ⟨j, hjk, rfl, hmbr, hcr, hownr, hbsr, htabr, S, hCr, hSr, hSt⟩ := hrel
      by_cases hlt : j < k
      · have hltI : (j : Int) < (k : Int) := by omega
        have hlen : bs.length = k := by
          have h0 := hownr.1
          simp at h0
          exact h0
        have hj2 : j < bs.length := by omega
        obtain ⟨bl, hbl⟩ : ∃ b, bs[j]? = some b := ⟨_, List.getElem?_eq_getElem hj2⟩
        obtain ⟨gl, rfl, _, cl⟩ := own_cell hownr (o := j) (x := .map (some bl)) (by simp [hbl])
        have hj0 : (0 : Int) ≤ (j : Int) := by omega
        have hmem : bl ∈ bs := List.mem_of_getElem? hbl
        obtain ⟨hb1, hb2, hb3⟩ := hbsr bl hmem
        have w1 : IntKind.i64.wrap ((j : Int) + 1) = ((j + 1 : Nat) : Int) := (IntWalk.i64_in _ (by omega)).trans (by omega)
        obtain ⟨W1, hW1⟩ : ∃ W, wr.alloc (.cells #[.map (some bl)] 156) = W := ⟨_, rfl⟩
        have hCx : Ch [] wr W1 := by rw [← hW1]; exact (Ch.refl [] wr).alloc _
        have hbx : Bk W1 wr.heap.size 156 #[.map (some bl)] := by rw [← hW1]; exact Bk.new _ _ _
        have e0 := hbx.cell 0
        have e1 := (hcr.ch hCx (by simp)).cell 0
        simp [chC] at e0 e1
        obtain ⟨w5, hput5, hs5, hC5⟩ := (hb3.ch (hCx.drew) (by simp)).drop (g := id) (by omega) 0
        have hC15 : Ch [bl] wr w5 := ((hCx.drew).mono (by simp)).trans hC5
        have hnob : ∀ b t, TyAt wr b t → b ∉ [bl] := fun b t hb h => by
          simp at h
          subst h
          exact hb3.noTy _ hb
        clear hbl hlen hj2
        have hmbr' := Lib.hid hmbr
        have hcr' := Lib.hid hcr
        have hownr' := Lib.hid hownr
        have hbsr' := Lib.hid hbsr
        have htabr' := Lib.hid htabr
        have hCr' := Lib.hid hCr
        have hSr' := Lib.hid hSr
        have hSt' := Lib.hid hSt
        have hCx' := Lib.hid hCx
        have hbx' := Lib.hid hbx
        have hs5' := Lib.hid hs5
        have hC5' := Lib.hid hC5
        have hC15' := Lib.hid hC15
        have hb3' := Lib.hid hb3
        have hmem' := Lib.hid hmem
        clear hmem hb3 hC15 hC5 hs5 hbx hCx hSt hSr hCr htabr hbsr hownr hcr hmbr
        go_wp2_with fail
        refine wp_tail 6 (by kernel_rfl) (by kernel_rfl) ?_
        simp only [List.take_succ_cons, List.take_zero, List.drop_succ_cons, List.drop_zero]
        repeat still_step
        refine wpStill_nil ?_
        go_wp2_with fail
        go_roundw
        case rel =>
          refine ⟨j + 1, by omega, by go_num, hmbr'.out.ch hC15'.out (hnob _ _ hmbr'.out.ty), hcr'.out.ch hC15'.out (hnob _ _ hcr'.out.ty), own_ch hownr'.out hC15'.out (fun g hg => hnob _ _ (own_ty hownr'.out hg)), fun b hb => ?_, htabr'.out.ch hC15'.out (by simp; exact fun h => hb1 h.symm), S ++ [bl], manQ hCr'.out hC15'.out, fun b hb => ?_, fun b t hb h => ?_⟩
          · obtain ⟨h1, h2, h3⟩ := hbsr'.out b hb
            refine ⟨h1, h2, ?_⟩
            by_cases e : b = bl
            · subst e; exact hs5'.out
            · exact h3.ch hC15'.out (by simpa using e)
          · rcases List.mem_append.1 hb with h0 | h0
            · exact hSr'.out b h0
            · simp at h0
              subst h0
              exact hb2
          · rcases List.mem_append.1 h with h0 | h0
            · exact hSt'.out b t hb h0
            · exact hnob b t (hb.ch hCr'.out (hSt'.out b t hb)) h0
        case measure => simp [intOf]; omega
      · obtain rfl : j = k := by omega
        have d3 := hmbr.cell 3
        have f3 := hmbr.free 3
        simp at d3
        have hmbr' := Lib.hid hmbr
        have hcr' := Lib.hid hcr
        have hownr' := Lib.hid hownr
        have hbsr' := Lib.hid hbsr
        have htabr' := Lib.hid htabr
        have hCr' := Lib.hid hCr
        have hSr' := Lib.hid hSr
        have hSt' := Lib.hid hSt
        clear hSt hSr hCr htabr hbsr hownr hcr hmbr
        go_wp2_with fail
        go_ret
        exact ⟨rfl, manDrop hmb'.out.ty hmbr'.out hownr'.out hbsr'.out (by rw [hff'.out]; exact htabr'.out) hlim'.out hfew hBm hBt hCr'.out ⟨hSr'.out, fun b t hb _ _ => hSt'.out b t hb⟩⟩
end Go.Proofs.YtkjgkjmaoebeoaaDoor
