/-
  The walk of FnReadLog.
-/
import Derived.Test.YtpndlcjilgcfkaaGreatDoorZze
import Derived.Test.YtpndlcjilgcfkaaGreatDoorSame
namespace Go.Proofs.YtpndlcjilgcfkaaGreatDoor
open Go Go.RowKit
open Go.Proofs

/-- What the laws on logs want of memory. -/
structure LogMem (w : World) : Prop where
  gs : Gs w.heap.size w
  nf : ∃ te pe, w.cell? ⟨0, 0, none⟩ = some (.iface te pe)
  sy : ∃ te pe, w.cell? ⟨11, 0, none⟩ = some (.iface te pe)
  rg : ∃ te pe, w.cell? ⟨12, 0, none⟩ = some (.iface te pe)
theorem LogMem.call {w w1 : World} (h : LogMem w) (hb : Below w.heap.size w w1) (b : List UInt8) (hasked : (readLog b).2.2 = true) (hb20 : 20 ≤ b.length) (hbl : b.length ≤ 1000000000) :
    Calls Tryz.prog 8 #[.string ⟨b.toArray⟩] w1 (RLPost b w1) := by
  have hc : Ch [] w w1 := Ch.of_below hb
  obtain ⟨t0, p0, h0⟩ := h.nf
  obtain ⟨t1, p1, h1⟩ := h.sy
  obtain ⟨t2, p2, h2⟩ := h.rg
  exact implReadLog_any w.heap.size b w1 (h.gs.ch hc (by simp)) hb.size hasked hb20 hbl ⟨t0, p0, (hc.cell 0 (block_lt_of_cell h0) (by simp)).trans h0⟩ ⟨t1, p1, (hc.cell 0 (block_lt_of_cell h1) (by simp)).trans h1⟩ ⟨t2, p2, (hc.cell 0 (block_lt_of_cell h2) (by simp)).trans h2⟩

theorem zeros_read (l : List LEnt) (hl : ∀ e, e ∈ l → EOk e ∧ e.bits / 64 % 2 = 0 ∧ e.bits / 128 % 2 = 0) : readLog (zeros20 ++ bytesL l) = (placed 20 l, 20 + (bytesL l).length, true) := by
  have h := readLog_plain zeros20 l 0 (by simp [zeros20]) hl
  simpa using h

/-- The fixed log that is asked besides. -/
def eKV : LEnt := ⟨[107], [118], 0, 0, 0, 0, 0⟩
theorem eKV_ok : EOk eKV := ⟨by decide, by decide, by decide, by decide, by decide, by decide⟩

theorem ents_new {w : World} {g : Nat} {e : LEnt} (h : Bk w g 30 (enC e)) : Ents g w (.slice (some ⟨g, 0, none⟩) 1 1) [e] := by
  refine ⟨by simp [entCs]; rfl, .inr ⟨g, 1, enC e, rfl, Nat.le_refl _, h, Nat.le_refl _, by unfold maxLen; omega, rfl, ?_⟩⟩
  simp [entCs, enC, entCells]

set_option maxHeartbeats 8000000 in
set_option maxRecDepth 20000 in
theorem fnReadLog_walk (s : ByteArray) (w : World) (hm : LogMem w) :
    Calls Tryz.prog 3 #[.string s] w fun e w' => e = .returned (.bool true) ∧ Below w.heap.size w w' := by
  by_cases h1 : 2147483647 < s.size
  · go_enter Tryz.func3, Tryz.ntmps3
    go_wp2_with fail
    go_ret
    exact ⟨rfl, Below.refl _ _⟩
  by_cases h2 : 3000 < s.size
  · go_enter Tryz.func3, Tryz.ntmps3
    go_wp2_with fail
    go_ret
    exact ⟨rfl, Below.refl _ _⟩
  obtain ⟨b, hb⟩ : ∃ b, zeros20 ++ s.data.toList = b := ⟨_, rfl⟩
  have hsl : s.data.toList.length = s.size := Array.length_toList
  have hbl : b.length = 20 + s.size := by rw [← hb, List.length_append, hsl]; rfl
  have hbs : ByteArray.mk zeros20.toArray ++ s = ⟨b.toArray⟩ := by
    have hs : s = ⟨s.data.toList.toArray⟩ := by cases s; simp
    rw [← hb]
    conv => lhs; rw [hs]
    exact ByteArray.mk_append_mk _ _
  have hmk := run_mkB2 .i64 .i64 20 20 rfl (by omega)
  obtain ⟨Z, hZ⟩ : ∃ Z, List.replicate 20 (Value.int .u8 0) = Z := ⟨_, rfl⟩
  rw [hZ] at hmk
  have hz20 : (ByteArray.mk zeros20.toArray).size = 20 := rfl
  have hsum : ¬ 9223372036854775807 < 20 + s.size := by omega
  have hspec := fun W => Lib.hid (specReadLog_any b W (by omega) (by omega))
  have hm' := Lib.hid hm
  have hb' := Lib.hid hb
  have hZ' := Lib.hid hZ
  have hbs' := Lib.hid hbs
  clear hbs hZ hb hm
  go_enter Tryz.func3, Tryz.ntmps3
  go_wp2_with (refine wpList_b2s rfl 22 9 5 (.tmp 18) rfl Tryz.underlying22 Tryz.underlying5 Tryz.underlying9 w.heap.size 0 20 20 rfl zeros20 rfl (bs_zeros (by rw [hZ'.out]; exact Bk.at_ _ _ _ _ rfl)) ?_)
  rw [hbs'.out]
  refine (hspec _).out.mono ?_
  rintro e w1 ⟨v, rfl, hv, hb1⟩
  have hbA : Below w.heap.size w w1 := below_call_ hb1 (below_alloc_ (Below.refl _ _) _)
  obtain ⟨L, hL⟩ : ∃ L, (readLog b).1 = L := ⟨_, rfl⟩
  obtain ⟨F, hF⟩ : ∃ F, (readLog b).2.1 = F := ⟨_, rfl⟩
  rw [hL] at hv
  rw [hF]
  cases ha : (readLog b).2.2 with
  | false =>
    have hv' := Lib.hid hv
    have hb1' := Lib.hid hb1
    have hbA' := Lib.hid hbA
    have hL' := Lib.hid hL
    have hF' := Lib.hid hF
    have ha' := Lib.hid ha
    clear ha hF hL hbA hb1 hv
    go_wp2_with fail
    go_ret
    exact ⟨rfl, hbA'.out⟩
  | true =>
    have hcount := readLog_count b (by omega)
    rw [hL] at hcount
    have hcall := hm'.out.call hbA b ha (by omega) (by omega)
    have hv' := Lib.hid hv
    have hb1' := Lib.hid hb1
    have hbA' := Lib.hid hbA
    have hL' := Lib.hid hL
    have hF' := Lib.hid hF
    have ha' := Lib.hid ha
    have hcall' := Lib.hid hcall
    clear hcall ha hF hL hbA hb1 hv
    go_wp2_with fail
    refine hcall'.out.mono ?_
    rintro e w2 ⟨v2, rfl, hv2, hb2⟩
    rw [hL'.out] at hv2
    rw [hF'.out]
    have hbB : Below w.heap.size w w2 := below_call_ hb2 hbA'.out
    have hv1 := hv'.out.below hb2 (Nat.le_refl _)
    obtain ⟨C, hC⟩ : ∃ C, zeros20 ++ bytesL [eKV] = C := ⟨_, rfl⟩
    have hrd : readLog C = (placed 20 [eKV], 20 + (bytesL [eKV]).length, true) := by
      rw [← hC]
      exact zeros_read [eKV] (fun e he => by
        simp at he
        subst he
        exact ⟨eKV_ok, by decide, by decide⟩)
    have hbl2 : (bytesL [eKV]).length ≤ 1000 := by decide +kernel
    have hCl : C.length = 20 + (bytesL [eKV]).length := by rw [← hC, List.length_append]; rfl
    have hlog := logOf_any w2.heap.size [eKV] (.slice (some ⟨w2.heap.size, 0, none⟩) 1 1) (w2.alloc (.cells (enC eKV) 30)) (ents_new (Bk.at_ _ _ _ _ rfl)) (by simp) (fun e he => by
      simp at he
      subst he
      exact ⟨by decide, by decide, by decide, by decide, by decide⟩) (by omega)
    rw [hC] at hlog
    have hv2' := Lib.hid hv2
    have hbB' := Lib.hid hbB
    have hv1' := Lib.hid hv1
    have hb2' := Lib.hid hb2
    have hC' := Lib.hid hC
    have hrd' := Lib.hid hrd
    have hlog' := Lib.hid hlog
    clear hlog hrd hC hb2 hv1 hbB hv2
    go_wp2_with fail
    refine hlog'.out.mono ?_
    rintro e w3 ⟨rfl, hb3⟩
    have hbC : Below w.heap.size w w3 := below_call_ hb3 (below_alloc_ hbB'.out _)
    have hcall2 := hm'.out.call hbC C (by rw [hrd'.out]) (by omega) (by omega)
    have hb3' := Lib.hid hb3
    have hbC' := Lib.hid hbC
    have hcall2' := Lib.hid hcall2
    clear hcall2 hbC hb3
    go_wp2_with fail
    refine hcall2'.out.mono ?_
    rintro e w4 ⟨v4, rfl, hv4, hb4⟩
    rw [hrd'.out] at hv4 ⊢
    obtain ⟨A4, c4, rfl⟩ := ents_form hv4
    have hw4 : Below w2.heap.size w2 w4 := below_call_ hb4 (below_call_ hb3'.out (below_alloc_ (Below.refl _ _) _))
    have hsame := fun W (h : Below w4.heap.size w4 W) => lSame_any _ _ L v2 v W ((hv2'.out.below hw4 (Nat.le_refl _)).below h (Nat.le_refl _)) ((hv1'.out.below hw4 (Nat.le_refl _)).below h (Nat.le_refl _)) (by omega)
    have hbD : Below w.heap.size w w4 := below_call_ hb4 hbC'.out
    have hsame' := Lib.hid (hsame w4 (Below.refl _ _))
    have hpl : (placed 20 [eKV]).length = 1 := rfl
    have hFF : ((F : Int) == (F : Int)) = true := by simp
    clear hsame
    rw [hpl]
    have hv4' := Lib.hid hv4
    have hb4' := Lib.hid hb4
    have hw4' := Lib.hid hw4
    have hbD' := Lib.hid hbD
    have hpl' := Lib.hid hpl
    clear hpl hbD hw4 hb4 hv4
    go_wp2_with (go_at_call 10; refine hsame'.out.mono ?_; rintro e w5 ⟨rfl, hb5⟩)
    go_ret
    exact ⟨rfl, below_call_ hb5 hbD'.out⟩
end Go.Proofs.YtpndlcjilgcfkaaGreatDoor
