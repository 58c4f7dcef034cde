/-
  The file beneath discard stats: File.Sync.
-/
import Derived.Deep.AppendLies
import Derived.Deep.RegionLaw
import Derived.Test.YtjioghedokbgcaaDoorCh
import Derived.Test.YtjioghedokbgcaaDoorDis7
namespace Go.Proofs.YtjioghedokbgcaaDoor
open Go Go.RowKit
open Go.Proofs

set_option maxHeartbeats 2000000 in
set_option maxRecDepth 20000 in
theorem fileSync_any (fb kb nb db cap s : Nat) (nodes now name synced md at_ : Value) (L : List UInt8) (W : World) (h : FileMem fb kb nb db cap s nodes now name synced md at_ L W) (hs : s < 4611686018427387904) (hL0 : 0 < L.length) (hL : L.length ≤ 4294967296) :
    Calls Tryd.prog 48 #[.pointer (some ⟨fb, 0, none⟩)] W fun e w' => e = .returned .nilIface ∧
      (∃ synced', FileMem fb kb nb db cap (s + 1) nodes now name synced' md at_ L w') ∧ Ch [nb, kb] W w' := by
  have kn : kb ≠ nb := h.disk.apart h.node (by decide)
  have kd : kb ≠ db := h.disk.apart h.data (by decide)
  have kf : kb ≠ fb := h.disk.apart h.file (by decide)
  have nf : nb ≠ fb := h.node.apart h.file (by decide)
  have nd : nb ≠ db := h.node.apart h.data (by decide)
  have hstep := diskStep_any kb s nodes now W h.disk hs
  obtain ⟨W1, hW1⟩ : ∃ w, W.setCell ⟨kb, 2, none⟩ (.int .i64 ((s + 1 : Nat) : Int)) = w := ⟨_, rfl⟩
  have d1 : Bk W1 kb 46 #[nodes, .int .i64 (-1), .int .i64 ((s + 1 : Nat) : Int), now] := by rw [← hW1]; exact h.disk.set 2 _
  have f1 : Bk W1 fb 84 #[.pointer (some ⟨kb, 0, none⟩), .pointer (some ⟨nb, 0, none⟩), at_] := by rw [← hW1]; exact h.file.far (p := ⟨kb, 2, none⟩) (Ne.symm kf) _
  have n1 : Bk W1 nb 81 #[name, .slice (some ⟨db, 0, none⟩) L.length cap, synced, md] := by rw [← hW1]; exact h.node.far (p := ⟨kb, 2, none⟩) (Ne.symm kn) _
  have b1 : Bk W1 db 5 (Lib.byteCells L).toArray := by rw [← hW1]; exact h.data.far (p := ⟨kb, 2, none⟩) (Ne.symm kd) _
  have g1 : W.grownBy W1 (some kb) := by rw [← hW1]; exact grown_setCell (World.grownBy.refl W _) (p := ⟨kb, 2, none⟩) (.inl rfl) _
  have c0 := h.file.cell 0
  have c1 := f1.cell 1
  have c2 := n1.cell 1
  simp at c0 c1 c2
  rw [hW1] at hstep
  have e1 := (f1.drew.alloc (.cells #[] 5)).cell 1
  have e2 := (n1.drew.alloc (.cells #[] 5)).cell 1
  simp at e1 e2
  obtain ⟨W2, hW2⟩ : ∃ w, W1.drew.alloc (.cells #[] 5) = w := ⟨_, rfl⟩
  obtain ⟨g, hg⟩ : ∃ g, W1.heap.size = g := ⟨_, rfl⟩
  obtain ⟨i0, hi, hz0, hz1, hz2⟩ := info_parts u8row
  have hown : W2.ownsRow g 5 1 (.slice (some ⟨g, 0, none⟩) 0 0) 0 [] := ⟨rfl, .inr ⟨g, 0, #[], rfl, Nat.le_refl _, by rw [← hW2, ← hg]; exact heap_alloc_new W1.drew _, Nat.le_refl _, by unfold maxLen; omega, rfl, rfl⟩⟩
  have hb2 : Bs W2 db 0 L := by rw [← hW2]; exact (bs_of_bk b1).drew.alloc _
  have hg2 : g ≤ W2.heap.size := by rw [← hW2, ← hg]; simp
  have hnews : ∀ j u, (Lib.byteCells L)[j]? = some u → W2.cell? ((⟨db, 0, none⟩ : Addr).add j) = some u := fun j u hj => by
    rw [Addr.add_lit, Nat.zero_add]
    have hjl : j < L.length := by
      have := (List.getElem?_eq_some_iff.1 hj).1
      simpa [Lib.byteCells] using this
    have h1 := hb2 j hjl
    rw [Nat.zero_add] at h1
    rw [h1]
    simpa [Lib.byteCells, hjl] using hj
  have hlen : (Lib.byteCells L).length = L.length * 1 := by simp [Lib.byteCells]
  have hone := oneCell_bytes L
  have h63 : 0 + L.length ≤ maxLen := by unfold maxLen; omega
  have hby : (0 + L.length) * 1 ≤ 140737488355328 := by omega
  have cN2 := (n1.drew.alloc (.cells #[] 5)).cell 2
  have fN2 := (n1.drew.alloc (.cells #[] 5)).free 2
  have cF2 := (f1.drew.alloc (.cells #[] 5)).cell 1
  rw [hW2] at cN2 fN2 cF2
  simp at cN2 cF2
  have lf2 : fb < W2.heap.size := by rw [← hW2]; simp; exact Nat.lt_succ_of_lt f1.lt
  have ln2 : nb < W2.heap.size := by rw [← hW2]; simp; exact Nat.lt_succ_of_lt n1.lt
  have lf := f1.lt
  have ln := n1.lt
  have gf : some fb ≠ some g := by have := f1.lt; intro e; injection e with e; omega
  have gn : some nb ≠ some g := by have := n1.lt; intro e; injection e with e; omega
  subst hW2
  subst hg
  have h' := Lib.hid h
  have hstep' := Lib.hid hstep
  have d1' := Lib.hid d1
  have f1' := Lib.hid f1
  have n1' := Lib.hid n1
  have b1' := Lib.hid b1
  have g1' := Lib.hid g1
  have hW1' := Lib.hid hW1
  have hown' := Lib.hid hown
  have hb2' := Lib.hid hb2
  have hnews' := Lib.hid hnews
  have hlen' := Lib.hid hlen
  have hone' := Lib.hid hone
  have h63' := Lib.hid h63
  have hby' := Lib.hid hby
  have hg2' := Lib.hid hg2
  have cN2' := Lib.hid cN2
  have fN2' := Lib.hid fN2
  have cF2' := Lib.hid cF2
  have hi' := Lib.hid hi
  have hz0' := Lib.hid hz0
  have hz1' := Lib.hid hz1
  have hz2' := Lib.hid hz2
  clear hz2 hz1 hz0 hi cF2 fN2 cN2 hg2 hby h63 hone hlen hnews hb2 hown hW1 g1 b1 n1 f1 d1 hstep h
  go_enter Tryd.func48, Tryd.ntmps48
  go_wp2_with fail
  with_reducible refine hstep'.out.mono ?_
  rintro e w1 ⟨rfl, rfl⟩
  go_upto_region 2 with fail
  go_region_law ((refine step_append_lies _ (by rfl) _ _ 74 (by rfl) w1.heap.size 5 i0 (.int .u8 0) 1 1 Tryd.underlying74 hi'.out hz0'.out hz1'.out hz2'.out rfl (by omega) (.slice (some ⟨w1.heap.size, 0, none⟩) 0 0) 0 [] (by rfl) hown'.out ⟨db, 0, none⟩ L.length cap (Lib.byteCells L) (by rfl) hlen'.out hnews'.out hone'.out hL0 h63'.out hby'.out hg2'.out _ rfl ?_; intro g2 cap2 w2 hown2 hgr hat hlt; have cF := (hgr.cell_far ⟨fb, 1, none⟩ lf2 gf).trans cF2'.out; have cN := (hgr.cell_far ⟨nb, 2, none⟩ ln2 gn).trans cN2'.out; have fN := (hgr.frozen_far ⟨nb, 2, none⟩ ln2 gn).trans fN2'.out))
  all_goals
    go_wp2_with fail
    go_ret
    have far : ∀ k, k < w1.heap.size → some k ≠ (Value.slice (some ⟨w1.heap.size, 0, none⟩) 0 0).ownBlock := fun k hk e => by
      simp [Value.ownBlock] at e
      omega
    have n2 := (((n1'.out.drew.alloc (.cells #[] 5)).grown hgr (far _ ln)).set 2 (.slice (some ⟨g2, 0, none⟩) L.length cap2))
    refine ⟨rfl, ⟨.slice (some ⟨g2, 0, none⟩) L.length cap2, ((d1'.out.drew.alloc (.cells #[] 5)).grown hgr (far _ d1'.out.lt)).far (p := ⟨nb, 2, none⟩) kn _, ((f1'.out.drew.alloc (.cells #[] 5)).grown hgr (far _ lf)).far (p := ⟨nb, 2, none⟩) (Ne.symm nf) _, by simpa using n2, ((b1'.out.drew.alloc (.cells #[] 5)).grown hgr (far _ b1'.out.lt)).far (p := ⟨nb, 2, none⟩) (Ne.symm nd) _⟩, ?_⟩
    have hC1 : Ch [nb, kb] W w1 := (Ch.of_grown g1'.out).mono fun k hk => .inl (by simp at hk ⊢; exact .inr hk)
    exact ((hC1.drew.alloc (.cells #[] 5)).trans' (Ch.of_grown hgr) fun k hk => .inr (by simp at hk; subst hk; exact g1'.out.size)).setCell (p := ⟨nb, 2, none⟩) (.inl (by simp)) _
end Go.Proofs.YtjioghedokbgcaaDoor
