/-
  Book.Is of a manifest that says what the book says.
-/
import Derived.Test.YtkjgkjmaoebeoaaDoorMir
import Derived.Test.YtkjgkjmaoebeoaaDoorMlc
namespace Go.Proofs.YtkjgkjmaoebeoaaDoor
open Go Go.RowKit
open Go.Proofs

theorem nodup_len {l ks : List Nat} (h1 : l.Nodup) (h2 : ks.Nodup) (h : ∀ g, g ∈ l ↔ g ∈ ks) : l.length = ks.length := by
  have e1 := List.Nodup.length_le_of_subset h1 (fun g hg => (h g).1 hg)
  have e2 := List.Nodup.length_le_of_subset h2 (fun g hg => (h g).2 hg)
  omega

set_option maxHeartbeats 4000000 in
set_option maxRecDepth 20000 in
theorem bookIs_any (base bk mb n k : Nat) (b : Bok) (l : List Nat) (A1 A2 : Option Addr) (c1 c2 en : Nat) (w : World) (hb : BookAt bk mb n k b w)
    (h1 : w.ownsRow base 45 1 (.slice A1 l.length c1) l.length (idsU l)) (h2 : w.ownsRow base 3 1 (.slice A2 l.length c2) l.length (levU b.f l)) (hs : l.Pairwise (fun x y => x < y)) (hm : ∀ g, g ∈ l ↔ (b.f g).isSome = true) (hlim : ∀ g v, b.f g = some v → g < 1000000 ∧ v ≤ 6) :
    Calls Tryd.prog 12 #[.pointer (some ⟨bk, 0, none⟩), .agg #[.slice A1 l.length c1, .slice A2 l.length c2, .int .i64 (b.made : Int), .int .i64 (b.dropped : Int), .int .i64 (en : Int)]] w fun e w' => e = .returned (.bool true) ∧ Ch [] w w' := by
  obtain ⟨N, hN⟩ : ∃ N, l.length = N := ⟨_, rfl⟩
  rw [hN] at h1 h2 ⊢
  obtain ⟨W0, hW0⟩ : ∃ W, w.alloc (.cells #[.slice A1 N c1, .slice A2 N c2, .int .i64 (b.made : Int), .int .i64 (b.dropped : Int), .int .i64 (en : Int)] 37) = W := ⟨_, rfl⟩
  have hC0 : Ch [] w W0 := by rw [← hW0]; exact (Ch.refl [] w).alloc _
  have hm0 : Bk W0 w.heap.size 37 #[.slice A1 N c1, .slice A2 N c2, .int .i64 (b.made : Int), .int .i64 (b.dropped : Int), .int .i64 (en : Int)] := by rw [← hW0]; exact Bk.new _ _ _
  have hb0 := hb.ch hC0 (by simp) (by simp)
  have h10 := own_ch h1 hC0 (fun _ _ hm => by cases hm)
  have h20 := own_ch h2 hC0 (fun _ _ hm => by cases hm)
  have d0 := hm0.cell 0
  have d1 := hm0.cell 1
  have d2 := hm0.cell 2
  have d3 := hm0.cell 3
  have k0 := hb0.bk.cell 0
  have k1 := hb0.bk.cell 1
  have k2 := hb0.bk.cell 2
  simp at d0 d1 d2 d3 k0 k1 k2
  have hlen : ∀ z, (Builtin.len_ #[27] 3 #[.map (some mb)]).run Tryd.prog (W0.drewN z) = .ok (.int .i64 (N : Int)) (W0.drewN z) := fun z => by
    obtain ⟨ks, q1, q2, q3⟩ := (hb0.mp.ch ((Ch.refl [] W0).drewN z) (by simp)).len 3
    rw [q3, ← nodup_len (hs.imp fun h => Nat.ne_of_lt h) q1 (fun g => (hm g).trans (q2 g).symm), hN]
  have hb' := Lib.hid hb
  have hN' := Lib.hid hN
  have h1' := Lib.hid h1
  have h2' := Lib.hid h2
  have hs' := Lib.hid hs
  have hm' := Lib.hid hm
  have hlim' := Lib.hid hlim
  have hC0' := Lib.hid hC0
  have hm0' := Lib.hid hm0
  have hb0' := Lib.hid hb0
  have h10' := Lib.hid h10
  have h20' := Lib.hid h20
  have hW0' := Lib.hid hW0
  clear hW0 h20 h10 hb0 hm0 hC0 hlim hm hs h2 h1 hN hb
  go_enter Tryd.func12, Tryd.ntmps12
  go_wp2_with fail
  rw [hW0'.out]
  go_quiet (fail)
  go_wp2_with fail
  obtain ⟨Wq, hWq⟩ : ∃ W, W0.drewN nq = W := ⟨_, rfl⟩
  have hCq : Ch [] W0 Wq := by rw [← hWq]; exact (Ch.refl [] W0).drewN nq
  have hbq := hb0'.out.ch hCq (by simp) (by simp)
  have hmq := hm0'.out.ch hCq (by simp)
  have h1q := own_ch h10'.out hCq (fun _ _ hm => by cases hm)
  have h2q := own_ch h20'.out hCq (fun _ _ hm => by cases hm)
  try rw [hWq]
  clear d0 d1 d2 d3 k0 k1 k2 hlen hWq
  have hNl := hN'.out
  have hN9 : N ≤ 1000000 := by
    have h0 := List.Nodup.length_le_of_subset (l₁ := l) (l₂ := List.range 1000000) (hs'.out.imp fun h => Nat.ne_of_lt h) (fun g hg => by
      obtain ⟨v, hv⟩ := Option.isSome_iff_exists.1 ((hm'.out g).1 hg)
      exact List.mem_range.2 (hlim'.out g v hv).1)
    rw [List.length_range] at h0
    omega
  have hCq' := Lib.hid hCq
  have hbq' := Lib.hid hbq
  have hmq' := Lib.hid hmq
  have h1q' := Lib.hid h1q
  have h2q' := Lib.hid h2q
  clear h2q h1q hmq hbq hCq
  go_loopw [4, 5, 6, 7, 8, 48] (fun s4 s5 s6 s7 s8 s48 wx => ∃ j : Nat, j ≤ N ∧ s48 = .int .i64 (j : Int) ∧ wx = Wq) (fun _ _ _ _ _ s48 _ => N - (intOf s48).toNat)
  case atStart => exact ⟨0, Nat.zero_le _, rfl, rfl⟩
  case round =>
    obtain ⟨j, hj, rfl, rfl⟩ := hrel
    have d0 := hmq'.out.cell 0
    have d1 := hmq'.out.cell 1
    have k0 := hbq'.out.bk.cell 0
    simp at d0 d1 k0
    by_cases hlt : j < N
    · have hltI : (j : Int) < (N : Int) := by omega
      have hj0 : (0 : Int) ≤ (j : Int) := by omega
      have hjl : j < l.length := by rw [hNl]; exact hlt
      obtain ⟨g, hg⟩ : ∃ g, l[j] = g := ⟨_, rfl⟩
      obtain ⟨v, hv⟩ := Option.isSome_iff_exists.1 ((hm'.out g).1 (by rw [← hg]; exact List.getElem_mem _))
      have hgl := hlim'.out g v hv
      obtain ⟨g1, rfl, _, ci⟩ := own_cell h1q'.out (o := j) (x := .int .u64 (g : Int)) (by simp [idsU, hjl, hg])
      obtain ⟨g2, rfl, _, cl⟩ := own_cell h2q'.out (o := j) (x := .int .i64 (v : Int)) (by simp [levU, hjl, hg, hv])
      have hlook := hbq'.out.mp.look_ok (g := g) (by omega)
      rw [hv, Option.getD_some, Option.isSome_some] at hlook
      have w1 : IntKind.i64.wrap ((j : Int) + 1) = ((j + 1 : Nat) : Int) := (IntWalk.i64_in _ (by omega)).trans (by omega)
      by_cases hz : j = 0
      · subst hz
        go_wp2_with fail
        go_roundw
        case rel => exact ⟨0 + 1, by omega, by go_num, by first | rfl | trivial⟩
        case measure => simp [intOf]; omega
      · have htI : (0 : Int) < (j : Int) := by omega
        obtain ⟨u, hu⟩ : ∃ u, u + 1 = j := ⟨j - 1, by omega⟩
        obtain ⟨g3, e3, _, cp⟩ := own_cell h1q'.out (o := u) (x := .int .u64 ((l[u]'(by omega) : Nat) : Int)) (by simp [idsU, show u < l.length by omega])
        obtain rfl : g1 = g3 := by injection e3 with h; injection h
        have hlt3 := List.pairwise_iff_getElem.1 hs'.out u j (by omega) hjl (by omega)
        rw [hg] at hlt3
        obtain ⟨y, hy⟩ : ∃ y, l[u]'(by omega) = y := ⟨_, rfl⟩
        rw [hy] at cp hlt3
        have hnle : ¬ (g : Int) ≤ (y : Int) := by omega
        have wu : IntKind.i64.wrap ((j : Int) - 1) = (u : Int) := (IntWalk.i64_in _ (by omega)).trans (by omega)
        have hu0 : (0 : Int) ≤ (u : Int) := by omega
        have huN : (u : Int) < (N : Int) := by omega
        clear hy hu
        have hlt3' := Lib.hid hlt3
        clear hlt3
        go_wp2_with fail
        go_roundw
        case rel => exact ⟨j + 1, by omega, by go_num, by first | rfl | trivial⟩
        case measure => simp [intOf]; omega
    · obtain rfl : j = N := by omega
      go_wp2_with fail
      go_ret
      exact ⟨rfl, hC0'.out.trans hCq'.out⟩
end Go.Proofs.YtkjgkjmaoebeoaaDoor
