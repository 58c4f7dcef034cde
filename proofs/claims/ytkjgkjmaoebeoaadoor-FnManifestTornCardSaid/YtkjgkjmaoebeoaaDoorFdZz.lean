/-
  Contract of zz.File.Read: what is behind the place is handed out; at the end io.EOF.
-/
import Derived.Test.YtkjgkjmaoebeoaaDoorMGl
import Derived.Test.YtkjgkjmaoebeoaaDoorTail
namespace Go.Proofs.YtkjgkjmaoebeoaaDoor
open Go Go.RowKit
open Go.Proofs

/-- The source: a file at block zb, its node at nb, over the bytes of block db; these are left. -/
def Fr (zb nb db : Nat) (l : List UInt8) (w : World) : Prop :=
  ∃ (data : List UInt8) (p cap : Nat) (dk nm sy md : Value), Bk w zb 86 #[dk, .pointer (some ⟨nb, 0, none⟩), .int .i64 (p : Int)] ∧ Bk w nb 73 #[nm, .slice (some ⟨db, 0, none⟩) data.length cap, sy, md] ∧ Bs w db 0 data ∧ p ≤ data.length ∧ data.length ≤ cap ∧ data.length ≤ 1099511627776 ∧ l = data.drop p ∧ zb ≠ nb ∧ zb ≠ db ∧ db < w.heap.size

theorem Fr.ch {S : List Nat} {zb nb db : Nat} {l : List UInt8} {w w' : World} (h : Fr zb nb db l w) (hc : Ch S w w') (h1 : zb ∉ S) (h2 : db ∉ S) (h3 : nb ∉ S) : Fr zb nb db l w' := by
  obtain ⟨data, p, cap, dk, nm, sy, md, k1, k2, k3, k4, k5, k6, k7, k8, k9, k10⟩ := h
  exact ⟨data, p, cap, dk, nm, sy, md, k1.ch hc h1, k2.ch hc h3, k3.ch hc h2, k4, k5, k6, k7, k8, k9, Nat.lt_of_lt_of_le k10 hc.size⟩

set_option maxHeartbeats 2000000 in
set_option maxRecDepth 10000 in
theorem frRead_some (zb nb db g off len c : Nat) (t : TypeId) (L : List Value) (l : List UInt8) (w : World) (h : Fr zb nb db l w) (hl : l ≠ []) (hg : Bk w g t L.toArray) (hfit : off + len ≤ L.length)
    (hgz : g ≠ zb) (hgd : g ≠ db) (hgn : g ≠ nb) (hlen : 0 < len) (hlen2 : len ≤ 1099511627776) :
    Calls Tryd.prog 97 #[.pointer (some ⟨zb, 0, none⟩), .slice (some ⟨g, off, none⟩) len c] w fun e w' =>
      e = .returned (.tuple #[.int .i64 ((min l.length len : Nat) : Int), .nilIface]) ∧ Fr zb nb db (l.drop (min l.length len)) w' ∧ Bk w' g t (splice L off (Lib.byteCells (l.take len))).toArray ∧ Ch [zb, g] w w' := by
  obtain ⟨data, p, cap, dk, nm, sy, md, hz, hno, hd, hp, hcap, hcap2, rfl, hzn, hzd, hdl⟩ := h
  have hp2 : p < data.length := by
    rcases Nat.lt_or_ge p data.length with h | h
    · exact h
    · exact absurd (List.drop_eq_nil_of_le h) hl
  obtain ⟨n, hn⟩ : ∃ n, data.length = n := ⟨_, rfl⟩
  have c0 := hno.cell 1
  have c1 := hz.cell 2
  have c2 := hz.cell 1
  have f1 := hz.free 2
  simp at c0 c1 c2
  have hll : (data.drop p).length = n - p := by simp [hn]
  rw [hll]
  obtain ⟨k, hk⟩ : ∃ k, min (n - p) len = k := ⟨_, rfl⟩
  have hk0 : 0 < k := by omega
  have hnp : ¬ ((n : Int) ≤ (p : Int)) := by omega
  have hkn : p + k ≤ n := by omega
  have hkl : k ≤ len := by omega
  have wpk : IntKind.i64.wrap ((p : Int) + (k : Int)) = ((p + k : Nat) : Int) := (IntWalk.i64_in _ (by omega)).trans (by omega)
  rw [hk]
  have hn1 : n ≤ 1099511627776 := by omega
  rw [hn] at c0 hcap hp hp2
  have hcp : ¬ cap = p := by omega
  have hsrc : Src w (some ⟨db, p, none⟩) (n - p) (data.drop p) := ⟨hll, fun _ => ⟨db, p, rfl, by simpa using hd.drop p⟩⟩
  have hz' := Lib.hid hz
  have hno' := Lib.hid hno
  have hd' := Lib.hid hd
  have hg' := Lib.hid hg
  have hsrc' := Lib.hid hsrc
  have hn' := Lib.hid hn
  have hk' := Lib.hid hk
  have hll' := Lib.hid hll
  clear hll hk hn hsrc hg hd hno hz
  clear hl
  go_enter Tryd.func97, Tryd.ntmps97
  go_wp2_with fail
  go_quiet (fail)
  go_wp2_with fail
  refine wp_tail 13 (by kernel_rfl) (by kernel_rfl) ?_
  simp only [List.take_succ_cons, List.take_zero, List.drop_succ_cons, List.drop_zero]
  repeat still_step
  refine wpStill_nil ?_
  refine wpList_copyK rfl (.tmp 21) (.tmp 33) 42 42 rfl 5 Tryd.underlying42 (by kernel_rfl) g off len c rfl (some ⟨db, p, none⟩) (n - p) (cap - p) rfl (data.drop p) (hsrc'.out.drewN (nq + 1)) L t (hg'.out.drewN (nq + 1)) k hk'.out (by omega) ?_
  intro w1 hg1 hc1
  have hz1 := (hz'.out.drewN (nq + 1)).ch hc1 (by simp; omega)
  have hd1 := (hd'.out.drewN (nq + 1)).ch hc1 (by simp; omega)
  have hno1 := (hno'.out.drewN (nq + 1)).ch hc1 (by simp; omega)
  have c1 := hz1.cell 2
  have f1 := hz1.free 2
  simp at c1
  have hz1' := Lib.hid hz1
  have hno1' := Lib.hid hno1
  have hd1' := Lib.hid hd1
  have hg1' := Lib.hid hg1
  have hc1' := Lib.hid hc1
  clear hc1 hg1 hd1 hno1 hz1
  go_wp2_with fail
  go_ret2
  have e := hn'.out
  have hdl := hdl
  refine ⟨rfl, ⟨data, p + k, cap, dk, nm, sy, md, by simpa [e] using hz1'.out.set 2 (.int .i64 ((p : Int) + (k : Int))), hno1'.out.far (p := ⟨zb, 2, none⟩) (fun h => hzn h.symm) _, hd1'.out.far (p := ⟨zb, 2, none⟩) (fun h => hzd h.symm) _, by omega, by omega, hcap2, by rw [List.drop_drop, Nat.add_comm], hzn, hzd, by have := hc1'.out.size; simp at this ⊢; omega⟩, hg1'.out.far (p := ⟨zb, 2, none⟩) hgz _, ?_⟩
  exact (((Ch.refl [zb, g] w).drewN (nq + 1)).trans' hc1'.out (by simp)).setCell (p := ⟨zb, 2, none⟩) (.inl (by simp)) _

set_option maxHeartbeats 2000000 in
set_option maxRecDepth 10000 in
theorem frRead_end (zb nb db g off len c : Nat) (w : World) (h : Fr zb nb db [] w) (hgl : Gl w) (L : List Value) (t : TypeId) (hg : Bk w g t L.toArray) (_hfit : off ≤ L.length) (_hgz : g ≠ zb) (_hgd : g ≠ db) (_hgn : g ≠ nb) (_hgG : glN ≤ g) :
    Calls Tryd.prog 97 #[.pointer (some ⟨zb, 0, none⟩), .slice (some ⟨g, off, none⟩) len c] w fun e w' =>
      (∃ a, e = .returned (.tuple #[.int .i64 0, .iface 119 (.pointer (some a))]) ∧ w.cell? ⟨3, 0, none⟩ = some (.iface 119 (.pointer (some a)))) ∧ Fr zb nb db [] w' ∧ Bk w' g t L.toArray ∧ Ch [zb, g] w w' := by
  have hback := h
  obtain ⟨data, p, cap, dk, nm, sy, md, hz, hno, hd, hp, hcap, hcap2, hnil, hzn, hzd, hdl⟩ := h
  obtain ⟨a, ha⟩ := hgl.eof
  have hpe : p = data.length := by
    have := congrArg List.length hnil
    simp at this
    omega
  subst hpe
  obtain ⟨n, hn⟩ : ∃ n, data.length = n := ⟨_, rfl⟩
  have c0 := hno.cell 1
  have c1 := hz.cell 2
  have c2 := hz.cell 1
  simp at c0 c1 c2
  rw [hn] at c0 c1
  have hz' := Lib.hid hz
  have hno' := Lib.hid hno
  have hd' := Lib.hid hd
  have hg' := Lib.hid hg
  have hn' := Lib.hid hn
  have hback' := Lib.hid hback
  clear hback hn hg hd hno hz
  go_enter Tryd.func97, Tryd.ntmps97
  go_wp2_with fail
  go_quiet (fail)
  obtain ⟨n1, rfl⟩ : ∃ n1, n1 = nq := ⟨_, rfl⟩
  go_wp2_with fail
  go_quiet (fail)
  go_wp2_with fail
  go_ret2
  exact ⟨⟨a, rfl, ha⟩, hback'.out.ch (((Ch.refl [] w).drewN n1).drewN _) (by simp) (by simp) (by simp), (hg'.out.drewN n1).drewN _, ((Ch.refl [zb, g] w).drewN n1).drewN _⟩
end Go.Proofs.YtkjgkjmaoebeoaaDoor
