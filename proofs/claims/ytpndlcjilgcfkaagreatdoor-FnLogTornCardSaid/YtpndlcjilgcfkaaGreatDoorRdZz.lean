/-
  Contract of zz.reader.Read: what is behind the place is handed out; at the end io.EOF.
-/
import Derived.Test.YtpndlcjilgcfkaaGreatDoorGl
import Derived.Test.YtpndlcjilgcfkaaGreatDoorTail
namespace Go.Proofs.YtpndlcjilgcfkaaGreatDoor
open Go Go.RowKit
open Go.Proofs

/-- The source: a reader at block zb over the bytes of block db; these are left. -/
def Sr (zb db : Nat) (l : List UInt8) (w : World) : Prop :=
  ∃ (data : List UInt8) (p cap : Nat), Bk w zb 172 #[.slice (some ⟨db, 0, none⟩) data.length cap, .int .i64 (p : Int)] ∧ Bs w db 0 data ∧ p ≤ data.length ∧ data.length ≤ cap ∧ data.length ≤ 1099511627776 ∧ l = data.drop p ∧ zb ≠ db ∧ db < w.heap.size

theorem Sr.ch {S : List Nat} {zb db : Nat} {l : List UInt8} {w w' : World} (h : Sr zb db l w) (hc : Ch S w w') (h1 : zb ∉ S) (h2 : db ∉ S) : Sr zb db l w' := by
  obtain ⟨data, p, cap, h3, h4, h5, h6, h7, h8, h9, h10⟩ := h
  exact ⟨data, p, cap, h3.ch hc h1, h4.ch hc h2, h5, h6, h7, h8, h9, Nat.lt_of_lt_of_le h10 hc.size⟩

set_option maxHeartbeats 2000000 in
set_option maxRecDepth 10000 in
theorem srRead_some (zb db g off len c : Nat) (t : TypeId) (L : List Value) (l : List UInt8) (w : World) (h : Sr zb db l w) (hl : l ≠ []) (hg : Bk w g t L.toArray) (hfit : off + len ≤ L.length)
    (hgz : g ≠ zb) (hgd : g ≠ db) (hlen : 0 < len) (hlen2 : len ≤ 1099511627776) :
    Calls Tryz.prog 151 #[.pointer (some ⟨zb, 0, none⟩), .slice (some ⟨g, off, none⟩) len c] w fun e w' =>
      e = .returned (.tuple #[.int .i64 ((min l.length len : Nat) : Int), .nilIface]) ∧ Sr zb db (l.drop (min l.length len)) w' ∧ Bk w' g t (splice L off (Lib.byteCells (l.take len))).toArray ∧ Ch [zb, g] w w' := by
  obtain ⟨data, p, cap, hz, hd, hp, hcap, hcap2, rfl, hzd, hdl⟩ := h
  have hp2 : p < data.length := by
    rcases Nat.lt_or_ge p data.length with h | h
    · exact h
    · exact absurd (List.drop_eq_nil_of_le h) hl
  obtain ⟨n, hn⟩ : ∃ n, data.length = n := ⟨_, rfl⟩
  have c0 := hz.cell 0
  have c1 := hz.cell 1
  have f1 := hz.free 1
  simp at c0 c1
  have hll : (data.drop p).length = n - p := by simp [hn]
  rw [hll]
  obtain ⟨k, hk⟩ : ∃ k, min (n - p) len = k := ⟨_, rfl⟩
  have hk0 : 0 < k := by omega
  have hk1 : ¬ ((k : Int) = 0) := by omega
  have hkn : p + k ≤ n := by omega
  have hkl : k ≤ len := by omega
  have wpk : IntKind.i64.wrap ((p : Int) + (k : Int)) = ((p + k : Nat) : Int) := (IntWalk.i64_in _ (by omega)).trans (by omega)
  rw [hk]
  have hn1 : n ≤ 1099511627776 := by omega
  rw [hn] at c0 hcap hp hp2
  have hcp : ¬ cap = p := by omega
  have hsrc : Src w (some ⟨db, p, none⟩) (n - p) (data.drop p) := ⟨hll, fun _ => ⟨db, p, rfl, by simpa using hd.drop p⟩⟩
  have hz' := Lib.hid hz
  have hd' := Lib.hid hd
  have hg' := Lib.hid hg
  have hsrc' := Lib.hid hsrc
  have hn' := Lib.hid hn
  have hk' := Lib.hid hk
  have hll' := Lib.hid hll
  clear hll hk hn hsrc hg hd hz
  clear hl
  go_enter Tryz.func151, Tryz.ntmps151
  go_wp2_with fail
  go_quiet (fail)
  go_wp2_with fail
  refine wp_tail 10 (by kernel_rfl) (by kernel_rfl) ?_
  simp only [List.take_succ_cons, List.take_zero, List.drop_succ_cons, List.drop_zero]
  repeat still_step
  refine wpStill_nil ?_
  refine wpList_copyK rfl (.tmp 18) (.tmp 27) 22 22 rfl 5 Tryz.underlying22 (by kernel_rfl) g off len c rfl (some ⟨db, p, none⟩) (n - p) (cap - p) rfl (data.drop p) (hsrc'.out.drewN (nq + 1)) L t (hg'.out.drewN (nq + 1)) k hk'.out (by omega) ?_
  intro w1 hg1 hc1
  have hz1 := (hz'.out.drewN (nq + 1)).ch hc1 (by simp; omega)
  have hd1 := (hd'.out.drewN (nq + 1)).ch hc1 (by simp; omega)
  have c1 := hz1.cell 1
  have f1 := hz1.free 1
  simp at c1
  have hz1' := Lib.hid hz1
  have hd1' := Lib.hid hd1
  have hg1' := Lib.hid hg1
  have hc1' := Lib.hid hc1
  clear hc1 hg1 hd1 hz1
  go_wp2_with fail
  go_ret2
  have e := hn'.out
  have hdl := hdl
  refine ⟨rfl, ⟨data, p + k, cap, by simpa [e] using hz1'.out.set 1 (.int .i64 ((p : Int) + (k : Int))), hd1'.out.far (p := ⟨zb, 1, none⟩) (fun h => hzd h.symm) _, by omega, by omega, hcap2, by rw [List.drop_drop, Nat.add_comm], hzd, by have := hc1'.out.size; simp at this ⊢; omega⟩, hg1'.out.far (p := ⟨zb, 1, none⟩) hgz _, ?_⟩
  exact (((Ch.refl [zb, g] w).drewN (nq + 1)).trans' hc1'.out (by simp)).setCell (by simp) _

set_option maxHeartbeats 2000000 in
set_option maxRecDepth 10000 in
theorem srRead_end (zb db g off len c : Nat) (w : World) (h : Sr zb db [] w) (hgl : Gl w) (L : List Value) (t : TypeId) (hg : Bk w g t L.toArray) (hfit : off ≤ L.length) (hgz : g ≠ zb) (hgd : g ≠ db) (hgG : glN ≤ g) :
    Calls Tryz.prog 151 #[.pointer (some ⟨zb, 0, none⟩), .slice (some ⟨g, off, none⟩) len c] w fun e w' =>
      (∃ a, e = .returned (.tuple #[.int .i64 0, .iface 191 (.pointer (some a))]) ∧ w.cell? ⟨1, 0, none⟩ = some (.iface 191 (.pointer (some a)))) ∧ Sr zb db [] w' ∧ Bk w' g t L.toArray ∧ Ch [zb, g] w w' := by
  obtain ⟨data, p, cap, hz, hd, hp, hcap, hcap2, hnil, hzd, hdl⟩ := h
  obtain ⟨a, ha⟩ := hgl.eof
  have hpe : p = data.length := by
    have := congrArg List.length hnil
    simp at this
    omega
  subst hpe
  obtain ⟨n, hn⟩ : ∃ n, data.length = n := ⟨_, rfl⟩
  have c0 := hz.cell 0
  have c1 := hz.cell 1
  have f1 := hz.free 1
  simp at c0 c1
  have hn1 : n ≤ 1099511627776 := by omega
  rw [hn] at c0 c1 hcap
  have wpk : IntKind.i64.wrap ((n : Int) + 0) = (n : Int) := (IntWalk.i64_in _ (by omega)).trans (by omega)
  have hz' := Lib.hid hz
  have hd' := Lib.hid hd
  have hg' := Lib.hid hg
  have hn' := Lib.hid hn
  clear hn hg hd hz
  by_cases hcn : cap = n
  all_goals
    go_enter Tryz.func151, Tryz.ntmps151
    go_wp2_with fail
    go_quiet (fail)
    obtain ⟨n1, rfl⟩ : ∃ n1, n1 = nq := ⟨_, rfl⟩
    go_wp2_with fail
    refine wp_tail 10 (by kernel_rfl) (by kernel_rfl) ?_
    simp only [List.take_succ_cons, List.take_zero, List.drop_succ_cons, List.drop_zero]
    repeat still_step
    refine wpStill_nil ?_
    refine wpList_copyK rfl (.tmp 18) (.tmp 27) 22 22 rfl 5 Tryz.underlying22 (by kernel_rfl) g off len c rfl _ 0 _ rfl [] (Src.none_ _) L t (hg'.out.drewN (n1 + 1)) 0 (Nat.zero_min _) (by omega) ?_
    intro w1 hg1 hc1
    have hz1 := (hz'.out.drewN (n1 + 1)).ch hc1 (by simp; omega)
    have hd1 := (hd'.out.drewN (n1 + 1)).ch hc1 (by simp; omega)
    have c1 := hz1.cell 1
    have f1 := hz1.free 1
    simp [hn'.out] at c1
    have ha1 : w1.cell? ⟨1, 0, none⟩ = some (.iface 191 (.pointer (some a))) := by
      have hb := hg'.out
      refine (hc1.cell 0 ?_ ?_).trans ha
      · simpa using block_lt_of_cell ha
      · simp only [List.mem_singleton]
        intro h
        unfold glN at hgG
        omega
    have hz1' := Lib.hid hz1
    have hd1' := Lib.hid hd1
    have hg1' := Lib.hid hg1
    have hc1' := Lib.hid hc1
    clear hc1 hg1 hd1 hz1
    go_wp2_with fail
    go_quiet (fail)
    go_wp2_with fail
    go_ret2
    have e := hn'.out
    have q1 : Bk (w1.setCell ⟨zb, 1, none⟩ (.int .i64 (n : Int))) zb 172 #[.slice (some ⟨db, 0, none⟩) data.length cap, .int .i64 (data.length : Int)] := by simpa [e] using hz1'.out.set 1 (.int .i64 (n : Int))
    have q2 : Bk (w1.setCell ⟨zb, 1, none⟩ (.int .i64 (n : Int))) g t L.toArray := by
      have := hg1'.out.far (p := ⟨zb, 1, none⟩) hgz (.int .i64 (n : Int))
      simpa [splice, Lib.byteCells] using this
    refine ⟨⟨a, rfl, ha⟩, ⟨data, data.length, cap, q1.drewN _, (hd1'.out.far (p := ⟨zb, 1, none⟩) (fun h => hzd h.symm) _).drewN _, Nat.le_refl _, by omega, hcap2, by simp, hzd, by have := hc1'.out.size; simp at this ⊢; omega⟩, q2.drewN _, ?_⟩
    exact ((((Ch.refl [zb, g] w).drewN (n1 + 1)).trans' hc1'.out (fun q hq => .inl (by simp at hq; simp [hq]))).setCell (p := ⟨zb, 1, none⟩) (.inl (by simp)) _).drewN _
end Go.Proofs.YtpndlcjilgcfkaaGreatDoor
