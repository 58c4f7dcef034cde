/-
  discardStats.Update.
-/
import Derived.Defers
import Derived.Deep.DeepCutAuto
import Derived.Deep.RegionHeld3
import Derived.BigQuiet
import Derived.Test.YtjioghedokbgcaaDoorDisV
namespace Go.Proofs.YtjioghedokbgcaaDoor
open Go Go.RowKit
open Go.Proofs

/-- The place of the first field, which has no size, is the struct's own. -/
theorem partAt_self {sb : Nat} {cs : Array Value} {W : World} (h : Bk W sb 64 cs) : (partAt ⟨sb, 0, none⟩ 0 0).run Tryd.prog W = .ok ⟨sb, 0, none⟩ W := by
  have hc : Tryd.prog.cellsOf 64 ≠ 0 := by decide +kernel
  have hb : byteOfCell Tryd.prog Tryd.prog.depth 64 0 = some 0 := by decide +kernel
  have hs : W.shape? sb = some (64, cs.size) := by
    unfold Bk at h
    simp [World.shape?, h]
  have hv : (viewAt sb).run Tryd.prog W = .ok none W := by
    unfold viewAt
    simp [go_sem, hs]
  unfold partAt byteOf noView
  simp [go_sem, hv, hs, hc, hb]

theorem stepV_pos (o : Option Nat) (M : Nat) (h : 0 < M) : stepV o (M : Int) = some (o.getD 0 + M) := by
  unfold stepV
  rw [if_neg (by omega), if_neg (by omega)]
  simp
theorem stepV_none (N : Int) (h : N ≤ 0) : stepV none N = none := by
  unfold stepV
  split
  · rfl
  · rw [if_pos (by omega)]

theorem lock_any (p : Addr) (W : World) : Calls Tryd.prog 18 #[.pointer (some p)] W fun e w' => e = .returned (.tuple #[]) ∧ w' = W := by
  go_enter Tryd.func18, Tryd.ntmps18
  go_wp2_with fail
  go_end0
  exact ⟨rfl, rfl⟩

theorem unlock_deferred (p : Addr) (u : FrameMode) (W : World) : CallsD Tryd.prog 19 #[.pointer (some p)] u W fun e u' w' => u' = u ∧ (e = .returned (.tuple #[]) ∧ w' = W) := by
  go_enter_d Tryd.func19, Tryd.ntmps19
  go_wp2_with fail
  go_end0
  exact ⟨rfl, rfl⟩

theorem check_nil (W : World) : Calls Tryd.prog 23 #[.nilIface] W fun e w' => e = .returned (.tuple #[]) ∧ w' = W := by
  go_enter Tryd.func23, Tryd.ntmps23
  go_wp2_with fail
  go_end0
  exact ⟨rfl, rfl⟩

set_option maxHeartbeats 2000000 in
set_option maxRecDepth 20000 in
theorem update_any (sb mb fb kb nb db s : Nat) (cs : Array Value) (nodes now name synced md at_ : Value) (rest : List UInt8) (d : Array (Nat × Nat)) (W : World) (f : Nat) (N : Int)
    (h : StatAt sb mb fb kb nb db s cs nodes now name synced md at_ rest d W) (hroom : 16 * d.size + 16 ≤ (rowsB d.toList ++ rest).length) (hA : Asc d.toList) (hd : d.size ≤ 100) (hf : f < 4294967296) (hN : -9223372036854775808 ≤ N) (hN2 : (d.toList.lookup f).getD 0 + N.toNat < 9223372036854775808) :
    Calls Tryd.prog 8 #[.pointer (some ⟨sb, 0, none⟩), .int .u32 (f : Int), .int .i64 N] W fun e w' => e = .returned (.int .i64 (((stepV (d.toList.lookup f) N).getD 0 : Nat) : Int)) ∧
      UpdPost sb mb fb kb nb db nodes now name md at_ d f (stepV (d.toList.lookup f) N) W w' := by
  have hmf : ∀ (fn : Fn) (first cap : Array Value) (w : World), (Instr.makeFunc fn first cap).run Tryd.prog w = .ok (.func fn first cap) w := fun _ _ _ _ => rfl
  have uw : IntKind.u64.wrap (f : Int) = (f : Int) := IntWalk.u64_in _ (by omega)
  have hn100 : d.size ≤ 100 := hd
  obtain ⟨n, hn⟩ : ∃ n, d.size = n := ⟨_, rfl⟩
  obtain ⟨wc, hwc⟩ : ∃ w, (W.alloc (.cells #[.pointer (some ⟨sb, 0, none⟩)] 38)).alloc (.cells #[.int .u64 (f : Int)] 32) = w := ⟨_, rfl⟩
  have hlb : Bk wc W.heap.size 38 #[.pointer (some ⟨sb, 0, none⟩)] := by rw [← hwc]; exact (Bk.new _ _ _).alloc _
  have hfb : Bk wc (W.heap.size + 1) 32 #[.int .u64 (f : Int)] := by rw [← hwc]; exact Bk.at_ _ _ _ _ (by simp)
  have hC : Ch [] W wc := by rw [← hwc]; exact ((Ch.refl [] W).alloc _).alloc _
  have h1 := h.ch hC
  have c44 := h1.mem.mem.fn
  have clb := hlb.cell 0
  have cfb := hfb.cell 0
  simp at clb cfb
  have hs := search_any h1.fix wc d W.heap.size (W.heap.size + 1) f h1.rel clb cfb
  rw [hn] at c44 hs
  have hpart := partAt_self h1.mem.stat
  have h' := Lib.hid h
  have hroom' := Lib.hid hroom
  have hA' := Lib.hid hA
  have hN2' := Lib.hid hN2
  have hlb' := Lib.hid hlb
  have hfb' := Lib.hid hfb
  have hC' := Lib.hid hC
  have h1' := Lib.hid h1
  have hs' := Lib.hid hs
  clear hs h1 hC hfb hlb hN2 hA hroom h
  go_enter_defers Tryd.func8, Tryd.ntmps8
  go_upto_region 2 with fail
  clear hwc
  go_wp2_with fail
  with_reducible refine (lock_any _ _).mono ?_
  rintro e wc ⟨rfl, rfl⟩
  go_wp2_with fail
  with_reducible refine hs'.out.mono ?_
  rintro e w2 ⟨k, rfl, hk, hk1, hk2, hR2, hb2⟩
  have h2 := h1'.out.below hb2
  have c44 := h2.mem.mem.fn
  have hlb2 := hlb'.out.below hb2 hlb'.out.lt
  have hfb2 := hfb'.out.below hb2 hfb'.out.lt
  have clb2 := hlb2.cell 0
  have cfb2 := hfb2.cell 0
  simp at clb2 cfb2
  have hC2 := hC'.out.trans_nil (Ch.of_below hb2)
  rw [hn] at c44
  clear clb cfb
  have h2' := Lib.hid h2
  have hlb2' := Lib.hid hlb2
  have hfb2' := Lib.hid hfb2
  have hC2' := Lib.hid hC2
  have hk1' := Lib.hid hk1
  have hk2' := Lib.hid hk2
  have hR2' := Lib.hid hR2
  have hb2' := Lib.hid hb2
  clear hb2 hR2 hk2 hk1 hC2 hfb2 hlb2 h2
  go_upto_region 5 with fail
  go_cut [39] from 13 to 119 (fun v39 wx => v39 = .bool (decide (k < d.size ∧ d[k]!.1 = f)) ∧ Ch [] w2 wx)
  case first =>
    by_cases hkn : k < n
    · have hkI : (k : Int) < (n : Int) := by omega
      have hget := (h2'.out.ch ((Ch.refl [] w2).drew)).fid (i := k) (by rw [hn]; exact hkn)
      have w16 : IntKind.i64.wrap ((k : Int) * 16) = ((16 * k : Nat) : Int) := (IntWalk.i64_in _ (by omega)).trans (by omega)
      obtain ⟨p, hp⟩ : ∃ p, 16 * k = p := ⟨_, rfl⟩
      obtain ⟨x, hx⟩ : ∃ x, d[k]!.1 = x := ⟨_, rfl⟩
      rw [hp] at hget w16
      rw [hx] at hget
      have hfl := hfb2'.out.lt
      have hll := hlb2'.out.lt
      have hsl := h2'.out.mem.stat.lt
      have hget' := Lib.hid hget
      have hp' := Lib.hid hp
      have hx' := Lib.hid hx
      clear hx hp hget
      by_cases hxf : x = f
      · have hxI : (x : Int) = (f : Int) := by omega
        go_region_held3 (fun w' => w'.cell? ⟨W.heap.size, 0, none⟩ = some (.pointer (some ⟨sb, 0, none⟩)) ∧ w'.cell? ⟨W.heap.size + 1, 0, none⟩ = some (.int .u64 (f : Int)) ∧ w'.cell? ⟨sb, 44, none⟩ = some (.int .i64 (n : Int))) (first | exact ⟨clb2, cfb2, c44⟩ | exact ⟨q0, q1, q2⟩) (first | (go_at_call 16; refine hget'.out.mono ?_; rintro e w3 ⟨rfl, hb3⟩; have q0 := (hb3.cell (p := ⟨W.heap.size, 0, none⟩) hll).trans clb2; have q1 := (hb3.cell (p := ⟨W.heap.size + 1, 0, none⟩) hfl).trans cfb2; have q2 := (hb3.cell (p := ⟨sb, 44, none⟩) hsl).trans c44))
        all_goals
          go_wp2_with fail
          go_meet
          refine ⟨?_, (Ch.refl [] w2).drew.trans (Ch.of_below hb3)⟩
          rw [hx'.out, hn]
          simp [hkn, hxf]
      · have hxI : ¬ (x : Int) = (f : Int) := by omega
        go_region_held3 (fun w' => w'.cell? ⟨W.heap.size, 0, none⟩ = some (.pointer (some ⟨sb, 0, none⟩)) ∧ w'.cell? ⟨W.heap.size + 1, 0, none⟩ = some (.int .u64 (f : Int)) ∧ w'.cell? ⟨sb, 44, none⟩ = some (.int .i64 (n : Int))) (first | exact ⟨clb2, cfb2, c44⟩ | exact ⟨q0, q1, q2⟩) (first | (go_at_call 16; refine hget'.out.mono ?_; rintro e w3 ⟨rfl, hb3⟩; have q0 := (hb3.cell (p := ⟨W.heap.size, 0, none⟩) hll).trans clb2; have q1 := (hb3.cell (p := ⟨W.heap.size + 1, 0, none⟩) hfl).trans cfb2; have q2 := (hb3.cell (p := ⟨sb, 44, none⟩) hsl).trans c44))
        all_goals
          go_wp2_with fail
          go_meet
          refine ⟨?_, (Ch.refl [] w2).drew.trans (Ch.of_below hb3)⟩
          rw [hx'.out, hn]
          simp [hkn, hxf]
          exact hxI
    · have hkI : ¬ (k : Int) < (n : Int) := by omega
      have hkF : decide ((k : Int) < (n : Int)) = false := decide_eq_false hkI
      go_quiet (fail)
      all_goals
        go_wp2_with fail
        go_meet
        refine ⟨?_, (Ch.refl [] w2).drewN _⟩
        rw [hn]
        simp [hkn]
  case rest =>
  obtain ⟨rfl, hCc⟩ := hcut
  have h3 := h2'.out.ch hCc
  have hlb3 := hlb2'.out.ch hCc (by simp)
  have hfb3 := hfb2'.out.ch hCc (by simp)
  have hC3 := hC2'.out.trans hCc
  have c44 := h3.mem.mem.fn
  have clb3 := hlb3.cell 0
  have cfb3 := hfb3.cell 0
  simp at clb3 cfb3
  rw [hn] at c44
  clear clb2 cfb2
  by_cases hfound : k < d.size ∧ d[k]!.1 = f
  · obtain ⟨hkd, hkf⟩ := hfound
    have hlook := found_law hA'.out hkd hkf
    have hval := h3.val hkd
    have hlt2 := (h3.fits k hkd).2
    obtain ⟨x, hx⟩ : ∃ x, d[k]!.2 = x := ⟨_, rfl⟩
    rw [hx] at hval hlook hlt2
    have w16 : IntKind.i64.wrap ((k : Int) * 16) = (k : Int) * 16 := IntWalk.i64_in _ (by omega)
    have w8 : IntKind.i64.wrap ((k : Int) * 16 + 8) = ((16 * k + 8 : Nat) : Int) := (IntWalk.i64_in _ (by omega)).trans (by omega)
    obtain ⟨p, hp⟩ : ∃ p, 16 * k + 8 = p := ⟨_, rfl⟩
    rw [hp] at hval w8
    have xw : IntKind.i64.wrap (x : Int) = (x : Int) := IntWalk.i64_in _ (by omega)
    simp only [hkd, hkf, and_self, decide_true]
    have h3' := Lib.hid h3
    have hlb3' := Lib.hid hlb3
    have hfb3' := Lib.hid hfb3
    have hC3' := Lib.hid hC3
    have hCc' := Lib.hid hCc
    have hx' := Lib.hid hx
    have hp' := Lib.hid hp
    have hval' := Lib.hid hval
    have hlook' := Lib.hid hlook
    clear hlook hval hp hx hCc hC3 hfb3 hlb3 h3
    go_wp2_with fail
    refine hval'.out.mono ?_
    rintro e w4 ⟨rfl, hb4⟩
    have h4 := h3'.out.below hb4
    have hlb4 := hlb3'.out.below hb4 hlb3'.out.lt
    have hC4 := hC3'.out.trans_nil (Ch.of_below hb4)
    have clb4 := hlb4.cell 0
    simp at clb4
    clear clb3 cfb3 c44
    have h4' := Lib.hid h4
    have hlb4' := Lib.hid hlb4
    have hC4' := Lib.hid hC4
    have hb4' := Lib.hid hb4
    clear hb4 hC4 hlb4 h4
    rcases Int.lt_trichotomy N 0 with hN0 | hN0 | hN0
    · have hNz : (N == 0) = false := by simpa using Int.ne_of_lt hN0
      have hset := disSet_any sb mb db _ _ d.size p 0 _ w4 h4'.out.mem.mem h4'.out.mem.file.data rfl (Nat.le_refl _) (by rw [← hp'.out]; have := h4'.out.room; omega) (by have := h4'.out.most; omega) (by omega)
      rw [show ((0 : Nat) : Int) = 0 from rfl] at hset
      have hset' := Lib.hid hset
      clear hset
      go_wp2_with fail
      refine hset'.out.mono ?_
      rintro e w5 ⟨rfl, hB5, hg5⟩
      have hB5' := Lib.hid hB5
      have hg5' := Lib.hid hg5
      clear hg5 hB5
      go_wp2_with fail
      refine leaves_cons (f := 19) (args := #[.pointer (some ⟨sb, 0, none⟩)]) (by simp) (by simp [go_sem]) ?_
      refine (unlock_deferred _ .returning _).mono ?_
      rintro e u' w'' ⟨rfl, rfl, rfl⟩
      refine ⟨_, results_tmp rfl _ _ _, ?_⟩
      refine ⟨?_, ?_⟩
      · rw [hlook'.out]; simp [stepV, hN0]
      · rw [hlook'.out, show stepV (some x) N = some 0 by simp [stepV, hN0]]
        have hB := hB5'.out
        rw [← hp'.out] at hB
        exact upd_set h4'.out hroom'.out hA'.out hC4'.out k f 0 hkd hkf (by omega) hB hg5'.out
    · have hNz : (N == 0) = true := by simpa using hN0
      go_wp2_with fail
      refine leaves_cons (f := 19) (args := #[.pointer (some ⟨sb, 0, none⟩)]) (by simp) (by simp [go_sem]) ?_
      refine (unlock_deferred _ .returning _).mono ?_
      rintro e u' w'' ⟨rfl, rfl, rfl⟩
      refine ⟨_, results_tmp rfl _ _ _, ?_⟩
      refine ⟨?_, upd_same h4'.out hroom'.out hA'.out hC4'.out f _ (by rw [hlook'.out, hN0]; simp [stepV])⟩
      rw [hlook'.out, hN0]
      simp [stepV]
    · obtain ⟨M, rfl⟩ : ∃ M : Nat, N = (M : Int) := ⟨N.toNat, by omega⟩
      have hM0 : 0 < M := by omega
      have hNz : ((M : Int) == 0) = false := by simpa using Nat.ne_of_gt hM0
      have hNn : ¬ (M : Int) < 0 := by omega
      have hsum := hN2'.out
      rw [hlook'.out] at hsum
      simp at hsum
      have uM : IntKind.u64.wrap (M : Int) = (M : Int) := IntWalk.u64_in _ (by omega)
      have ux : IntKind.u64.wrap ((x : Int) + (M : Int)) = ((x + M : Nat) : Int) := (IntWalk.u64_in _ (by omega)).trans (by omega)
      have ix : IntKind.i64.wrap ((x + M : Nat) : Int) = ((x + M : Nat) : Int) := IntWalk.i64_in _ (by omega)
      have hset := disSet_any sb mb db _ _ d.size p (x + M) _ w4 h4'.out.mem.mem h4'.out.mem.file.data rfl (Nat.le_refl _) (by rw [← hp'.out]; have := h4'.out.room; omega) (by have := h4'.out.most; omega) (by omega)
      obtain ⟨y, hy⟩ : ∃ y, x + M = y := ⟨_, rfl⟩
      rw [hy] at ux ix hset hsum
      have hset' := Lib.hid hset
      have hsum' := Lib.hid hsum
      have hy' := Lib.hid hy
      clear hy hsum hset
      go_wp2_with fail
      refine hset'.out.mono ?_
      rintro e w5 ⟨rfl, hB5, hg5⟩
      have hB5' := Lib.hid hB5
      have hg5' := Lib.hid hg5
      clear hg5 hB5
      go_wp2_with fail
      refine leaves_cons (f := 19) (args := #[.pointer (some ⟨sb, 0, none⟩)]) (by simp) (by simp [go_sem]) ?_
      refine (unlock_deferred _ .returning _).mono ?_
      rintro e u' w'' ⟨rfl, rfl, rfl⟩
      refine ⟨_, results_tmp rfl _ _ _, ?_⟩
      refine ⟨?_, ?_⟩
      · rw [hlook'.out, stepV_pos _ _ hM0]; simp [hy'.out]
      · rw [hlook'.out, stepV_pos _ _ hM0, Option.getD_some, hy'.out]
        have hB := hB5'.out
        rw [← hp'.out] at hB
        exact upd_set h4'.out hroom'.out hA'.out hC4'.out k f y hkd hkf hsum'.out hB hg5'.out
  · have hdec : decide (k < d.size ∧ d[k]!.1 = f) = false := decide_eq_false hfound
    rw [hdec]
    have hab := absent_law (d := d) (k := k) (f := f) hA'.out (by omega) (fun hlt => by have := hk1'.out (by rw [← hn]; exact hlt); rcases Nat.lt_or_eq_of_le this with h | h; exact h; exact absurd ⟨hlt, h.symm⟩ hfound) hk2'.out
    have hlook := lookup_none hab
    clear hdec
    by_cases hNp : N ≤ 0
    · have hNN := hNp
      have h3' := Lib.hid h3
      have hlb3' := Lib.hid hlb3
      have hfb3' := Lib.hid hfb3
      have hC3' := Lib.hid hC3
      have hCc' := Lib.hid hCc
      have hab' := Lib.hid hab
      have hlook' := Lib.hid hlook
      have hfound' := Lib.hid hfound
      clear hfound hlook hab hCc hC3 hfb3 hlb3 h3
      go_wp2_with fail
      refine leaves_cons (f := 19) (args := #[.pointer (some ⟨sb, 0, none⟩)]) (by simp) (by simp [go_sem]) ?_
      refine (unlock_deferred _ .returning _).mono ?_
      rintro e u' w'' ⟨rfl, rfl, rfl⟩
      refine ⟨_, results_tmp rfl _ _ _, ?_⟩
      exact ⟨by rw [hlook'.out, stepV_none N hNN]; rfl, upd_same h3'.out hroom'.out hA'.out hC3'.out f _ (by rw [hlook'.out, stepV_none N hNN])⟩
    · obtain ⟨M, rfl⟩ : ∃ M : Nat, N = (M : Int) := ⟨N.toNat, by omega⟩
      have hM0 : 0 < M := by omega
      have hM63 := hN2'.out
      rw [hlook] at hM63
      simp at hM63
      have uM : IntKind.u64.wrap (M : Int) = (M : Int) := IntWalk.u64_in _ (by omega)
      have w16 : IntKind.i64.wrap ((n : Int) * 16) = ((16 * n : Nat) : Int) := (IntWalk.i64_in _ (by omega)).trans (by omega)
      have w8 : IntKind.i64.wrap (((16 * n : Nat) : Int) + 8) = ((16 * n + 8 : Nat) : Int) := (IntWalk.i64_in _ (by omega)).trans (by omega)
      have hroom3 := hroom'.out
      have hmost := h3.most
      have hset := disSet_any sb mb db _ _ d.size (16 * d.size) f _ wc h3.mem.mem h3.mem.file.data rfl (Nat.le_refl _) (by omega) (by omega) (by omega)
      obtain ⟨p, hp⟩ : ∃ p, 16 * n = p := ⟨_, rfl⟩
      rw [hn, hp] at hset
      rw [hp] at w16 w8
      have h3' := Lib.hid h3
      have hlb3' := Lib.hid hlb3
      have hfb3' := Lib.hid hfb3
      have hC3' := Lib.hid hC3
      have hCc' := Lib.hid hCc
      have hab' := Lib.hid hab
      have hlook' := Lib.hid hlook
      have hfound' := Lib.hid hfound
      have hset' := Lib.hid hset
      have hp' := Lib.hid hp
      have hroom3' := Lib.hid hroom3
      have hmost' := Lib.hid hmost
      clear hmost hroom3 hp hset hfound hlook hab hCc hC3 hfb3 hlb3 h3
      go_wp2_with fail
      refine hset'.out.mono ?_
      rintro e w4 ⟨rfl, hB4, hg4⟩
      have hdl := h'.out.mem.file.data.lt
      have hlbd : W.heap.size ≠ db := by omega
      have hC4 := Ch.of_grown hg4
      have hlb4 := hlb3'.out.ch hC4 (by simpa using hlbd)
      have hfb4 := hfb3'.out.ch hC4 (by simp; omega)
      have hst4 := h3'.out.mem.stat.ch hC4 (by simpa using h3'.out.mem.sd)
      have mem4 : DisMem sb mb db _ _ d.size w4 := ⟨(hst4.cell 0).trans h3'.out.mem.c0, (hst4.cell 44).trans h3'.out.mem.c44, hg4.cell h3'.out.mem.mem.fd (by simpa using h3'.out.mem.md_)⟩
      have clb4 := hlb4.cell 0
      have cfb4 := hfb4.cell 0
      simp at clb4 cfb4
      have q1 := hroom3'.out
      have q2 := hmost'.out
      have q3 : 16 * n = p := hp'.out
      rw [hn] at q1
      have hset2 := disSet_any sb mb db _ _ d.size (p + 8) M _ w4 mem4 hB4 (splice_len _ _ _ (by rw [Lib.beBytes_length]; omega)) (Nat.le_refl _) (by omega) (by omega) (by omega)
      have w8' : IntKind.i64.wrap ((p : Int) + 8) = ((p + 8 : Nat) : Int) := by rw [w8, ← hp'.out]
      clear clb3 cfb3 c44 w8
      have hC4' := Lib.hid hC4
      have hlb4' := Lib.hid hlb4
      have hfb4' := Lib.hid hfb4
      have hst4' := Lib.hid hst4
      have mem4' := Lib.hid mem4
      have hB4' := Lib.hid hB4
      have hg4' := Lib.hid hg4
      have hset2' := Lib.hid hset2
      clear hset2 hg4 hB4 mem4 hst4 hfb4 hlb4 hC4
      go_wp2_with fail
      refine hset2'.out.mono ?_
      rintro e w5 ⟨rfl, hB5, hg5⟩
      have hC5 := Ch.of_grown hg5
      have hlb5 := hlb4'.out.ch hC5 (by simpa using hlbd)
      have hst5 := hst4'.out.ch hC5 (by simpa using h3'.out.mem.sd)
      have clb5 := hlb5.cell 0
      have c44 : w5.cell? ⟨sb, 44, none⟩ = some (.int .i64 (n : Int)) := by rw [← hn]; exact (hst5.cell 44).trans h3'.out.mem.c44
      have f44 := hst5.free 44
      simp at clb5
      have wn1 : IntKind.i64.wrap ((n : Int) + 1) = ((n + 1 : Nat) : Int) := (IntWalk.i64_in _ (by omega)).trans (by omega)
      have hp1 := StatAt.push h3'.out hroom'.out f M hf hM63 hd (by rw [hn, hp'.out]; exact hB5) (hC4'.out.trans hC5)
      obtain ⟨cs2, hcs2⟩ : ∃ x, cs.setIfInBounds 44 (.int .i64 ((d.size + 1 : Nat) : Int)) = x := ⟨_, rfl⟩
      have hDs : (d.push (f, M)).size = n + 1 := by rw [Array.size_push, hn]
      obtain ⟨D, hD⟩ : ∃ x, d.push (f, M) = x := ⟨_, rfl⟩
      rw [hcs2, hn, hD] at hp1
      rw [hD] at hDs
      have hlb6 : Bk (w5.setCell ⟨sb, 44, none⟩ (.int .i64 ((n + 1 : Nat) : Int))) W.heap.size 38 #[.pointer (some ⟨sb, 0, none⟩)] := hlb5.far (p := ⟨sb, 44, none⟩) (by have := h'.out.mem.stat.lt; show W.heap.size ≠ sb; omega) _
      have hC6 : Ch [sb, mb, nb, kb, db] W (w5.setCell ⟨sb, 44, none⟩ (.int .i64 ((n + 1 : Nat) : Int))) :=
        (((hC3'.out.mono fun k hk => by cases hk).trans ((hC4'.out.trans hC5).mono fun k hk => .inl (by simp at hk ⊢; simp [hk]))).setCell (p := ⟨sb, 44, none⟩) (.inl (by simp)) _)
      clear cfb4 clb4 q1 q2 q3
      have hC5' := Lib.hid hC5
      have hlb5' := Lib.hid hlb5
      have hst5' := Lib.hid hst5
      have hB5' := Lib.hid hB5
      have hg5' := Lib.hid hg5
      have hp1' := Lib.hid hp1
      have hcs2' := Lib.hid hcs2
      have hDs' := Lib.hid hDs
      have hD' := Lib.hid hD
      have hlb6' := Lib.hid hlb6
      have hC6' := Lib.hid hC6
      clear hC6 hlb6 hD hDs hcs2 hp1 hg5 hB5 hst5 hlb5 hC5
      go_wp2_with fail
      go_loopw [] (fun wx => ∃ (db' s' : Nat) (synced' : Value) (rest' : List UInt8), StatAt sb mb fb kb nb db' s' cs2 nodes now name synced' md at_ rest' D wx ∧ Ch [sb, mb, nb, kb, db] W wx ∧ Bk wx W.heap.size 38 #[.pointer (some ⟨sb, 0, none⟩)] ∧ (db' = db ∨ W.heap.size ≤ db'))
        (fun wx => match wx.cell? ⟨mb, 0, none⟩ with
          | some (.slice _ len _) => 4000 - len
          | _ => 0)
      case atStart => exact ⟨db, _, _, _, hp1'.out, hC6'.out, hlb6'.out, .inl rfl⟩
      case round =>
        obtain ⟨db', s', synced', rest', hS, hCr, hlbr, hdb'⟩ := hrel
        have hlenr := hS.len
        have hroomr := hS.room
        have hmostr := hS.most
        have hleastr := hS.least
        have hstepr := hS.steps
        have clb := hlbr.cell 0
        have c0 := hS.mem.mem.fp
        have c44 := hS.mem.mem.fn
        have cmb := hS.mem.mem.fd
        have hSd := hS.ch ((Ch.refl [] wr).drew)
        have hDs := hDs'.out
        obtain ⟨ℓ, hℓ⟩ : ∃ x, (rowsB D.toList ++ rest').length = x := ⟨_, rfl⟩
        have hms := disMaxSlot_any sb mb db' _ _ _ wr.drew hSd.mem.mem (by omega)
        obtain ⟨q, hq⟩ : ∃ x, ℓ / 16 = x := ⟨_, rfl⟩
        rw [hℓ] at hms hlenr hroomr hmostr hleastr hstepr cmb
        rw [hq] at hms
        rw [hDs] at c44 hlenr hroomr
        simp at clb
        by_cases hge : q ≤ n + 1
        · have hgeI : (q : Int) ≤ ((n + 1 : Nat) : Int) := by omega
          have hS3 : 2 * ℓ ≤ 4000 := by omega
          have w2l : IntKind.i64.wrap (2 * (ℓ : Int)) = ((2 * ℓ : Nat) : Int) := (IntWalk.i64_in _ (by omega)).trans (by omega)
          obtain ⟨z, hz⟩ : ∃ x, 2 * ℓ = x := ⟨_, rfl⟩
          rw [hz] at w2l hS3
          have hS' := Lib.hid hS
          have hCr' := Lib.hid hCr
          have hlbr' := Lib.hid hlbr
          have hSd' := Lib.hid hSd
          have hℓ' := Lib.hid hℓ
          have hq' := Lib.hid hq
          have hz' := Lib.hid hz
          have hlenr' := Lib.hid hlenr
          have hroomr' := Lib.hid hroomr
          have hmostr' := Lib.hid hmostr
          have hleastr' := Lib.hid hleastr
          have hstepr' := Lib.hid hstepr
          have hms' := Lib.hid hms
          clear hms hstepr hleastr hmostr hroomr hlenr hz hq hℓ hSd hlbr hCr hS
          go_wp2_with fail
          go_region_held3 (fun w' => w'.cell? ⟨W.heap.size, 0, none⟩ = some (.pointer (some ⟨sb, 0, none⟩)) ∧ w'.cell? ⟨sb, 0, none⟩ = some (.pointer (some ⟨mb, 0, none⟩)) ∧ w'.cell? ⟨sb, 44, none⟩ = some (.int .i64 ((n + 1 : Nat) : Int)) ∧ w'.cell? ⟨mb, 0, none⟩ = some (.slice (some ⟨db', 0, none⟩) ℓ ℓ)) (exact ⟨clb, c0, c44, cmb⟩) (first | (go_at_call 15; refine hms'.out.mono ?_; rintro e w3 ⟨rfl, rfl⟩))
          all_goals
            have hSdd := hSd'.out.ch ((Ch.refl [] wr.drew).drew)
            have hm3 := hmostr'.out
            have hl3 := hleastr'.out
            have hst3 := hstepr'.out
            have htr := mmapTruncate_any mb fb kb nb db' _ s' z nodes now name synced' md at_ _ wr.drew.drew hSdd.mem.file hSdd.mem.map (by omega) (by rw [hℓ'.out]; omega) (by rw [hℓ'.out]; have := hz'.out; omega) (by have := hz'.out; omega)
            have hSdd' := Lib.hid hSdd
            have hm3' := Lib.hid hm3
            have hl3' := Lib.hid hl3
            have hst3' := Lib.hid hst3
            have htr' := Lib.hid htr
            clear htr hst3 hl3 hm3 hSdd
            go_wp2_with fail
            refine wp_region_noPanic ?_
            go_region_with (first | (go_at_call 24; refine htr'.out.mono ?_; rintro e w6 ⟨rfl, ⟨db2, sy2, hdb2, hF6, hM6⟩, hC6⟩) | (go_at_call 23; refine (check_nil _).mono ?_; rintro e w7 ⟨rfl, rfl⟩))
            all_goals
              refine NoPanic.normal ?_
              have hS7 := StatAt.grow hSdd'.out (by rw [hℓ'.out]; exact hz'.out.symm) hS3 hF6 hM6 hC6
              have c7 := hM6.cell 0
              have hz0 := hz'.out
              have hlb7 := hlbr'.out.drew.drew.ch hC6 (by simp; have := h'.out.mem.map.lt; have := h'.out.mem.file.node.lt; have := h'.out.mem.file.disk.lt; omega)
              have hC7 := hCr'.out.drew.drew.trans (hC6.mono fun k hk => .inl (by simp at hk ⊢; omega))
              have hdb3 : W.heap.size ≤ db2 := Nat.le_trans hCr'.out.size hdb2
              simp at c7
              have hS7' := Lib.hid hS7
              have hF6' := Lib.hid hF6
              have hM6' := Lib.hid hM6
              have hC6' := Lib.hid hC6
              have hlb7' := Lib.hid hlb7
              have hC7' := Lib.hid hC7
              clear hC7 hlb7 hC6 hM6 hF6 hS7
              go_wp2_with fail
              go_roundw
              case rel => exact ⟨db2, _, sy2, _, hS7'.out, hC7'.out, hlb7'.out, .inr hdb3⟩
              case measure =>
                have hl9 := hl3'.out
                rw [c7, cmb]
                simp
                omega
        · have hgeI : ¬ (q : Int) ≤ ((n + 1 : Nat) : Int) := by omega
          have hS' := Lib.hid hS
          have hCr' := Lib.hid hCr
          have hlbr' := Lib.hid hlbr
          have hSd' := Lib.hid hSd
          have hℓ' := Lib.hid hℓ
          have hq' := Lib.hid hq
          have hlenr' := Lib.hid hlenr
          have hroomr' := Lib.hid hroomr
          have hmostr' := Lib.hid hmostr
          have hleastr' := Lib.hid hleastr
          have hstepr' := Lib.hid hstepr
          have hms' := Lib.hid hms
          clear hms hstepr hleastr hmostr hroomr hlenr hq hℓ hSd hlbr hCr hS
          go_wp2_with fail
          go_region_held3 (fun w' => w'.cell? ⟨W.heap.size, 0, none⟩ = some (.pointer (some ⟨sb, 0, none⟩)) ∧ w'.cell? ⟨sb, 0, none⟩ = some (.pointer (some ⟨mb, 0, none⟩)) ∧ w'.cell? ⟨sb, 44, none⟩ = some (.int .i64 ((n + 1 : Nat) : Int)) ∧ w'.cell? ⟨mb, 0, none⟩ = some (.slice (some ⟨db', 0, none⟩) ℓ ℓ)) (exact ⟨clb, c0, c44, cmb⟩) (first | (go_at_call 15; refine hms'.out.mono ?_; rintro e w3 ⟨rfl, rfl⟩))
          all_goals
            have hwd := hSd'.out.mem.file.data
            have hz := zeroOut_any sb mb db' _ _ D.size _ wr.drew hSd'.out.mem.mem hSd'.out.mem.sd hSd'.out.mem.md_ hwd rfl (Nat.le_refl _) (by rw [hℓ'.out, hDs]; have := hq'.out; omega) (by rw [hℓ'.out]; have := hmostr'.out; omega)
            have hwd' := Lib.hid hwd
            have hz' := Lib.hid hz
            clear hz hwd
            go_wp2_with fail
            refine hz'.out.mono ?_
            rintro e w6 ⟨rfl, hB6, hg6⟩
            have hC7 := Ch.of_grown hg6
            obtain ⟨rest6, hr6, hS6⟩ := StatAt.zeros hSd'.out (by rw [hℓ'.out, hDs]; have := hq'.out; omega) _ _ (Lib.beBytes_length 8 0) (Lib.beBytes_length 8 0) hB6 hg6
            have hlb6 := (hlbr'.out.drew).ch hC7 (by simpa using hlbr'.out.apart hSd'.out.mem.file.data (by decide))
            have clb6 := hlb6.cell 0
            simp at clb6
            have hsort := disSort_any hS6.fix D w6 hS6.rel
            have hS6' := Lib.hid hS6
            have hC7' := Lib.hid hC7
            have hg6' := Lib.hid hg6
            have hB6' := Lib.hid hB6
            have hlb6' := Lib.hid hlb6
            have hr6' := Lib.hid hr6
            have hsort' := Lib.hid hsort
            clear hsort hr6 hlb6 hB6 hg6 hC7 hS6
            go_wp2_with fail
            refine hsort'.out.mono ?_
            rintro e w8 ⟨rfl, hR8⟩
            have hnew := sort_new hA'.out hab'.out M
            rw [hD'.out] at hnew
            obtain ⟨hA8, hs8, hm8, hl8⟩ := hnew
            have hS8 := StatAt.perm hS6'.out hR8 (fun x hx => by
              rw [← hD'.out]
              rcases (hm8 x).1 hx with h1 | h1
              · simp [h1]
              · simp [h1])
            have hlen8 := hS8.len
            rw [hs8, hr6'.out] at hlen8
            have hC8 : Ch [sb, mb, nb, kb, db] W w8 := (hCr'.out.drew).trans' (hC7'.out.trans hR8.ch_db) fun k hk => by
              simp at hk
              subst hk
              rcases hdb' with h1 | h1
              · exact .inl (by simp [h1])
              · exact .inr h1
            have hR8' := Lib.hid hR8
            have hA8' := Lib.hid hA8
            have hs8' := Lib.hid hs8
            have hm8' := Lib.hid hm8
            have hl8' := Lib.hid hl8
            have hS8' := Lib.hid hS8
            have hC8' := Lib.hid hC8
            have hlen8' := Lib.hid hlen8
            clear hlen8 hC8 hS8 hl8 hm8 hs8 hA8 hR8
            go_wp2_with fail
            refine leaves_cons (f := 19) (args := #[.pointer (some ⟨sb, 0, none⟩)]) (by simp) (by simp [go_sem]) ?_
            refine (unlock_deferred _ .returning _).mono ?_
            rintro e u' w'' ⟨rfl, rfl, rfl⟩
            refine ⟨_, results_tmp rfl _ _ _, ?_⟩
            refine ⟨?_, ⟨db', s', cs2, synced', rest6, _, hS8'.out, ?_, hA8'.out, Nat.le_of_eq hs8'.out, fun g => ?_, hdb'⟩, hC8'.out⟩
            · rw [hlook'.out, stepV_pos _ _ hM0]; simp
            · have h1 := hlen8'.out
              have h2 := hs8'.out
              have h3 := hlenr'.out
              have h4 := hq'.out
              have h5 := hℓ'.out
              omega
            · rw [hl8'.out g, hlook'.out, stepV_pos _ _ hM0]; simp
end Go.Proofs.YtjioghedokbgcaaDoor
