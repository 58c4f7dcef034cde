/-
  Contract of logFile.iterate over ZZEach's closure: the walk.
-/
import Derived.Test.YtpndlcjilgcfkaaGreatDoorIt2b
import Derived.Deep.LoopGhost
import Derived.StillTailTactics
import Derived.WalkMore
namespace Go.Proofs.YtpndlcjilgcfkaaGreatDoor
open Go Go.RowKit
open Go.Proofs

--DEVKERNEL
set_option maxHeartbeats 32000000 in
set_option maxRecDepth 100000 in
theorem iterate_any (B0 lb lfb mb db n cap : Nat) (fd : Value) (b : List UInt8) (w : World) (hgs : Gs B0 w) (hB0 : B0 ≤ lb) (hasked : (readLog b).2.2 = true) (hb20 : 20 ≤ b.length) (hbl : b.length ≤ 1000000000)
    (hl0 : w.cell? ⟨lfb, 0, none⟩ = some (.pointer (some ⟨mb, 0, none⟩))) (hl2 : w.cell? ⟨lfb, 2, none⟩ = some (.int .u32 1)) (hm : Bk w mb 123 #[.slice (some ⟨db, 0, none⟩) n cap, fd])
    (hd : Bs w db 0 b) (hn : b.length = n) (hcap : n ≤ cap) (_ : 0 ≤ cap) (hlz : Bk w lb 52 #[.slice none 0 0]) (hlf : lfb ≠ lb) (hdb : db ≠ lb) (hsy : ∃ te pe, w.cell? ⟨11, 0, none⟩ = some (.iface te pe)) (hrg : ∃ te pe, w.cell? ⟨12, 0, none⟩ = some (.iface te pe)) (hn1 : 11 ≠ lb) (hn2 : 12 ≠ lb) :
    Calls Tryz.prog 37 #[.pointer (some ⟨lfb, 0, none⟩), .bool true, .int .u32 0, .func (.func 38) #[] #[.pointer (some ⟨lb, 0, none⟩)]] w fun e w' =>
      e = .returned (.tuple #[.int .u32 ((readLog b).2.1 : Int), .nilIface]) ∧ (∃ B, w.heap.size ≤ B ∧ Zz B lb w' (readLog b).1) ∧ Ch [lb] w w' := by
  obtain ⟨⟨L, F, ask⟩, hr⟩ : ∃ r, readLog b = r := ⟨_, rfl⟩
  rw [hr] at hasked ⊢
  obtain rfl : ask = true := hasked
  have hmk := run_mkB .i64 .i64 10 10 rfl (by omega)
  have hlfl := block_lt_of_cell hl0
  have hdl : db < w.heap.size := hd.lt (by omega)
  have hlbl := hlz.lt
  have hgs0 := hgs.hB
  have hgs' := Lib.hid hgs
  have hm' := Lib.hid hm
  have hd' := Lib.hid hd
  have hlz' := Lib.hid hlz
  have hr' := Lib.hid hr
  have hsy' := Lib.hid hsy
  have hrg' := Lib.hid hrg
  clear hrg hsy hr hlz hd hm hgs
  go_enter Tryz.func37, Tryz.ntmps37
  go_wp2_with fail
  go_step3
  go_wp2_with fail
  refine (newReader_any mb db n cap fd 20 w hm'.out).mono ?_
  rintro e w1 ⟨rfl, rfl⟩
  go_wp2_with fail
  refine (bufioNew_any _ _).mono ?_
  rintro e w2 ⟨rfl, hr2, hb2, hc2⟩
  go_wp2_with fail
  obtain ⟨B, hB⟩ : ∃ B, w.heap.size = B := ⟨_, rfl⟩
  simp only [hB]
  have hBle := Lib.hid (show w.heap.size ≤ B + 3 by omega)
  have hBle2 := Lib.hid (show w.heap.size ≤ B by omega)
  have hlbB := Lib.hid (show lb < B by omega)
  have hdbB := Lib.hid (show db < B by omega)
  have h2s : B + 3 ≤ w2.heap.size := by have := hb2.lt; simp at this; omega
  have hc2w : Ch [] w w2 := ((Ch.refl [] w).alloc _).trans hc2
  have hr2' := Lib.hid hr2
  have hb2' := Lib.hid hb2
  have hc2' := Lib.hid hc2
  have hc2w' := Lib.hid hc2w
  clear hc2w hc2 hb2 hr2
  go_cut [11] (fun s11 wx => ∃ sb, s11 = .pointer (some ⟨sb, 0, none⟩) ∧ w2.heap.size ≤ sb ∧ Sb sb 20 (.pointer (some ⟨lfb, 0, none⟩)) wx ∧ Ch [] w2 wx)
  case first =>
    as_aux_lemma =>
    go_region
    all_goals (go_wp2_with fail; go_meet; exact ⟨_, rfl, by omega, ⟨_, _, _, _, _, _, Bk.drew (Bk.at_ _ _ _ _ (by simp))⟩, ((((Ch.refl [] w2).alloc _).alloc _).alloc _).drew⟩)
  case rest =>
  obtain ⟨sb, rfl, hsb1, hsb, hcc⟩ := hcut
  have hcw := hc2w'.out.trans_nil hcc
  have hrd : Rd (B + 1) (B + 2) B db (b.drop 20) wc := by
    have k1 := hr2'.out.ch hcc (by simp)
    have k2 := hb2'.out.ch hcc (by simp)
    have k3 := ((Bk.at_ w B 172 #[.slice (some ⟨db, 0, none⟩) n cap, .int .i64 20] hB.symm).ch hc2'.out (by simp)).ch hcc (by simp)
    have e1 : (w.alloc (.cells #[.slice (some ⟨db, 0, none⟩) n cap, .int .i64 20] 172)).heap.size = B + 1 := by simp [hB]
    rw [e1, hB] at k1
    rw [e1] at k2
    have hlt := hcw.size
    refine ⟨0, 0, -1, -1, zeros4096, [], b.drop 20, k1, k2, zeros4096_length, by omega, by omega, rfl, fun j hj => by simp at hj, ⟨b, 20, cap, by rw [hn]; exact k3, hd'.out.ch hcw (by simp), hb20, by omega, by omega, rfl, by omega, by omega⟩, rfl⟩
  have hzz : Zz (B + 3) lb wc [] := ⟨.slice none 0 0, [], hlz'.out.ch hcw (by simp), ⟨by simp, .inl ⟨rfl, rfl⟩⟩, .nil⟩
  have hrel0 : ItRel B0 (B + 3) lb (B + 1) (B + 2) B db sb lfb b (L, F, true) ⟨[], [], 0, 20, 20⟩ (.slice none 0 0) (.slice none 0 0) w wc := {
    h1 := hb20
    h3 := ⟨b.length + 1, by simp; omega, hr'.out⟩
    h4 := by simp
    h5 := hb20
    h6 := by simp
    rd := hrd
    sb := hsb
    gs := hgs'.out.ch hcw (by simp)
    zz := hzz
    ep := ⟨[], ⟨by simp, .inl ⟨rfl, rfl⟩⟩, .nil⟩
    vp := ⟨[], ⟨by simp, .inl ⟨rfl, rfl⟩⟩, .nil⟩
    ch := hcw.mono (by simp) }
  have hsbB : B + 3 ≤ sb := by omega
  clear hsb hcc hcw hrd hzz hr2' hb2' hc2' hc2w' hlz' hr' hgs' hsb1 h2s
  have hrel0' := Lib.hid hrel0
  clear hrel0
  go_wp2_with fail
  go_step3
  go_wp2_with fail
  go_loopg [12, 13, 14, 15] (b.length + 1 - 20) (fun g s12 s13 s14 s15 wx => ∃ s : LSt, s12 = .int .u64 (s.ver : Int) ∧ s13 = .int .u32 (s.fin : Int) ∧ g = b.length + 1 - s.at_ ∧ ItRel B0 (B + 3) lb (B + 1) (B + 2) B db sb lfb b (L, F, true) s s14 s15 w wx)
  case atStart => exact ⟨_, rfl, rfl, rfl, hrel0'.out⟩
  case round =>
    as_aux_lemma =>
    obtain ⟨s, rfl, rfl, rfl, hI⟩ := hrel
    obtain ⟨k, hk, hrun⟩ := hI.h3
    have hkp : 0 < k := by have := hI.h1; omega
    have hat := hI.h1
    have hglB : glN ≤ B0 := hgs0
    have hnb : entryAt (b.drop s.at_) 0 ≠ .bad := by
      intro h
      have h2 := lRun_inr (lStep_bad (entryAt_bad h)) hkp
      rw [hrun] at h2
      cases h2
    have hent := Lib.hid (entry_any B0 sb s.at_ (.pointer (some ⟨lfb, 0, none⟩)) (B + 1) (B + 2) B db (b.drop s.at_) wr ⟨by omega, by omega, by omega, by omega, by omega, by omega, by omega, by omega⟩ hI.gs hI.rd hI.sb ⟨by omega, by omega, by omega, by omega⟩ (by simp; omega) (by omega) hnb (by simp; omega))
    have hSB : ∀ k, k ∈ [sb, B + 1, B + 2, B] → B0 ≤ k := by
      intro k hk
      simp at hk
      omega
    have hS8 : ∀ W : World, (∃ cs, Bk W sb 135 cs) → ∀ t, t ≠ 135 → ∀ b, TyAt W b t → B + 3 ≤ b → b ∉ [sb, B + 1, B + 2, B] := by
      rintro W ⟨cs, h⟩ t ht b h1 h2 hm
      have h3 := h1.ne h.ty ht
      simp at hm
      omega
    have hsbk : ∃ cs, Bk wr sb 135 cs := by
      obtain ⟨_, _, _, _, _, _, h⟩ := hI.sb
      exact ⟨_, h⟩
    have hI' := Lib.hid hI
    have hrun' := Lib.hid hrun
    have hSB' := Lib.hid hSB
    have hS8' := Lib.hid hS8
    have hsbk' := Lib.hid hsbk
    clear hsbk hS8 hSB hrun hI
    go_wp2_with fail
    refine hent.out.mono ?_
    clear hent
    rintro e w1 (⟨hstop, ⟨a, rfl, herr⟩, hc1⟩ | ⟨kk, v, x, m, u, nn, eb, A1, A2, c1, c2, hdok, hk65, hv1m, hlen, hcrc, rfl, hbe, hs1, hs2, hkc, hvc, heb, hr1, hsb1, hc1⟩)
    · have hgs1 := hI'.out.gs.ch hc1 hSB'.out
      have herr1 := herr.fwd hI'.out.gs hc1 hSB'.out
      obtain ⟨a1, e1, p1⟩ := hgs1.eof
      obtain ⟨a2, e2, p2⟩ := hgs1.un
      obtain ⟨a3, e3, p3⟩ := hgs1.tr
      obtain ⟨r1, r2, r3, q1, q2, q3, q4⟩ := stop_tests herr1 hgs1 e1 e2 e3
      have hend := hrun'.out.symm.trans (lRun_inr (lStep_stop (hstop _)) hkp)
      have hL : L = s.l := congrArg Prod.fst hend
      have hF : F = s.fin := congrArg (fun r => r.2.1) hend
      have hdone : Zz (B + 3) lb w1 s.l ∧ Ch [lb] w w1 := ⟨hI'.out.zz.ch hc1 (by simp; omega) (hS8'.out wr hsbk'.out _ (by decide)) (hS8'.out wr hsbk'.out _ (by decide)), hI'.out.ch.trans' hc1 (by intro y hy; simp at hy; omega)⟩
      have hgs1' := Lib.hid hgs1
      have herr1' := Lib.hid herr1
      have hend' := Lib.hid hend
      have hL' := Lib.hid hL
      have hF' := Lib.hid hF
      have hdone' := Lib.hid hdone
      have herr' := Lib.hid herr
      have hstop' := Lib.hid hstop
      have hc1' := Lib.hid hc1
      have p1' := Lib.hid p1
      have p2' := Lib.hid p2
      have p3' := Lib.hid p3
      have q4' := Lib.hid q4
      clear q4 p3 p2 p1 hc1 hstop herr hdone hF hL hend herr1 hgs1
      --<
      as_aux_lemma =>
      cases r1
      · cases r2
        · obtain rfl := q4'.out rfl rfl
          go_wp2_with fail
          try rw [Exit.noGoto_ret]
          go_ret2
          exact ⟨by rw [hF'.out]; rfl, ⟨_, hBle.out, by rw [hL'.out]; exact hdone'.out.1⟩, hdone'.out.2⟩
        · go_wp2_with fail
          try rw [Exit.noGoto_ret]
          go_ret2
          exact ⟨by rw [hF'.out]; rfl, ⟨_, hBle.out, by rw [hL'.out]; exact hdone'.out.1⟩, hdone'.out.2⟩
      · go_wp2_with fail
        try rw [Exit.noGoto_ret]
        go_ret2
        exact ⟨by rw [hF'.out]; rfl, ⟨_, hBle.out, by rw [hL'.out]; exact hdone'.out.1⟩, hdone'.out.2⟩
      -->
    · have hgs1 := hI'.out.gs.ch hc1 hSB'.out
      obtain ⟨a1, e1, p1⟩ := hgs1.eof
      obtain ⟨a2, e2, p2⟩ := hgs1.un
      obtain ⟨a3, e3, p3⟩ := hgs1.tr
      have hnl1 := run_eql_iface_nil_left (P := Tryz.prog) (w := w1) 191 (.pointer (some a1)) Tryz.underlying54
      have hnl2 := run_eql_iface_nil_left (P := Tryz.prog) (w := w1) 191 (.pointer (some a2)) Tryz.underlying54
      have hnl3 := run_eql_iface_nil_left (P := Tryz.prog) (w := w1) 191 (.pointer (some a3)) Tryz.underlying54
      have hent := decOk_entry hdok s.at_
      rw [if_neg (show ¬ (4294967295 < kk ∨ 1048576 < v) by omega), if_neg (show ¬ (65536 < kk ∨ (b.drop s.at_).length < nn + kk + v + 4 ∨ Lib.beNat (((b.drop s.at_).drop (nn + kk + v)).take 4) ≠ crc32 ((b.drop s.at_).take (nn + kk + v))) by
        rintro (h | h | h)
        · omega
        · omega
        · exact h hcrc)] at hent
      have hzz1 : Zz (B + 3) lb w1 s.l := hI'.out.zz.ch hc1 (by simp; omega) (hS8'.out wr hsbk'.out _ (by decide)) (hS8'.out wr hsbk'.out _ (by decide))
      have hch1 : Ch [lb] w w1 := hI'.out.ch.trans' hc1 (by intro y hy; simp at hy; omega)
      have hgs1' := Lib.hid hgs1
      have p1' := Lib.hid p1
      have p2' := Lib.hid p2
      have p3' := Lib.hid p3
      have hent' := Lib.hid hent
      have hzz1' := Lib.hid hzz1
      have hch1' := Lib.hid hch1
      have hdok' := Lib.hid hdok
      have hcrc' := Lib.hid hcrc
      have hbe' := Lib.hid hbe
      have hs1' := Lib.hid hs1
      have hs2' := Lib.hid hs2
      have hr1' := Lib.hid hr1
      have hsb1' := Lib.hid hsb1
      have hc1' := Lib.hid hc1
      clear hc1 hsb1 hr1 hs2 hs1 hbe hcrc hdok hch1 hzz1 hent p3 p2 p1 hgs1
      as_aux_lemma =>
      go_upto_region 15 with fail
      go_wp2_with fail
      refine (isZero_any eb A1 kk c1 _ x s.at_ u m nn w1 hbe'.out).mono ?_
      rintro e w2 ⟨rfl, rfl⟩
      by_cases hk0 : kk = 0
      · have hend := hrun'.out.symm.trans (lRun_inr (lStep_stop (by rw [hent'.out, if_pos hk0])) hkp)
        have hL : L = s.l := congrArg Prod.fst hend
        have hF : F = s.fin := congrArg (fun r => r.2.1) hend
        have hend' := Lib.hid hend
        have hL' := Lib.hid hL
        have hF' := Lib.hid hF
        clear hF hL hend
        subst hk0
        as_aux_lemma =>
        go_wp2_with fail
        try rw [Exit.noGoto_ret]
        go_ret2
        exact ⟨by rw [hF'.out]; rfl, ⟨_, hBle.out, by rw [hL'.out]; exact hzz1'.out⟩, hch1'.out⟩
      · have hstep0 := lStep_got (b := b) (s := s) (hent'.out.trans (if_neg hk0))
        obtain ⟨E, hE⟩ : ∃ E : LEnt, (⟨((b.drop s.at_).drop nn).take kk, ((b.drop s.at_).drop (nn + kk)).take v, m, u, x, s.at_, nn + kk + v + 4⟩ : LEnt) = E := ⟨_, rfl⟩
        rw [hE] at hstep0
        have hlb : (b.drop s.at_).length = b.length - s.at_ := List.length_drop
        have hEk : E.key.length = kk := by rw [← hE]; simp; omega
        have hEv : E.val.length = v := by rw [← hE]; simp; omega
        have hEK : ((b.drop s.at_).drop nn).take kk = E.key := by rw [← hE]
        have hEV : ((b.drop s.at_).drop (nn + kk)).take v = E.val := by rw [← hE]
        have hEl : E.len = nn + kk + v + 4 := by rw [← hE]
        have hEo : E.off = s.at_ := by rw [← hE]
        have hEb : E.bits = m := by rw [← hE]
        have hEu : E.um = u := by rw [← hE]
        have hEx : E.exp = x := by rw [← hE]
        have hnn : nn + kk + v + 4 ≤ 1000000000 := by omega
        have hm8 : m < 256 := by
          obtain ⟨_, _, _, _, _, _, _, _, _, _, _, h, _⟩ := hdok'.out
          rw [h]
          exact UInt8.toNat_lt _
        have ebl := hbe'.out.lt
        have hslt := hI'.out.sb
        obtain ⟨qa1, qn1, qc1, qa2, qn2, qc2, hsbc⟩ := hsb1'.out
        have sbl := hsbc.lt
        have hsc2 := hsbc.cell 2
        have hsf2 := hsbc.free 2
        have be0 := hbe'.out.cell 0
        have be1 := hbe'.out.cell 1
        have be4 := hbe'.out.cell 4
        have be6 := hbe'.out.cell 6
        have be7 := hbe'.out.cell 7
        simp [entC] at be0 be1 be4 be6 be7 hsc2
        have hlfl1 : lfb < w1.heap.size := Nat.lt_of_lt_of_le hlfl hch1'.out.size
        have hl21 : w1.cell? ⟨lfb, 2, none⟩ = some (.int .u32 1) := (hch1'.out.cell 2 hlfl (by simpa using hlf)).trans hl2
        have wr1 : IntKind.i64.wrap ((nn : Int) + (kk : Int)) = (nn : Int) + (kk : Int) := IntWalk.i64_in _ (by omega)
        have wr2 : IntKind.i64.wrap ((nn : Int) + (kk : Int) + (v : Int)) = (nn : Int) + (kk : Int) + (v : Int) := IntWalk.i64_in _ (by omega)
        have wr3 : IntKind.i64.wrap ((nn : Int) + (kk : Int) + (v : Int) + 4) = (nn : Int) + (kk : Int) + (v : Int) + 4 := IntWalk.i64_in _ (by omega)
        have wr4 : IntKind.u32.wrap ((nn : Int) + (kk : Int) + (v : Int) + 4) = (nn : Int) + (kk : Int) + (v : Int) + 4 := IntWalk.u32_in _ (by omega)
        have wr5 : IntKind.u32.wrap ((s.at_ : Int) + ((nn : Int) + (kk : Int) + (v : Int) + 4)) = (s.at_ : Int) + ((nn : Int) + (kk : Int) + (v : Int) + 4) := IntWalk.u32_in _ (by omega)
        have hsbn : sb ≠ lfb := by omega
        have hstep0' := Lib.hid hstep0
        have hE' := Lib.hid hE
        have hEk' := Lib.hid hEk
        have hEv' := Lib.hid hEv
        have hEK' := Lib.hid hEK
        have hEV' := Lib.hid hEV
        have hEl' := Lib.hid hEl
        have hEo' := Lib.hid hEo
        have hEb' := Lib.hid hEb
        have hEu' := Lib.hid hEu
        have hEx' := Lib.hid hEx
        have hslt' := Lib.hid hslt
        have hsbc' := Lib.hid hsbc
        have hlb' := Lib.hid hlb
        clear hlb hsbc hslt hEx hEu hEb hEo hEl hEV hEK hEv hEk hE hstep0
        as_aux_lemma =>
        go_upto_region 17 with fail
        refine wp_tail 19 (by kernel_rfl) (by kernel_rfl) ?_
        simp only [List.take_succ_cons, List.take_zero, List.drop_succ_cons, List.drop_zero]
        repeat still_step
        refine wpStill_nil ?_
        go_wp2_with fail
        refine wp_tail 9 (by kernel_rfl) (by kernel_rfl) ?_
        simp only [List.take_succ_cons, List.take_zero, List.drop_succ_cons, List.drop_zero]
        repeat still_step
        refine wpStill_nil ?_
        go_upto_region 27 with fail
        go_cut [18, 135] (fun s18 s135 wx => s18 = .pointer (some ⟨w1.heap.size, 0, none⟩) ∧ s135 = .bool (decide (m / 64 % 2 = 1)) ∧ Bk wx w1.heap.size 101 #[.int .u32 1, .int .u32 ((nn : Int) + (kk : Int) + (v : Int) + 4), .int .u32 (s.at_ : Int)] ∧ Bk wx sb 135 #[.slice qa1 qn1 qc1, .slice qa2 qn2 qc2, .int .u32 ((s.at_ : Int) + ((nn : Int) + (kk : Int) + (v : Int) + 4)), .pointer (some ⟨lfb, 0, none⟩)] ∧ Ch [sb] w1 wx)
        case first =>
          --<
          as_aux_lemma =>
          have hand := and64 m hm8
          by_cases hT : m / 64 % 2 = 1
          · rw [hT] at hand
            have hdT := Lib.hid hT
            clear hT
            go_wp2_with fail
            go_meet
            refine ⟨rfl, by rw [decide_eq_true hdT.out], ?_⟩
            exact ⟨Bk.drew (Bk.drew (Bk.at_ _ _ _ _ (by simp))), Bk.drew (Bk.drew (Bk.alloc (by simpa using hsbc'.out.set 2 _) _)), ((((Ch.refl [sb] w1).setCell (p := ⟨sb, 2, none⟩) (.inl (by simp)) _).alloc _).drew).drew⟩
          · have hT0 : m / 64 % 2 = 0 := by omega
            rw [hT0] at hand
            have hdT := Lib.hid hT
            clear hT hT0
            go_wp2_with fail
            go_meet
            refine ⟨rfl, by rw [decide_eq_false hdT.out], ?_⟩
            exact ⟨Bk.drew (Bk.drew (Bk.at_ _ _ _ _ (by simp))), Bk.drew (Bk.drew (Bk.alloc (by simpa using hsbc'.out.set 2 _) _)), ((((Ch.refl [sb] w1).setCell (p := ⟨sb, 2, none⟩) (.inl (by simp)) _).alloc _).drew).drew⟩
          -->
        case rest =>
        obtain ⟨rfl, rfl, hvp, hsb2, hc2⟩ := hcut
        obtain ⟨hbun, hent2, heps2, hvps2, h6⟩ := it_mid hI'.out hB0 hlbB.out hdbB.out hsbB hBle2.out hgs1'.out hzz1'.out hch1'.out hc1'.out hc2 hr1'.out hsbc'.out.ty hsb2 hbe'.out (hEK'.out ▸ hs1'.out) (hEV'.out ▸ hs2'.out) hkc hvc heb (by omega) hEk'.out hEv'.out hEx'.out hEo'.out hEu'.out hEb'.out hEl'.out
        obtain ⟨vb, hvb⟩ : ∃ vb, w1.heap.size = vb := ⟨_, rfl⟩
        rw [hvb] at hvp ⊢
        have hsbw : sb < wr.heap.size := by obtain ⟨_, h⟩ := hsbk'.out; exact h.lt
        have hbe2 := hbe'.out.ch hc2 (show eb ∉ [sb] by simp; omega)
        have d0 := hbe2.cell 0
        have d1 := hbe2.cell 1
        have d6 := hbe2.cell 6
        simp [entC] at d0 d1 d6
        have ebl2 := hbe2.lt
        have vbl := hvp.lt
        have v0 := hvp.cell 0
        have v1 := hvp.cell 1
        have v2 := hvp.cell 2
        simp at v0 v1 v2
        have hEl5 : E.len = nn + kk + v + 4 := hEl'.out
        have hEl8 : s.at_ + E.len ≤ b.length := by have h1 := hlb'.out; rw [hEl5]; omega
        have hEl0 : 0 < E.len := by omega
        have hvpa : VpAt [.int .u32 1, .int .u32 ((nn : Int) + (kk : Int) + (v : Int) + 4), .int .u32 (s.at_ : Int)] E := ⟨1, by rw [hEo'.out, hEl5]; simp⟩
        have hwsz : B + 3 ≤ wc.heap.size := by omega
        have hsln : s.l.length + s.op.length ≤ 1000000000 := by omega
        have hv4 := hI'.out.h4
        have hs1w := hs1'.out.ch hc2 (fun g hg _ hm => by simp at hm; subst hm; exact hg.ne hsbc'.out.ty (by decide) rfl)
        have hs2w := hs2'.out.ch hc2 (fun g hg _ hm => by simp at hm; subst hm; exact hg.ne hsbc'.out.ty (by decide) rfl)
        rw [hEK'.out] at hs1w
        rw [hEV'.out] at hs2w
        have hEk9 := hEk'.out
        have hEv9 := hEv'.out
        clear be0 be1 be4 be6 be7 hsc2 hsf2 e1 e2 e3 hnl1 hnl2 hnl3 hl21 wr1 wr2 wr3 wr4 wr5
        have hbun' := Lib.hid hbun
        have hent2' := Lib.hid hent2
        have heps2' := Lib.hid heps2
        have hvps2' := Lib.hid hvps2
        have hvp' := Lib.hid hvp
        have hsb2' := Lib.hid hsb2
        have hc2' := Lib.hid hc2
        have hbe2' := Lib.hid hbe2
        have h6' := Lib.hid h6
        have hEl5' := Lib.hid hEl5
        have hEl8' := Lib.hid hEl8
        have hEl0' := Lib.hid hEl0
        have hvpa' := Lib.hid hvpa
        have hsln' := Lib.hid hsln
        have hs1w' := Lib.hid hs1w
        have hs2w' := Lib.hid hs2w
        have hEk9' := Lib.hid hEk9
        have hEv9' := Lib.hid hEv9
        clear hEv9 hEk9 hs2w hs1w hsln hvpa hEl0 hEl8 hEl5 h6 hbe2 hc2 hsb2 hvp hvps2 heps2 hent2 hbun
        as_aux_lemma =>
        by_cases hT : m / 64 % 2 = 1
        · rw [decide_eq_true hT]
          --<
          as_aux_lemma =>
          have hts0 : tsOf E.key ≠ 0 := by
            intro h
            have h2 := hrun'.out.symm.trans (lRun_inr (hstep0'.out.trans (show lEnd s E = .inr (s.l, s.fin, false) by simp [lEnd, hEb'.out, hT, h])) hkp)
            cases h2
          obtain ⟨g, o, rfl, hbs⟩ := hs1w'.out.s.2 (Nat.pos_of_ne_zero hk0)
          have hpt := Lib.hid (parseTs_any g o kk c1 E.key wc hbs hEk9'.out hkc (by omega))
          obtain ⟨T, hTe⟩ : ∃ T, tsOf E.key = T := ⟨_, rfl⟩
          rw [hTe] at hts0 hpt
          have hTlt : T < 18446744073709551616 := by rw [← hTe]; exact tsOf_lt _
          have hT' := Lib.hid hT
          clear hT
          have hbs' := Lib.hid hbs
          have hTe' := Lib.hid hTe
          have hts0' := Lib.hid hts0
          clear hts0 hTe hbs
          go_wp2_with fail
          refine hpt.out.mono ?_
          rintro e w3 ⟨rfl, hb3⟩
          have hc3 : Ch [] wc w3 := Ch.of_below hb3
          have hbun3 := hbun'.out.nil hc3
          have hn0 : ∀ k, k ∈ ([] : List Nat) → TyAt wc k 101 := fun _ h => by cases h
          have hn1 : ∀ k, k ∈ ([] : List Nat) → TyAt wc k 135 := fun _ h => by cases h
          have hent3 := hent2'.out.keep hc3 hn0 (by decide) (by decide)
          obtain ⟨xs, hx1, hx2⟩ := heps2'.out.keep hc3 hn0 (by decide) (by decide) (by decide)
          obtain ⟨ys, hy1, hy2⟩ := hvps2'.out.keep hc3 hn1 (by decide)
          have hvp3 := hvp'.out.ch hc3 (by simp)
          have vbl3 := hvp3.lt
          have hsz3 := hc3.size
          obtain ⟨V, hV⟩ : ∃ V, (if s.ver = 0 then T else s.ver) = V := ⟨_, rfl⟩
          clear v0 v1 v2 d0 d1 d6
          have hV' := Lib.hid hV
          have hc3' := Lib.hid hc3
          have hb3' := Lib.hid hb3
          have hbun3' := Lib.hid hbun3
          have hent3' := Lib.hid hent3
          have hx1' := Lib.hid hx1
          have hx2' := Lib.hid hx2
          have hy1' := Lib.hid hy1
          have hy2' := Lib.hid hy2
          have hvp3' := Lib.hid hvp3
          clear hvp3 hy2 hy1 hx2 hx1 hent3 hbun3 hb3 hc3 hV
          as_aux_lemma =>
          go_upto_if 148 with fail
          go_cut [12] (fun s12 wx => s12 = .int .u64 (V : Int) ∧ w3 = wx)
          case first =>
            as_aux_lemma =>
            by_cases hv0 : s.ver = 0
            · have hv0I : (s.ver : Int) = 0 := by omega
              have hVT : V = T := by rw [← hV'.out, if_pos hv0]
              have hv0' := Lib.hid hv0
              clear hv0
              go_wp2_with fail
              go_meet
              exact ⟨by rw [hVT], rfl⟩
            · have hv0I : ¬ (s.ver : Int) = 0 := by omega
              have hVT : V = s.ver := by rw [← hV'.out, if_neg hv0]
              have hv0' := Lib.hid hv0
              clear hv0
              go_wp2_with fail
              go_meet
              exact ⟨by rw [hVT], rfl⟩
          case rest =>
          obtain ⟨rfl, rfl⟩ := hcut
          by_cases hVT : V = T
          · subst hVT
            have hstep : lStep b s = .inl ⟨s.l, s.op ++ [E], V, s.fin, s.at_ + E.len⟩ := by
              rw [hstep0'.out]
              have h1 := hV'.out
              have h2 := hts0'.out
              by_cases hv0 : s.ver = 0
              · simp [lEnd, hEb'.out, hT'.out, hTe'.out, h2, hv0]
              · rw [if_neg hv0] at h1
                simp [lEnd, hEb'.out, hT'.out, hTe'.out, h2, h1]
            have hx1w := World.ownsRow.alloc hx1'.out (.cells #[.pointer (some ⟨eb, 0, none⟩)] 60)
            have hstep' := Lib.hid hstep
            have hx1w' := Lib.hid hx1w
            clear hx1w hstep
            as_aux_lemma =>
            go_upto_region 33 with (at_builtin; refine wpList_append1 rfl (.tmp 153) (.tmp 155) 136 rfl (B + 3) 60 1 Tryz.underlying136 (by kernel_rfl) (by omega) _ s.op.length xs rfl hx1w'.out w3.heap.size 1 [.pointer (some ⟨eb, 0, none⟩)] rfl rfl (Bk.at_ _ _ _ _ (by simp)) (by intro u hu; simp at hu; subst hu; rfl) (by have := hsln'.out; omega) (by simp; omega) ?_; intro A' c' w4 hown4 hc4)
            have c3b : Ch [] w3 (w3.alloc (.cells #[.pointer (some ⟨eb, 0, none⟩)] 60)) := (Ch.refl [] w3).alloc _
            have hS4 : ∀ g, g ∈ u14.ownBlock.toList → TyAt (w3.alloc (.cells #[.pointer (some ⟨eb, 0, none⟩)] 60)) g 60 := fun g hg => own_ty hx1w'.out (by simpa using hg)
            have hvp4 := (hvp3'.out.alloc (.cells #[.pointer (some ⟨eb, 0, none⟩)] 60)).ch hc4 (fun hm => (hS4 _ hm).ne ((hvp3'.out.alloc _).ty) (by decide) rfl)
            have v0 := hvp4.cell 0
            have v1 := hvp4.cell 1
            have v2 := hvp4.cell 2
            simp at v0 v1 v2
            have vbl4 := hvp4.lt
            have hy4 := own_ch (hy1'.out.alloc (.cells #[.pointer (some ⟨eb, 0, none⟩)] 60)) hc4 (fun g hg hm => (own_ty (hy1'.out.alloc (.cells #[.pointer (some ⟨eb, 0, none⟩)] 60)) hg).ne (hS4 _ hm) (by decide) rfl)
            have hsz4 : wc.heap.size ≤ w4.heap.size := by
              have h1 := hc4.size
              simp at h1
              omega
            have hy4w := World.ownsRow.alloc hy4 (.cells #[.int .u32 1, .int .u32 ((nn : Int) + (kk : Int) + (v : Int) + 4), .int .u32 (s.at_ : Int)] 101)
            clear hS4 c3b
            have hown4' := Lib.hid hown4
            have hc4' := Lib.hid hc4
            have hvp4' := Lib.hid hvp4
            have hy4' := Lib.hid hy4
            have hy4w' := Lib.hid hy4w
            clear hy4w hy4 hvp4 hc4 hown4
            go_wp2_with (at_builtin; refine wpList_append1 rfl (.tmp 157) (.tmp 159) 137 rfl (B + 3) 101 3 Tryz.underlying137 (by kernel_rfl) (by omega) _ s.op.length ys.flatten rfl hy4w'.out w4.heap.size 1 [.int .u32 1, .int .u32 ((nn : Int) + (kk : Int) + (v : Int) + 4), .int .u32 (s.at_ : Int)] rfl rfl (Bk.at_ _ _ _ _ (by simp)) (by intro u hu; simp at hu; rcases hu with rfl | rfl | rfl <;> rfl) (by have := hsln'.out; omega) (by simp; omega) ?_; intro A5 c5 w5 hown5 hc5)
            go_roundg (b.length + 1 - (s.at_ + E.len))
            case measure =>
              have h1 := hEl8'.out
              have h2 := hEl0'.out
              omega
            case rel =>
              have h1 := hsln'.out
              exact ⟨⟨s.l, s.op ++ [E], V, s.fin, s.at_ + E.len⟩, rfl, rfl, rfl, it_txn hbun3'.out hent3'.out hx1'.out hx2'.out hy4'.out hy2'.out hown4'.out hc4'.out hown5 hc5 hvpa'.out hk hrun'.out hstep'.out hTlt hI'.out.h5 hEl8'.out hEl0'.out h6'.out hat⟩
          · have hVTI : ¬ (V : Int) = (T : Int) := by omega
            have hv0 : ¬ s.ver = 0 ∧ V = s.ver := by
              have h1 := hV'.out
              by_cases hv0 : s.ver = 0
              · rw [if_pos hv0] at h1
                exact absurd h1.symm hVT
              · rw [if_neg hv0] at h1
                exact ⟨hv0, h1.symm⟩
            have hend := hrun'.out.symm.trans (lRun_inr (hstep0'.out.trans (show lEnd s E = .inr (s.l, s.fin, true) by
              have h2 := hts0'.out
              obtain ⟨h3, h4⟩ := hv0
              have h5 : ¬ s.ver = T := by omega
              simp [lEnd, hEb'.out, hT'.out, hTe'.out, h2, h3, h5])) hkp)
            have hL : L = s.l := congrArg Prod.fst hend
            have hF : F = s.fin := congrArg (fun r => r.2.1) hend
            have hend' := Lib.hid hend
            have hL' := Lib.hid hL
            have hF' := Lib.hid hF
            have hv0' := Lib.hid hv0
            clear hv0 hF hL hend
            go_wp2_with fail
            try rw [Exit.noGoto_ret]
            go_ret2
            exact ⟨by rw [hF'.out]; rfl, ⟨_, hBle.out, by rw [hL'.out]; exact hbun3'.out.zz⟩, hbun3'.out.ch⟩
          -->
        · rw [decide_eq_false hT]
          have hand := and128 m hm8
          have d2 := hbe2'.out.cell 2
          have d3 := hbe2'.out.cell 3
          have d4 := hbe2'.out.cell 4
          have d5 := hbe2'.out.cell 5
          have d7 := hbe2'.out.cell 7
          have d8 := hbe2'.out.cell 8
          have q2 := hsb2'.out.cell 2
          simp [entC] at d2 d3 d4 d5 d7 d8 q2
          by_cases hN : m / 128 % 2 = 1
          · rw [show m / 128 % 2 = 1 by omega] at hand
            have hv0 : ¬ s.ver = 0 := by
              intro h
              have h2 := hrun'.out.symm.trans (lRun_inr (hstep0'.out.trans (show lEnd s E = .inr (s.l, s.fin, false) by simp [lEnd, hEb'.out, hT, hN, h])) hkp)
              cases h2
            have hasks : E.val ≠ dec s.ver → E.val = [] ∨ (E.val.getD 0 0).toNat ≠ 48 ∧ (E.val.getD 0 0).toNat ≠ 43 := by
              intro hne
              have h2 := hrun'.out.symm.trans (lRun_inr (hstep0'.out.trans (show lEnd s E = .inr (s.l, s.fin, decide (E.val = [] ∨ (E.val.getD 0 0).toNat ≠ 48 ∧ (E.val.getD 0 0).toNat ≠ 43)) by
                unfold lEnd
                rw [if_neg (by rw [hEb'.out]; exact hT), if_pos (by rw [hEb'.out]; exact hN), if_neg hv0, if_pos hne])) hkp)
              have h3 := congrArg (fun r => r.2.2) h2
              exact of_decide_eq_true h3.symm
            obtain ⟨hpd, hpn⟩ := parse_ver hv4 hasks
            have hb2s := run_b2sU 22 9 5 Tryz.underlying22 Tryz.underlying5 Tryz.underlying9 A2 v c2 E.val wc hs2w'.out.s
            have hcv := parseUint_any E.val wc (by rw [hEv9'.out]; omega) (by
              obtain ⟨te, pe, h⟩ := hsy'.out
              exact ⟨te, pe, (hbun'.out.ch.cell 0 (block_lt_of_cell h) (by simpa using hn1)).trans h⟩) (by
              obtain ⟨te, pe, h⟩ := hrg'.out
              exact ⟨te, pe, (hbun'.out.ch.cell 0 (block_lt_of_cell h) (by simpa using hn2)).trans h⟩)
            have hcv' := Lib.hid hcv
            clear hcv
            have hdone : E.val ≠ dec s.ver → L = s.l ∧ F = s.fin := by
              intro hne
              have h2 := hrun'.out.symm.trans (lRun_inr (hstep0'.out.trans (show lEnd s E = .inr (s.l, s.fin, decide (E.val = [] ∨ (E.val.getD 0 0).toNat ≠ 48 ∧ (E.val.getD 0 0).toNat ≠ 43)) by
                unfold lEnd
                rw [if_neg (by rw [hEb'.out]; exact hT), if_pos (by rw [hEb'.out]; exact hN), if_neg hv0, if_pos hne])) hkp)
              exact ⟨congrArg Prod.fst h2, congrArg (fun r => r.2.1) h2⟩
            have hT' := Lib.hid hT
            have hN' := Lib.hid hN
            have hv0' := Lib.hid hv0
            have hasks' := Lib.hid hasks
            have hpd' := Lib.hid hpd
            have hpn' := Lib.hid hpn
            have hdone' := Lib.hid hdone
            clear hdone hpn hpd hasks hv0 hN hT
            as_aux_lemma =>
            go_wp2_with fail
            refine hcv'.out.mono ?_
            rintro e w3 ⟨hc3, ⟨u8, hu8, rfl⟩ | ⟨hno, n8, a8, rfl⟩⟩
            · by_cases hue : u8 = s.ver
              · subst hue
                have hde : E.val = dec s.ver := Classical.byContradiction fun h => hpn'.out _ hu8 h rfl
                have hstep : lStep b s = .inl ⟨s.l ++ s.op, [], 0, s.at_ + E.len, s.at_ + E.len⟩ := by
                  rw [hstep0'.out]
                  unfold lEnd
                  rw [if_neg (by rw [hEb'.out]; exact hT'.out), if_pos (by rw [hEb'.out]; exact hN'.out), if_neg hv0'.out, if_neg (by simpa using hde)]
                have hn0 : ∀ k, k ∈ ([] : List Nat) → TyAt wc k 101 := fun _ h => by cases h
                have hn9 : ∀ k, k ∈ ([] : List Nat) → TyAt wc k 135 := fun _ h => by cases h
                have hbun3 := hbun'.out.nil hc3
                have heps3 := heps2'.out.keep hc3 hn0 (by decide) (by decide) (by decide)
                have hvps3 := hvps2'.out.keep hc3 hn9 (by decide)
                obtain ⟨A14, c14, rfl⟩ : ∃ A c, u14 = .slice A s.op.length c := by
                  obtain ⟨xs, h, _⟩ := heps3
                  exact own_form h
                obtain ⟨A15, c15, rfl⟩ : ∃ A c, u15 = .slice A s.op.length c := by
                  obtain ⟨xs, h, _⟩ := hvps3
                  exact own_form h
                obtain ⟨ra1, rn1, rc1, ra2, rn2, rc2, hsb3⟩ := hbun3.sb
                have q3 := hsb3.cell 2
                simp at q3
                have hwsz3 : B + 3 ≤ w3.heap.size := Nat.le_trans hwsz hc3.size
                clear d0 d1 d2 d3 d4 d5 d6 d7 d8 v0 v1 v2 q2 hb2s
                have hu8' := Lib.hid hu8
                have hde' := Lib.hid hde
                have hstep' := Lib.hid hstep
                have hbun3' := Lib.hid hbun3
                have heps3' := Lib.hid heps3
                have hvps3' := Lib.hid hvps3
                have hsb3' := Lib.hid hsb3
                have hc3' := Lib.hid hc3
                clear hc3 hsb3 hvps3 heps3 hbun3 hstep hde hu8
                as_aux_lemma =>
                go_wp2_with fail
                go_loopg [190] s.op.length (fun g s190 wx => ∃ j : Nat, j ≤ s.op.length ∧ s190 = .int .i64 (j : Int) ∧ g = s.op.length - j ∧ Bun B0 (B + 3) lb (B + 1) (B + 2) B db sb lfb b (s.at_ + E.len) (s.l ++ s.op.take j) w wx ∧ Eps (B + 3) wx (.slice A14 s.op.length c14) s.op ∧ Vps (B + 3) wx (.slice A15 s.op.length c15) s.op)
                case atStart => exact ⟨0, Nat.zero_le _, rfl, rfl, by simpa using hbun3'.out, heps3'.out, hvps3'.out⟩
                case round =>
                  as_aux_lemma =>
                  obtain ⟨j, hj, rfl, rfl, hbj, hej, hvj⟩ := hrel
                  by_cases hjn : j < s.op.length
                  · have hjI : (j : Int) < (s.op.length : Int) := by omega
                    obtain ⟨xs, kx1, kx2⟩ := hej
                    obtain ⟨ys, ky1, ky2⟩ := hvj
                    obtain ⟨pe, hpe, eb2, B1, d1, B2, d2, hl2e, rfl, hbe3, hse1, hse2, hd1, hd2, hhl, heb2⟩ := kx2.get hjn
                    obtain ⟨g1, rfl, hg1, hcx⟩ := own_cell kx1 hpe
                    obtain ⟨fid, hf0, hf1, hf2⟩ := vps_flat ky2 hjn
                    obtain ⟨g2, rfl, hg2, hy0⟩ := own_cell ky1 hf0
                    obtain ⟨g2', hg2e, _, hy1⟩ := own_cell ky1 hf1
                    obtain rfl : g2 = g2' := by injection hg2e with h; injection h
                    obtain ⟨g2', hg2e, _, hy2⟩ := own_cell ky1 hf2
                    obtain rfl : g2 = g2' := by injection hg2e with h; injection h
                    have hbj' := Lib.hid hbj
                    have kx1' := Lib.hid kx1
                    have kx2' := Lib.hid kx2
                    have ky1' := Lib.hid ky1
                    have ky2' := Lib.hid ky2
                    have hbe3' := Lib.hid hbe3
                    have hse1' := Lib.hid hse1
                    have hse2' := Lib.hid hse2
                    have hf0' := Lib.hid hf0
                    have hf1' := Lib.hid hf1
                    have hf2' := Lib.hid hf2
                    have hpe' := Lib.hid hpe
                    have hg2e' := Lib.hid hg2e
                    clear hg2e hpe hf2 hf1 hf0 hse2 hse1 hbe3 ky2 ky1 kx2 kx1 hbj
                    go_upto_region 43 with fail
                    have hjw : IntKind.i64.wrap ((j : Int) + 1) = (j : Int) + 1 := IntWalk.i64_in _ (by have := hsln'.out; omega)
                    have hca : Ch [] wr (wr.alloc (.cells #[.int .u32 (fid : Int), .int .u32 (s.op[j].len : Int), .int .u32 (s.op[j].off : Int)] 101)) := (Ch.refl [] wr).alloc _
                    have hvb9 : Bk (wr.alloc (.cells #[.int .u32 (fid : Int), .int .u32 (s.op[j].len : Int), .int .u32 (s.op[j].off : Int)] 101)) wr.heap.size 101 #[.int .u32 (fid : Int), .int .u32 (s.op[j].len : Int), .int .u32 (s.op[j].off : Int)] := Bk.at_ _ _ _ _ rfl
                    obtain ⟨W, hW⟩ : ∃ W, wr.alloc (.cells #[.int .u32 (fid : Int), .int .u32 (s.op[j].len : Int), .int .u32 (s.op[j].off : Int)] 101) = W := ⟨_, rfl⟩
                    obtain ⟨pb, hpb⟩ : ∃ pb, wr.heap.size = pb := ⟨_, rfl⟩
                    rw [hW, hpb] at hvb9
                    rw [hW] at hca
                    rw [hW, hpb]
                    have hbW := hbj'.out.nil hca
                    have hn5 : ∀ k, k ∈ ([] : List Nat) → TyAt wr k 101 := fun _ h => by cases h
                    have hn6 : ∀ k, k ∈ ([] : List Nat) → TyAt wr k 135 := fun _ h => by cases h
                    have hbe4 := hbe3'.out.ch hca (by simp)
                    have hse3 := hse1'.out.ch hca (by simp)
                    have hse4 := hse2'.out.ch hca (by simp)
                    have e0 := hbe4.cell 0
                    have e1 := hbe4.cell 1
                    have e2 := hbe4.cell 2
                    have e3 := hbe4.cell 3
                    have e4 := hbe4.cell 4
                    have e5 := hbe4.cell 5
                    have e6 := hbe4.cell 6
                    have e7 := hbe4.cell 7
                    have e8 := hbe4.cell 8
                    simp [entC] at e0 e1 e2 e3 e4 e5 e6 e7 e8
                    have v0 := hvb9.cell 0
                    have v1 := hvb9.cell 1
                    have v2 := hvb9.cell 2
                    simp at v0 v1 v2
                    have hepW : Eps (B + 3) W (.slice (some ⟨g1, 0, none⟩) s.op.length c14) s.op := Eps.keep ⟨xs, kx1'.out, kx2'.out⟩ hca hn5 (by decide) (by decide) (by decide)
                    have hvpW : Vps (B + 3) W (.slice (some ⟨g2, 0, none⟩) s.op.length c15) s.op := Vps.keep ⟨ys, ky1'.out, ky2'.out⟩ hca hn6 (by decide)
                    have hszW : B + 3 ≤ W.heap.size := Nat.le_trans (Nat.le_trans hg1 (Nat.le_of_lt (block_lt_of_cell hcx))) hca.size
                    have hfn := zzFn_any (B + 3) lb fid s.op[j].off hl2e B1 B2 d1 d2 s.op[j] (s.l ++ s.op.take j) W.drew (hbW.zz.ch ((Ch.refl [] W).drew) (by simp) (by simp) (by simp)) (hse3.ch ((Ch.refl [] W).drew) (by simp)) (hse4.ch ((Ch.refl [] W).drew) (by simp)) (by have := hsln'.out; simp; omega) hszW hhl
                    unfold entC vpC at hfn
                    have hfn' := Lib.hid hfn
                    clear hfn hcx hy0 hy1 hy2
                    have hca' := Lib.hid hca
                    have hvb9' := Lib.hid hvb9
                    have hW' := Lib.hid hW
                    have hpb' := Lib.hid hpb
                    have hbW' := Lib.hid hbW
                    have hbe4' := Lib.hid hbe4
                    have hse3' := Lib.hid hse3
                    have hse4' := Lib.hid hse4
                    have hepW' := Lib.hid hepW
                    have hvpW' := Lib.hid hvpW
                    clear hvpW hepW hse4 hse3 hbe4 hbW hpb hW hvb9 hca
                    go_cut [25] (fun s25 wx => s25 = .nilIface ∧ Zz (B + 3) lb wx (s.l ++ s.op.take j ++ [s.op[j]]) ∧ ∃ S, Ch S W wx ∧ (∀ g, g ∈ S → g = lb ∨ B + 3 ≤ g) ∧ (∀ g t, TyAt W g t → t ≠ 58 → t ≠ 52 → g ∉ S))
                    case first =>
                      as_aux_lemma =>
                      go_region_with (refine hfn'.out.mono ?_; rintro e w4 ⟨rfl, hz4, S, hc4, hs4, ht4⟩)
                      all_goals
                        go_wp2_with fail
                        go_meet
                        exact ⟨rfl, hz4, S, ((Ch.refl S W).drew).trans hc4, hs4, ht4⟩
                    case rest =>
                    obtain ⟨rfl, hz4, S, hc4, hs4, ht4⟩ := hcut
                    have htk : s.l ++ s.op.take j ++ [s.op[j]] = s.l ++ s.op.take (j + 1) := by rw [List.append_assoc, List.take_succ_eq_append_getElem hjn]
                    rw [htk] at hz4
                    clear e0 e1 e2 e3 e4 e5 e6 e7 e8 v0 v1 v2
                    have hz4' := Lib.hid hz4
                    have hc4' := Lib.hid hc4
                    have hs4' := Lib.hid hs4
                    have ht4' := Lib.hid ht4
                    have htk' := Lib.hid htk
                    clear htk ht4 hs4 hc4 hz4
                    as_aux_lemma =>
                    go_wp2_with fail
                    go_roundg (s.op.length - (j + 1))
                    case measure => omega
                    case rel => exact ⟨j + 1, hjn, rfl, rfl, hbW'.out.told hz4'.out hc4'.out hs4'.out ht4'.out (by omega), hepW'.out.told hc4'.out ht4'.out, hvpW'.out.told hc4'.out ht4'.out⟩
                  · obtain rfl : j = s.op.length := by omega
                    have hjI : ¬ (s.op.length : Int) < (s.op.length : Int) := by omega
                    have hbj' := Lib.hid hbj
                    have hej' := Lib.hid hej
                    have hvj' := Lib.hid hvj
                    clear hvj hej hbj
                    go_wp2_with fail
                    go_roundg (b.length + 1 - (s.at_ + E.len))
                    case measure =>
                      have h1 := hEl8'.out
                      have h2 := hEl0'.out
                      omega
                    case rel =>
                      have hbj := hbj'.out
                      rw [List.take_length] at hbj
                      obtain ⟨xs, k1, _⟩ := hej'.out
                      obtain ⟨ys, k2, _⟩ := hvj'.out
                      exact ⟨⟨s.l ++ s.op, [], 0, s.at_ + E.len, s.at_ + E.len⟩, rfl, rfl, rfl, it_end hbj ⟨[], own_cut0 k1, .nil⟩ ⟨[], own_cut0 k2, .nil⟩ hk hrun'.out hstep'.out hEl8'.out hEl0'.out h6'.out hat⟩
              · have huI : ¬ (s.ver : Int) = (u8 : Int) := by omega
                have hne : E.val ≠ dec s.ver := fun h => by
                  have h1 := hpd'.out h
                  rw [hu8] at h1
                  injection h1 with h1
                  exact hue h1
                obtain ⟨hL, hF⟩ := hdone'.out hne
                have hbun3 := hbun'.out.nil hc3
                clear d0 d1 d2 d3 d4 d5 d6 d7 d8 v0 v1 v2 q2 hb2s
                have hL' := Lib.hid hL
                have hF' := Lib.hid hF
                have hne' := Lib.hid hne
                have hue' := Lib.hid hue
                have hbun3' := Lib.hid hbun3
                have hc3' := Lib.hid hc3
                have hu8' := Lib.hid hu8
                clear hu8 hc3 hbun3 hue hne hF hL
                as_aux_lemma =>
                go_wp2_with fail
                try rw [Exit.noGoto_ret]
                go_ret2
                exact ⟨by rw [hF'.out]; rfl, ⟨_, hBle.out, by rw [hL'.out]; exact hbun3'.out.zz⟩, hbun3'.out.ch⟩
            · have hne : E.val ≠ dec s.ver := fun h => hno _ (hpd'.out h)
              obtain ⟨hL, hF⟩ := hdone'.out hne
              have hbun3 := hbun'.out.nil hc3
              clear d0 d1 d2 d3 d4 d5 d6 d7 d8 v0 v1 v2 q2 hb2s
              have hL' := Lib.hid hL
              have hF' := Lib.hid hF
              have hne' := Lib.hid hne
              have hbun3' := Lib.hid hbun3
              have hc3' := Lib.hid hc3
              have hno' := Lib.hid hno
              clear hno hc3 hbun3 hne hF hL
              as_aux_lemma =>
              go_wp2_with fail
              try rw [Exit.noGoto_ret]
              go_ret2
              exact ⟨by rw [hF'.out]; rfl, ⟨_, hBle.out, by rw [hL'.out]; exact hbun3'.out.zz⟩, hbun3'.out.ch⟩
          · have hdev : True := trivial
            clear hdev
            --<
            as_aux_lemma =>
            rw [show m / 128 % 2 = 0 by omega] at hand
            by_cases hv0 : s.ver = 0
            · have hv0I : (s.ver : Int) = 0 := by omega
              have hstep : lStep b s = .inl ⟨s.l ++ [E], s.op, s.ver, s.at_ + E.len, s.at_ + E.len⟩ := by
                rw [hstep0'.out]
                simp [lEnd, hEb'.out, hT, hN, hv0]
              have hfn := zzFn_any (B + 3) lb 1 s.at_ nn A1 A2 c1 c2 E s.l wc.drew (hbun'.out.zz.ch ((Ch.refl [] wc).drew) (by simp) (by simp) (by simp)) (by rw [hEk9'.out]; exact hs1w'.out.mono (by omega) |>.ch ((Ch.refl [] wc).drew) (by simp)) (by rw [hEv9'.out]; exact hs2w'.out.mono (by omega) |>.ch ((Ch.refl [] wc).drew) (by simp)) (by have := hsln'.out; omega) hwsz (by omega)
              have hlI : (E.len : Int) = (nn : Int) + (kk : Int) + (v : Int) + 4 := by rw [hEl5'.out]; simp
              rw [hEk9'.out, hEv9'.out, hEx'.out, hEu'.out, hEb'.out, hEo'.out] at hfn
              unfold entC vpC at hfn
              rw [hlI, show ((1 : Nat) : Int) = 1 from rfl] at hfn
              have hfn' := Lib.hid hfn
              clear hfn
              rw [hv0I]
              have hstep' := Lib.hid hstep
              have hT' := Lib.hid hT
              have hN' := Lib.hid hN
              have hv0' := Lib.hid hv0
              have hlI' := Lib.hid hlI
              have hv0I' := Lib.hid hv0I
              clear hv0I hlI hv0 hN hT hstep
              as_aux_lemma =>
              go_upto_region 23 with fail
              go_cut [26] (fun s26 wx => s26 = .nilIface ∧ Zz (B + 3) lb wx (s.l ++ [E]) ∧ ∃ S, Ch S wc wx ∧ (∀ g, g ∈ S → g = lb ∨ B + 3 ≤ g) ∧ (∀ g t, TyAt wc g t → t ≠ 58 → t ≠ 52 → g ∉ S))
              case first =>
                as_aux_lemma =>
                go_region_with (refine hfn'.out.mono ?_; rintro e w3 ⟨rfl, hz3, S, hc3, hs3, ht3⟩)
                all_goals
                  go_wp2_with fail
                  go_meet
                  exact ⟨rfl, hz3, S, ((Ch.refl S wc).drew).trans hc3, hs3, ht3⟩
              case rest =>
              obtain ⟨rfl, hz3, S, hc3, hs3, ht3⟩ := hcut
              have hz3' := Lib.hid hz3
              have hc3' := Lib.hid hc3
              have hs3' := Lib.hid hs3
              have ht3' := Lib.hid ht3
              clear ht3 hs3 hc3 hz3
              as_aux_lemma =>
              go_wp2_with fail
              go_roundg (b.length + 1 - (s.at_ + E.len))
              case measure =>
                have h1 := hEl8'.out
                have h2 := hEl0'.out
                omega
              case rel =>
                exact ⟨⟨s.l ++ [E], s.op, s.ver, s.at_ + E.len, s.at_ + E.len⟩, by rw [hv0'.out]; rfl, by simp [hlI'.out], rfl, it_plain hbun'.out heps2'.out hvps2'.out hz3'.out hc3'.out hs3'.out ht3'.out (by omega) hk hrun'.out hstep'.out hv4 hEl8'.out hEl0'.out h6'.out hat⟩
            · have hv0I : ¬ (s.ver : Int) = 0 := by omega
              have hend := hrun'.out.symm.trans (lRun_inr (hstep0'.out.trans (show lEnd s E = .inr (s.l, s.fin, true) by simp [lEnd, hEb'.out, hT, hN, hv0])) hkp)
              have hL : L = s.l := congrArg Prod.fst hend
              have hF : F = s.fin := congrArg (fun r => r.2.1) hend
              have hend' := Lib.hid hend
              have hL' := Lib.hid hL
              have hF' := Lib.hid hF
              have hv0' := Lib.hid hv0
              have hT' := Lib.hid hT
              have hN' := Lib.hid hN
              clear hN hT hv0 hF hL hend
              go_wp2_with fail
              try rw [Exit.noGoto_ret]
              go_ret2
              exact ⟨by rw [hF'.out]; rfl, ⟨_, hBle.out, by rw [hL'.out]; exact hbun'.out.zz⟩, hbun'.out.ch⟩
            -->
end Go.Proofs.YtpndlcjilgcfkaaGreatDoor
