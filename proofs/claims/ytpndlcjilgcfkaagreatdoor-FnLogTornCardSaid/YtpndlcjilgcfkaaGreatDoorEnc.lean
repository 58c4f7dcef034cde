/-
  Contract of logFile.encodeEntry.
-/
import Derived.Test.YtpndlcjilgcfkaaGreatDoorMw
import Derived.Test.YtpndlcjilgcfkaaGreatDoorEnt
import Derived.Test.YtpndlcjilgcfkaaGreatDoorHdr2
import Derived.Test.YtpndlcjilgcfkaaGreatDoorSpecE
import Derived.BigRegion
import Derived.BigQuiet
import Derived.WalkSpells
import Derived.Deep.DeepCutAuto
import Derived.Deep.RegionWith
import Derived.Lib.Buffer
namespace Go.Proofs.YtpndlcjilgcfkaaGreatDoor
open Go Go.RowKit
open Go.Proofs

theorem Enc.kept {w0 W W' : World} {B bb cb p g c s q : Nat} {l : List UInt8} {t : TypeId} {cs : Array Value} (h : Enc w0 B bb cb p g c l s W) (hk : Bk W q t cs) (hg : W.grownBy W' (some q)) (hBq : B ≤ q)
    (h1 : t ≠ 5) (h2 : t ≠ 108) (h3 : t ≠ 148) (h4 : t ≠ 183) (h5 : t ≠ 150) : Enc w0 B bb cb p g c l s W' := by
  have hbq := buf_apart h.buf hk (fun e => h2 e.symm)
  exact ⟨buf_kept h.buf hk (fun e => h1 e.symm) (fun e => hbq e.symm) hg, h.crc.grown hg (by simpa using fun e => hk.apart h.crc h3 e.symm), h.mw.grown hg (by simpa using fun e => hk.apart h.mw h4 e.symm),
    h.row.grown hg (by simpa using fun e => hk.apart h.row h5 e.symm), below_own h.bel (Nat.le_trans h.hB h.bel.size) hg hBq, h.hB, h.hc⟩

theorem Enc.below {w0 W W' : World} {B bb cb p g c s : Nat} {l : List UInt8} (h : Enc w0 B bb cb p g c l s W) (hb : Below W.heap.size W W') : Enc w0 B bb cb p g c l s W' :=
  ⟨buf_below h.buf hb, h.crc.below hb h.crc.lt, h.mw.below hb h.mw.lt, h.row.below hb h.row.lt, below_step h.bel (Nat.le_trans h.hB h.bel.size) hb, h.hB, h.hc⟩

def zeros22 : List Value := List.replicate 22 (.int .u8 0)

theorem bs_front {W : World} {q : Nat} {t : TypeId} {l : List UInt8} {L : List Value} (hk : Bk W q t (splice L 0 (Lib.byteCells l)).toArray) : Bs W q 0 l := by
  intro j hj
  rw [hk.cell]
  have h22 : (splice L 0 (Lib.byteCells l))[j]? = some (.int .u8 ((l[j]).toNat : Int)) := by
    simp only [splice, List.take_zero, List.nil_append]
    rw [List.getElem?_append_left (by simpa [Lib.byteCells] using hj)]
    simp [Lib.byteCells, hj]
  simpa using h22

theorem putBE4_any (g o n c v : Nat) (t : TypeId) (L : List Value) (hv : v < 4294967296) (w : World) (hb : Bk w g t L.toArray) (hn : 4 ≤ n) (ho : o + 4 ≤ L.length) :
    Calls Tryz.prog 64 #[.agg #[], .slice (some ⟨g, o, none⟩) n c, .int .u32 (v : Int)] w fun e w' => e = .returned (.tuple #[]) ∧
      Bk w' g t (splice L o (Lib.byteCells (Lib.beBytes 4 v))).toArray ∧ w.grownBy w' (some g) := by
  have hc : ∀ j, j < 4 → w.cell? ⟨g, o + j, none⟩ = some (L.getD (o + j) undef) := by
    intro j hj
    rw [hb.cell]
    have : o + j < L.length := by omega
    simp [List.getD, this]
  have hlt : g < w.heap.size := hb.lt
  refine (Tryz.binary_BE_PutUint32 g o n c v hv _ _ _ _ w hn (hc 0 (by omega)) (hc 1 (by omega)) (hc 2 (by omega)) (hc 3 (by omega)) (hb.free _) (hb.free _) (hb.free _) (hb.free _)).mono ?_
  rintro e w' ⟨rfl, rfl⟩
  exact ⟨rfl, bk_setCells _ _ L o (hb.alloc _) (by simpa [Lib.byteCells, Lib.beBytes_length] using ho), grown_setCells g _ _ o (grown_alloc (World.grownBy.refl w _) _) (.inl rfl)⟩

set_option maxHeartbeats 8000000 in
set_option maxRecDepth 20000 in
theorem encodeEntry_any (lf eb bb B kb ko kn kc vb vo vn vc x ver off um m : Nat) (k v : List UInt8) (w : World)
    (he : Bk w eb 64 (bentCells (.slice (some ⟨kb, ko, none⟩) kn kc) (.slice (some ⟨vb, vo, none⟩) vn vc) x ver off um m))
    (hk : Bs w kb ko k) (hv : Bs w vb vo v) (hkn : k.length = kn) (hvn : v.length = vn) (hk1 : kn ≤ 1000000) (hv1 : vn ≤ 1000000)
    (hx : x < 18446744073709551616) (hm : m < 256) (hum : um < 256)
    (hkB : kb < B) (hvB : vb < B) (heB : eb < B) (hB : B ≤ w.heap.size) (hbB : B ≤ bb)
    (hbuf : Lib.IsBuffer 108 5 B bb [] w) :
    Calls Tryz.prog 41 #[.pointer (some ⟨lf, 0, none⟩), .pointer (some ⟨bb, 0, none⟩), .pointer (some ⟨eb, 0, none⟩), .int .u32 0] w fun e w' => 
      ∃ n : Int, e = .returned (.tuple #[.int .i64 n, .nilIface]) ∧ Lib.IsBuffer 108 5 B bb (Lib.byteCells (entBytes k v m um x)) w' ∧ Below B w w' := by
  have c0 := he.cell 0
  have c1 := he.cell 1
  have c2 := he.cell 2
  have c5 := he.cell 5
  have c6 := he.cell 6
  simp [bentCells] at c0 c1 c2 c5 c6
  have heb : eb < w.heap.size := he.lt
  have wk : IntKind.u32.wrap (kn : Int) = (kn : Int) := IntWalk.u32_in _ (by omega)
  have wv : IntKind.u32.wrap (vn : Int) = (vn : Int) := IntWalk.u32_in _ (by omega)
  obtain ⟨hd, hhd⟩ : ∃ l, hdrBytes kn vn x m um = l := ⟨_, rfl⟩
  have hE := fun g W hb => hdrEncode_any kn vn x m um (by omega) (by omega) hx hm hum g 152 zeros22 rfl W hb
  rw [hhd] at hE
  have hl22 : hd.length ≤ 22 := by
    have := uvarint_length32 (x := kn) (by omega)
    have := uvarint_length32 (x := vn) (by omega)
    have := Lib.uvarint_length64 hx
    rw [← hhd, hdrBytes_length]; omega
  obtain ⟨n, hn⟩ : ∃ n, hd.length = n := ⟨_, rfl⟩
  have heq : entBytes k v m um x = hd ++ k ++ v ++ Lib.beBytes 4 (crc32 (hd ++ k ++ v)) := by simp only [entBytes, entHead, hkn, hvn, hhd]
  rw [hn] at hE hl22
  rw [heq]
  obtain ⟨r, hr⟩ : ∃ r, hd ++ k ++ v = r := ⟨_, rfl⟩
  have hcrc : crcMore (crcMore (crcMore 0 hd) k) v = crc32 r := by
    rw [crcMore_append 0 hd k (by omega), crcMore_append 0 (hd ++ k) v (by omega), crcMore_zero, hr]
  have hlt := crc32_lt r
  have hrl : r.length ≤ 3000000 := by
    rw [← hr]; simp; omega
  rw [hr]
  obtain ⟨s, hs⟩ : ∃ s, crc32 r = s := ⟨_, rfl⟩
  rw [hs] at hcrc hlt ⊢
  have hr' := Lib.hid hr
  have hcrc' := Lib.hid hcrc
  clear heq hr hcrc hs
  have hE' := fun g W hb => Lib.hid (hE g W hb)
  have hl22I : (n : Int) ≤ 22 := by omega
  have hlenA : (n : Int) ≤ ((Tryz.prog.arrayLen 152 : Nat) : Int) := hl22I
  have hna : ∀ (q : Nat) (W : World), (nilAhead 361 180 (.pointer (some ⟨q, 0, none⟩)) "Write").run Tryz.prog W = .ok (some false) W := fun _ _ => by kernel_rfl
  have hn' := Lib.hid hn
  have hkn' := Lib.hid hkn
  have hvn' := Lib.hid hvn
  have he' := Lib.hid he
  have hk' := Lib.hid hk
  have hv' := Lib.hid hv
  have hbuf' := Lib.hid hbuf
  clear hE hn hhd hkn hvn he hk hv hbuf
  go_enter Tryz.func41, Tryz.ntmps41
  go_upto_region 1 with fail
  go_cut [10] (fun s10 wx => s10 = .pointer (some ⟨w.heap.size, 0, none⟩) ∧ Bk wx w.heap.size 145 (hdrCells kn vn x m um) ∧ Below w.heap.size w wx)
  case first =>
    go_region
    all_goals
      go_wp2_with fail
      go_meet
      exact ⟨rfl, Bk.drew (Bk.at_ _ _ _ _ rfl), below_drew_ (below_alloc_ (Below.refl _ _) _)⟩
  case rest =>
  obtain ⟨rfl, hh, hbl⟩ := hcut
  have hh' := Lib.hid hh
  have hbl' := Lib.hid hbl
  clear hh hbl c0 c1 c2 c5 c6
  go_wp2_with fail
  refine (multiWriter_any (wc.heap.size + 1) ⟨bb, 0, none⟩ ⟨wc.heap.size, 0, none⟩ _ (by go_simp) (by go_simp)).mono ?_
  rintro e w1 ⟨p, g, c, rfl, hmw, hrow, hpge, hgge, _, hbl1⟩
  have hblw : Below w.heap.size w w1 := below_call_ hbl1 (below_alloc_ (below_alloc_ hbl'.out _) _)
  have hcr := ((Bk.at_ wc wc.heap.size 148 #[.int .u32 0] rfl).alloc (.cells #[.iface 111 (.pointer (some ⟨bb, 0, none⟩)), .iface 146 (.pointer (some ⟨wc.heap.size, 0, none⟩))] 150)).below hbl1 (by simp; omega)
  have hh1 := ((hh'.out.alloc (.cells #[.int .u32 0] 148)).alloc (.cells #[.iface 111 (.pointer (some ⟨bb, 0, none⟩)), .iface 146 (.pointer (some ⟨wc.heap.size, 0, none⟩))] 150)).below hbl1 (by have := hh'.out.lt; simp; omega)
  have hst : Enc w B bb wc.heap.size p g c [] 0 w1 := ⟨buf_below hbuf'.out hblw, hcr, hmw, hrow, hblw.mono hB, hB, Nat.le_trans hB hbl'.out.size⟩
  have hst' := Lib.hid hst
  have hh1' := Lib.hid hh1
  clear hmw hrow hpge hgge hbl1 hblw hcr hh1 hst
  generalize wc.heap.size = cb at *
  obtain ⟨hq, hhq⟩ : ∃ q, w1.heap.size = q := ⟨_, rfl⟩
  have hhlt := hh1'.out.lt
  have hBq : B ≤ hq := hhq ▸ Nat.le_trans hst'.out.hB hst'.out.bel.size
  have q0 := (hh1'.out.alloc (.cells zeros22.toArray 152)).cell 0
  have q1 := (hh1'.out.alloc (.cells zeros22.toArray 152)).cell 1
  have q2 := (hh1'.out.alloc (.cells zeros22.toArray 152)).cell 2
  have q3 := (hh1'.out.alloc (.cells zeros22.toArray 152)).cell 3
  have q4 := (hh1'.out.alloc (.cells zeros22.toArray 152)).cell 4
  simp [hdrCells, zeros22] at q0 q1 q2 q3 q4
  have hz : Bk (w1.alloc (.cells zeros22.toArray 152)).drew hq 152 zeros22.toArray := Bk.drew (Bk.at_ w1 hq _ _ hhq.symm)
  have hE5 := hE' hq _ hz
  have hst5 : Enc w B bb cb p g c [] 0 (w1.alloc (.cells zeros22.toArray 152)).drew := hst'.out.below (below_drew_ (below_alloc_ (Below.refl _ _) _))
  have hst5' := Lib.hid hst5
  have hz' := Lib.hid hz
  clear hz hst5 hst'
  go_upto_region 5 with fail
  have hhq' := Lib.hid hhq
  clear hhq
  go_cut [14] (fun s14 wx => s14 = .int .i64 (n : Int) ∧ Enc w B bb cb p g c [] 0 wx ∧ Bk wx hq 152 (splice zeros22 0 (Lib.byteCells hd)).toArray)
  case first =>
    go_region_with (go_at_call 62; refine hE5.out.mono ?_; rintro e w3 ⟨rfl, hrow3, hgr3⟩)
    all_goals
      go_wp2_with fail
      go_meet
      exact ⟨rfl, hst5'.out.kept hz'.out hgr3 hBq (by decide) (by decide) (by decide) (by decide) (by decide), hrow3⟩
  case rest =>
  obtain ⟨rfl, hst6, hrow6⟩ := hcut
  have hst6' := Lib.hid hst6
  have hrow6' := Lib.hid hrow6
  have hbs6 := Lib.hid (bs_front hrow6)
  have hnq : hq ≠ bb := buf_apart hst6.buf hrow6 (by decide)
  clear hst6 hrow6 hE5 hst5' hz' q0 q1 q2 q3 q4
  go_upto_region 6 with fail
  go_cut [] (fun wx => Enc w B bb cb p g c hd (crcMore 0 hd) wx)
  case first =>
    go_region_with (first | (go_at_call 152; refine (Enc.step (W := World.drew _) (hst6'.out.below (below_drew_ (Below.refl _ _))) hq 0 n _ hd hn'.out (by simp; omega) (by omega) hnq hbs6.out.drew (fun w1 _ ho => bs_front (hrow6'.out.drew.others ho (by simpa using hnq) (by decide)))).mono ?_; rintro e w3 ⟨rfl, hst7, _⟩) | (go_at_call 63; refine (check2_any _ _).mono ?_; rintro e w4 ⟨rfl, hw4⟩; obtain rfl : w3 = w4 := hw4.symm))
    all_goals
      go_wp2_with fail
      go_meet
      exact hst7
  case rest =>
  have hs0 := Lib.hid hcut
  have k0 : wc.cell? ⟨eb, 0, none⟩ = some (.slice (some ⟨kb, ko, none⟩) kn kc) := (hcut.bel.cell (p := ⟨eb, 0, none⟩) heB).trans (by have := he'.out.cell 0; simpa [bentCells] using this)
  have hb0 := Lib.hid ((hk'.out.below hcut.bel hkB))
  clear hcut
  go_upto_region 7 with fail
  go_cut [] (fun wx => Enc w B bb cb p g c (hd ++ k) (crcMore (crcMore 0 hd) k) wx)
  case first =>
    go_region_with (first | (go_at_call 152; refine (Enc.step (W := World.drew _) (hs0.out.below (below_drew_ (Below.refl _ _))) kb ko kn _ k hkn'.out (by have := hn'.out; have := hkn'.out; simp; omega) (crcMore_lt _ _) (by omega) hb0.out.drew (fun w1 hb _ => hb0.out.drew.below hb hkB)).mono ?_; rintro e w3 ⟨rfl, hst7, _⟩) | (go_at_call 63; refine (check2_any _ _).mono ?_; rintro e w4 ⟨rfl, hw4⟩; obtain rfl : w3 = w4 := hw4.symm))
    all_goals
      go_wp2_with fail
      go_meet
      exact hst7
  case rest =>
  have hs1 := Lib.hid hcut
  have k0 : wc.cell? ⟨eb, 1, none⟩ = some (.slice (some ⟨vb, vo, none⟩) vn vc) := (hcut.bel.cell (p := ⟨eb, 1, none⟩) heB).trans (by have := he'.out.cell 1; simpa [bentCells] using this)
  have hb1 := Lib.hid ((hv'.out.below hcut.bel hvB))
  clear hcut
  go_upto_region 8 with fail
  go_cut [] (fun wx => Enc w B bb cb p g c (hd ++ k ++ v) (crcMore (crcMore (crcMore 0 hd) k) v) wx)
  case first =>
    go_region_with (first | (go_at_call 152; refine (Enc.step (W := World.drew _) (hs1.out.below (below_drew_ (Below.refl _ _))) vb vo vn _ v hvn'.out (by have := hn'.out; have := hkn'.out; simp; omega) (crcMore_lt _ _) (by omega) hb1.out.drew (fun w1 hb _ => hb1.out.drew.below hb hvB)).mono ?_; rintro e w3 ⟨rfl, hst7, _⟩) | (go_at_call 63; refine (check2_any _ _).mono ?_; rintro e w4 ⟨rfl, hw4⟩; obtain rfl : w3 = w4 := hw4.symm))
    all_goals
      go_wp2_with fail
      go_meet
      exact hst7
  case rest =>
  rw [hcrc'.out, hr'.out] at hcut
  have hs2 := Lib.hid hcut
  clear hcut
  go_upto_region 10 with fail
  obtain ⟨hp, hhp⟩ : ∃ q, wc.heap.size = q := ⟨_, rfl⟩
  have hst9 : Enc w B bb cb p g c r s (wc.alloc (.cells #[.int .u8 0, .int .u8 0, .int .u8 0, .int .u8 0] 156)) := hs2.out.below (below_alloc_ (Below.refl _ _) _)
  have hz9 : Bk (wc.alloc (.cells #[.int .u8 0, .int .u8 0, .int .u8 0, .int .u8 0] 156)) hp 156 [.int .u8 0, .int .u8 0, .int .u8 0, .int .u8 0].toArray := Bk.at_ wc hp _ _ hhp.symm
  have hBp : B ≤ hp := hhp ▸ Nat.le_trans hs2.out.hB hs2.out.bel.size
  rw [hhp]
  generalize wc.alloc (.cells #[.int .u8 0, .int .u8 0, .int .u8 0, .int .u8 0] 156) = W9 at *
  have hst9' := Lib.hid hst9
  have hz9' := Lib.hid hz9
  clear hst9 hz9 hs2 hhp
  go_cut [] (fun wx => Enc w B bb cb p g c r s wx ∧ Bk wx hp 156 (Lib.byteCells (Lib.beBytes 4 s)).toArray)
  case first =>
    go_region_with (first | (go_at_call 65; refine (sum32_any cb s _ hst9'.out.crc.drew).mono ?_; rintro e w3 ⟨rfl, hw3⟩; obtain rfl : W9.drew = w3 := hw3.symm) | (go_at_call 64; refine (putBE4_any hp 0 4 4 s _ _ hlt _ hz9'.out.drew (by omega) (by simp)).mono ?_; rintro e w3 ⟨rfl, hb4, hg4⟩))
    all_goals
      go_wp2_with fail
      go_meet
      exact ⟨(hst9'.out.below (below_drew_ (Below.refl _ _))).kept hz9'.out.drew hg4 hBp (by decide) (by decide) (by decide) (by decide) (by decide), by simpa [splice, Lib.byteCells, Lib.beBytes_length] using hb4⟩
  case rest =>
  obtain ⟨hst10, hb10⟩ := hcut
  have hnp : hp ≠ bb := buf_apart hst10.buf hb10 (by decide)
  have hbs10 : Bs wc hp 0 (Lib.beBytes 4 s) := by
    intro j hj
    rw [hb10.cell]
    simp [Lib.byteCells, hj]
  have hst10' := Lib.hid hst10
  have hbs10' := Lib.hid hbs10
  clear hst10 hb10 hbs10
  go_wp2_with fail
  refine (Tryz.Buffer_Write_any B bb (Lib.byteCells r) (Lib.byteCells (Lib.beBytes 4 s)) ⟨hp, 0, none⟩ 4 4 wc hst10'.out.buf (Nat.le_trans hst10'.out.hB hst10'.out.bel.size) (oneCell_bytes _) (by simp [Lib.byteCells, Lib.beBytes_length]) hnp (bs_src hbs10'.out) (oneCell_bytes _) (by simp [Lib.byteCells]; omega)).mono ?_
  rintro e w11 ⟨rfl, hbuf11, hbel11, _⟩
  have hbl11 : Below B w w11 := hst10'.out.bel.trans hbel11
  have k0 : w11.cell? ⟨eb, 0, none⟩ = some (.slice (some ⟨kb, ko, none⟩) kn kc) := (hbl11.cell (p := ⟨eb, 0, none⟩) heB).trans (by have := he'.out.cell 0; simpa [bentCells] using this)
  have k1 : w11.cell? ⟨eb, 1, none⟩ = some (.slice (some ⟨vb, vo, none⟩) vn vc) := (hbl11.cell (p := ⟨eb, 1, none⟩) heB).trans (by have := he'.out.cell 1; simpa [bentCells] using this)
  have hbuf11' := Lib.hid hbuf11
  have hbl11' := Lib.hid hbl11
  clear hbuf11 hbel11 hbl11
  go_wp2_with fail
  refine (check2_any _ _).mono ?_
  rintro e w12 ⟨rfl, hw12⟩
  obtain rfl : w11 = w12 := hw12.symm
  go_wp2_with fail
  go_quiet (fail)
  go_wp2_with fail
  go_ret2
  refine ⟨_, rfl, ?_, below_drewN hbl11'.out _⟩
  rw [byteCells_append]
  exact buf_below hbuf11'.out (below_drewN (Below.refl _ _) _)
end Go.Proofs.YtpndlcjilgcfkaaGreatDoor
