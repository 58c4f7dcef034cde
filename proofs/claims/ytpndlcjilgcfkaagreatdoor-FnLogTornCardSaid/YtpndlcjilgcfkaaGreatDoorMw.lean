/-
  Contracts of io.MultiWriter over a buffer and a checksum.
-/
import Derived.Test.YtpndlcjilgcfkaaGreatDoorRows
import Derived.Test.YtpndlcjilgcfkaaGreatDoorMem
import Derived.Test.YtpndlcjilgcfkaaGreatDoorCrc
import Derived.Test.YtpndlcjilgcfkaaGreatDoorShelf
import Derived.WalkKit
import Derived.Lib.Buffer
import Derived.Lib.OthersKept
namespace Go.Proofs.YtpndlcjilgcfkaaGreatDoor
open Go Go.RowKit
open Go.Proofs

theorem iwr : (Tryz.prog.info? 150).map (fun i => (i.zero, i.size, i.bytes)) = some (some .nilIface, 1, 16) := by kernel_rfl

theorem own_two {w : World} {base e : Nat} {v x y : Value} (h : w.ownsRow base e 1 v 2 [x, y]) : ∃ g cap, v = .slice (some ⟨g, 0, none⟩) 2 cap ∧ w.cell? ⟨g, 0, none⟩ = some x ∧ w.cell? ⟨g, 1, none⟩ = some y ∧ base ≤ g ∧ g < w.heap.size := by
  have hl := h.lt
  rcases h.2 with ⟨_, h0⟩ | ⟨g, cap, cur, rfl, _⟩
  · simp at h0
  · have := hl g rfl
    exact ⟨g, cap, rfl, h.cells (g := g) rfl 0 x rfl, h.cells (g := g) rfl 1 y rfl, this.1, this.2⟩

set_option maxHeartbeats 2000000 in
set_option maxRecDepth 20000 in
theorem multiWriter_any (b : Nat) (x y : Addr) (w : World)
    (h0 : w.cell? ⟨b, 0, none⟩ = some (.iface 111 (.pointer (some x)))) (h1 : w.cell? ⟨b, 1, none⟩ = some (.iface 146 (.pointer (some y)))) :
    Calls Tryz.prog 61 #[.slice (some ⟨b, 0, none⟩) 2 2] w fun e w' => ∃ p g c, e = .returned (.iface 180 (.pointer (some ⟨p, 0, none⟩))) ∧
      Bk w' p 183 #[.slice (some ⟨g, 0, none⟩) 2 c] ∧ Bk w' g 150 #[.iface 111 (.pointer (some x)), .iface 146 (.pointer (some y))] ∧
      w.heap.size ≤ p ∧ w.heap.size ≤ g ∧ g < p ∧ Below w.heap.size w w' := by
  obtain ⟨i0, hi, hz0, hz1, hz2⟩ := info_parts iwr
  have hmk : ∀ W : World, (Instr.makeSlice 179 (.int .i64 0) (.int .i64 2)).run Tryz.prog W = .ok (.slice (some ⟨W.heap.size, 0, none⟩) 0 2) (W.alloc (.cells #[.nilIface, .nilIface] 150)) := fun _ => by kernel_rfl
  have hbl := block_lt_of_cell h0
  have ht1 : ∀ (v : Value) (W : World), (Instr.typeAssert (.iface 111 v) 150 180 true).run Tryz.prog W = .ok (.tuple #[.pointer none, .bool false]) W := fun _ _ => by kernel_rfl
  have ht2 : ∀ (v : Value) (W : World), (Instr.typeAssert (.iface 146 v) 150 180 true).run Tryz.prog W = .ok (.tuple #[.pointer none, .bool false]) W := fun _ _ => by kernel_rfl
  go_enter Tryz.func61, Tryz.ntmps61
  go_wp2_with fail
  refine wp_loop_rounds 3 ?_
  iterate 3 (rw [rounds_succ]; go_wp2_with fail)
  go_ret
  refine ⟨w.heap.size + 3, w.heap.size, 2, rfl, Bk.at_ _ _ _ _ (by simp), (((Bk.at_ _ _ _ _ rfl).alloc _).alloc _).alloc _, by omega, Nat.le_refl _, by omega, ?_⟩
  · exact (((((Below.refl _ w).alloc (Nat.le_refl _) _).alloc (by simp) _).alloc (by simp; omega) _).alloc (by simp; omega) _)

theorem Bk.others {w w' : World} {g : Nat} {t e : TypeId} {cs : Array Value} {b : Option Nat} (h : Bk w g t cs) (ho : Lib.OthersKept e b w w') (hne : some g ≠ b) (ht : t ≠ e) : Bk w' g t cs :=
  ho g _ h hne (fun c fz he => by
    injection he with h1 h2 h3
    exact ht h2)

theorem buf_kept {T e : TypeId} {B b k : Nat} {t : TypeId} {bs : List Value} {cs : Array Value} {w w' : World} (h : Lib.IsBuffer T e B b bs w) (hk : Bk w k t cs) (ht : e ≠ t) (hkb : b ≠ k) (hg : w.grownBy w' (some k)) : Lib.IsBuffer T e B b bs w' := by
  have hlt := h.lt
  obtain ⟨hB, v, lr, hbk, hown, hne⟩ := h
  exact ⟨hB, v, lr, (hg.block b hlt (by simpa using hkb)).trans hbk, hown.kept hg (.inr (own_apart hown hk ht)), hne⟩
theorem buf_below {T e : TypeId} {B b : Nat} {bs : List Value} {w w' : World} (h : Lib.IsBuffer T e B b bs w) (hb : Below w.heap.size w w') : Lib.IsBuffer T e B b bs w' := by
  have hlt := h.lt
  obtain ⟨hB, v, lr, hbk, hown, hne⟩ := h
  refine ⟨hB, v, lr, (hb.block b hlt).trans hbk, hown.kept (grown_of_below hb none) ?_, hne⟩
  cases hv : v.ownBlock with
  | none => exact .inl rfl
  | some k => exact .inr (by simp)
theorem bs_src {w : World} {b off : Nat} {l : List UInt8} (h : Bs w b off l) : ∀ j u, (Lib.byteCells l)[j]? = some u → w.cell? ((⟨b, off, none⟩ : Addr).add j) = some u := by
  intro j u hj
  rw [Addr.add_lit]
  have hjl : j < l.length := by
    have := (List.getElem?_eq_some_iff.1 hj).1
    simpa [Lib.byteCells] using this
  rw [h j hjl]
  simpa [Lib.byteCells, hjl] using hj

set_option maxHeartbeats 2000000 in
set_option maxRecDepth 20000 in
theorem mwWrite_any (p g c bb cb s B ab ao n cc : Nat) (l0 l : List UInt8) (w : World)
    (hp : Bk w p 183 #[.slice (some ⟨g, 0, none⟩) 2 c])
    (hg : Bk w g 150 #[.iface 111 (.pointer (some ⟨bb, 0, none⟩)), .iface 146 (.pointer (some ⟨cb, 0, none⟩))])
    (hbuf : Lib.IsBuffer 108 5 B bb (Lib.byteCells l0) w) (hB : B ≤ w.heap.size) (hcrc : Bk w cb 148 #[.int .u32 (s : Int)]) (hs : s < 4294967296)
    (hl : l.length = n) (hlim : l0.length + n ≤ 4294967296) (hab : ab ≠ bb)
    (hsrc : Bs w ab ao l) (hkept : ∀ w1, Below B w w1 → Lib.OthersKept 5 (some bb) w w1 → Bs w1 ab ao l)
    (h2 : g ≠ bb) (h3 : cb ≠ bb) (hBc : B ≤ cb) :
    Calls Tryz.prog 152 #[.pointer (some ⟨p, 0, none⟩), .slice (some ⟨ab, ao, none⟩) n cc] w fun e w' => e = .returned (.tuple #[.int .i64 (n : Int), .nilIface]) ∧
      Lib.IsBuffer 108 5 B bb (Lib.byteCells (l0 ++ l)) w' ∧ Bk w' cb 148 #[.int .u32 (crcMore s l : Nat)] ∧ Below B w w' ∧ (∀ q t cs, Bk w q t cs → q ≠ bb → q ≠ cb → t ≠ 5 → Bk w' q t cs) := by
  have c0 := hp.cell 0
  have d0 := hg.cell 0
  have d1 := hg.cell 1
  simp at c0 d0 d1
  go_enter Tryz.func152, Tryz.ntmps152
  go_wp2_with fail
  refine wp_loop_rounds 3 ?_
  rw [rounds_succ]
  go_wp2_with fail
  refine (Tryz.Buffer_Write_any B bb (Lib.byteCells l0) (Lib.byteCells l) ⟨ab, ao, none⟩ n cc w hbuf hB (oneCell_bytes _) (by simp [Lib.byteCells, hl]) hab (bs_src hsrc) (oneCell_bytes _) (by simp [Lib.byteCells]; omega)).mono ?_
  rintro e w1 ⟨rfl, hbuf1, hbel1, hoth1⟩
  have hg1 := hg.others hoth1 (by simpa using h2) (by decide)
  have hcrc1 := hcrc.others hoth1 (by simpa using h3) (by decide)
  have hs1 := hkept w1 hbel1 hoth1
  have e1 := hg1.cell 1
  simp at e1
  have hbuf1' := Lib.hid hbuf1
  have hbel1' := Lib.hid hbel1
  have hoth1' := Lib.hid hoth1
  have hcrc1' := Lib.hid hcrc1
  have hs1' := Lib.hid hs1
  clear hbuf1 hbel1 hoth1 hg1 hcrc1 hs1 d0 d1 hbuf hsrc hkept hcrc hp hg
  go_wp2_with fail
  rw [rounds_succ]
  go_wp2_with fail
  refine (crcWrite_any cb s (some ⟨ab, ao, none⟩) n cc l w1 hcrc1'.out hs ⟨hl, fun _ => ⟨ab, ao, rfl, hs1'.out⟩⟩ (by omega)).mono ?_
  rintro e w2 ⟨rfl, hcrc2, hgr2⟩
  have hcrc2' := Lib.hid hcrc2
  have hgr2' := Lib.hid hgr2
  clear hcrc2 hgr2
  go_wp2_with fail
  rw [rounds_succ]
  go_wp2_with fail
  go_ret2
  have hb1 := hbuf1'.out
  rw [← byteCells_append] at hb1
  refine ⟨rfl, buf_kept hb1 hcrc1'.out (by decide) h3.symm hgr2'.out, hcrc2'.out, below_own hbel1'.out (Nat.le_trans hB hbel1'.out.size) hgr2'.out hBc, ?_⟩
  intro q t cs hq hqb hqc hqt
  exact (hq.others hoth1'.out (by simpa using hqb) hqt).grown hgr2'.out (by simpa using hqc)

theorem buf_apart {T e : TypeId} {B b q : Nat} {t : TypeId} {bs : List Value} {cs : Array Value} {w : World} (h : Lib.IsBuffer T e B b bs w) (hk : Bk w q t cs) (ht : T ≠ t) : q ≠ b := by
  rintro rfl
  obtain ⟨_, v, lr, hbk, _⟩ := h
  unfold Bk at hk
  rw [hbk] at hk
  injection hk with hk
  injection hk with h1 h2 h3
  exact ht h2

/-- How the memory stands while an entry is written: l has gone into the buffer and the checksum. -/
structure Enc (w0 : World) (B bb cb p g c : Nat) (l : List UInt8) (s : Nat) (W : World) : Prop where
  buf : Lib.IsBuffer 108 5 B bb (Lib.byteCells l) W
  crc : Bk W cb 148 #[.int .u32 (s : Int)]
  mw : Bk W p 183 #[.slice (some ⟨g, 0, none⟩) 2 c]
  row : Bk W g 150 #[.iface 111 (.pointer (some ⟨bb, 0, none⟩)), .iface 146 (.pointer (some ⟨cb, 0, none⟩))]
  bel : Below B w0 W
  hB : B ≤ w0.heap.size
  hc : B ≤ cb

theorem Enc.step {w0 : World} {B bb cb p g c : Nat} {l : List UInt8} {s : Nat} {W : World} (h : Enc w0 B bb cb p g c l s W) (ab ao n cc : Nat) (src : List UInt8) (hn : src.length = n) (hlim : l.length + n ≤ 4294967296) (hs : s < 4294967296) (hab : ab ≠ bb)
    (hsrc : Bs W ab ao src) (hkept : ∀ w1, Below B W w1 → Lib.OthersKept 5 (some bb) W w1 → Bs w1 ab ao src) :
    Calls Tryz.prog 152 #[.pointer (some ⟨p, 0, none⟩), .slice (some ⟨ab, ao, none⟩) n cc] W fun e w' => e = .returned (.tuple #[.int .i64 (n : Int), .nilIface]) ∧
      Enc w0 B bb cb p g c (l ++ src) (crcMore s src) w' ∧ (∀ q t cs, Bk W q t cs → t ≠ 5 → t ≠ 108 → t ≠ 148 → Bk w' q t cs) := by
  have hBW : B ≤ W.heap.size := Nat.le_trans h.hB h.bel.size
  have hcb := buf_apart h.buf h.crc (by decide)
  have hgb := buf_apart h.buf h.row (by decide)
  refine (mwWrite_any p g c bb cb s B ab ao n cc l src W h.mw h.row h.buf hBW h.crc hs hn hlim hab hsrc hkept hgb hcb h.hc).mono ?_
  rintro e w' ⟨rfl, hb, hc, hbel, hq⟩
  have hq' : ∀ q t cs, Bk W q t cs → t ≠ 5 → t ≠ 108 → t ≠ 148 → Bk w' q t cs := fun q t cs hk h1 h2 h3 =>
    hq q t cs hk (buf_apart h.buf hk (fun e => h2 e.symm)) (hk.apart h.crc h3) h1
  exact ⟨rfl, ⟨hb, hc, hq' _ _ _ h.mw (by decide) (by decide) (by decide), hq' _ _ _ h.row (by decide) (by decide) (by decide), h.bel.trans hbel, h.hB, h.hc⟩, hq'⟩
end Go.Proofs.YtpndlcjilgcfkaaGreatDoor
