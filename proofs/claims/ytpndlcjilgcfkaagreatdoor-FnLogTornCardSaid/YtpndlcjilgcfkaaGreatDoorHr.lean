/-
  Contracts of the reader that reckons a check beside: hashReader.Read, ReadByte, Sum32, newHashReader.
-/
import Derived.Test.YtpndlcjilgcfkaaGreatDoorRd4
import Derived.Test.YtpndlcjilgcfkaaGreatDoorCrc
namespace Go.Proofs.YtpndlcjilgcfkaaGreatDoor
open Go Go.RowKit
open Go.Proofs

/-- The hash reader at block hb, its check at cb, over a bufio.Reader: the check so far, the count so far, what is left. -/
structure Hr (hb cb rb bb zb db x n : Nat) (l : List UInt8) (w : World) : Prop where
  h : Bk w hb 199 #[.iface 128 (.pointer (some ⟨rb, 0, none⟩)), .pointer (some ⟨cb, 0, none⟩), .int .i64 (n : Int)]
  c : Bk w cb 148 #[.int .u32 (x : Int)]
  r : Rd rb bb zb db l w
  hx : x < 4294967296
  hn : n ≤ 1099511627776

structure Apart6 (hb cb rb bb zb db : Nat) : Prop extends Apart4 rb bb zb db where
  b1 : hb ≠ cb
  b2 : hb ≠ rb
  b3 : hb ≠ bb
  b4 : hb ≠ zb
  b5 : hb ≠ db
  b6 : cb ≠ rb
  b7 : cb ≠ bb
  b8 : cb ≠ zb
  b9 : cb ≠ db
  g4 : glN ≤ hb
  g5 : glN ≤ cb

theorem Hr.ch {S : List Nat} {hb cb rb bb zb db x n : Nat} {l : List UInt8} {w w' : World} (h : Hr hb cb rb bb zb db x n l w) (hc : Ch S w w') (h1 : hb ∉ S) (h2 : cb ∉ S) (h3 : rb ∉ S) (h4 : bb ∉ S) (h5 : zb ∉ S) (h6 : db ∉ S) : Hr hb cb rb bb zb db x n l w' :=
  ⟨h.h.ch hc h1, h.c.ch hc h2, h.r.ch hc h3 h4 h5 h6, h.hx, h.hn⟩

set_option maxHeartbeats 4000000 in
set_option maxRecDepth 20000 in
theorem hrRead_some (hb cb rb bb zb db x n g off len c : Nat) (t : TypeId) (P : List Value) (l : List UInt8) (w : World) (hA : Apart6 hb cb rb bb zb db) (hr : Hr hb cb rb bb zb db x n l w) (hl : l ≠ [])
    (hg : Bk w g t P.toArray) (hfit : off + len ≤ P.length) (hlen : 0 < len) (hlen2 : len ≤ 4294967296) (hlc : len ≤ c) (hn2 : n + len ≤ 1099511627776) (n1 : g ≠ rb) (n2 : g ≠ bb) (n3 : g ≠ zb) (n4 : g ≠ db) (n5 : g ≠ hb) (n6 : g ≠ cb) :
    Calls Tryz.prog 102 #[.pointer (some ⟨hb, 0, none⟩), .slice (some ⟨g, off, none⟩) len c] w fun e w' =>
      ∃ m, 0 < m ∧ m ≤ len ∧ m ≤ l.length ∧ e = .returned (.tuple #[.int .i64 (m : Int), .nilIface]) ∧ Hr hb cb rb bb zb db (crcMore x (l.take m)) (n + m) (l.drop m) w' ∧ Bk w' g t (splice P off (Lib.byteCells (l.take m))).toArray ∧ Ch [hb, cb, rb, bb, zb, g] w w' := by
  have c0 := hr.h.cell 0
  simp at c0
  have hcall := Lib.hid (rdRead_some rb bb zb db g off len c t P l w hA.toApart4 hr.r hl hg hfit hlen (by omega) n1 n2 n3 n4)
  have hr' := Lib.hid hr
  have hg' := Lib.hid hg
  have hl' := Lib.hid hl
  clear hl hg hr
  go_enter Tryz.func102, Tryz.ntmps102
  go_wp2_with fail
  refine hcall.out.mono ?_
  rintro e w1 ⟨m, hm0, hml, hml2, rfl, hrd1, hg1, hc1⟩
  have hnb : hb ∉ [rb, bb, zb, g] := by simp; exact ⟨hA.b2, hA.b3, hA.b4, fun h => n5 h.symm⟩
  have hncb : cb ∉ [rb, bb, zb, g] := by simp; exact ⟨hA.b6, hA.b7, hA.b8, fun h => n6 h.symm⟩
  have h1 := hr'.out.h.ch hc1 hnb
  have hcc := hr'.out.c.ch hc1 hncb
  have d1 := h1.cell 1
  have d2 := h1.cell 2
  have f2 := h1.free 2
  simp at d1 d2
  have wn : IntKind.i64.wrap ((n : Int) + (m : Int)) = ((n + m : Nat) : Int) := (IntWalk.i64_in _ (by omega)).trans (by omega)
  have s1 : m ≤ c := by omega
  have s2 : (m : Int) ≤ (c : Int) := by omega
  have hbs := bs_splice hg1 (by omega)
  have hlt : (l.take m).length = m := by simp; omega
  have h1' := Lib.hid h1
  have hcc' := Lib.hid hcc
  have hrd1' := Lib.hid hrd1
  have hg1' := Lib.hid hg1
  have hc1' := Lib.hid hc1
  have hbs' := Lib.hid hbs
  have hlt' := Lib.hid hlt
  clear hlt hbs hc1 hg1 hrd1 hcc h1
  go_wp2_with fail
  have hcr := crcWrite_any cb x (some ⟨g, off, none⟩) m c (l.take m) ((w1.setCell ⟨hb, 2, none⟩ (.int .i64 ((n : Int) + (m : Int)))).drew) (hcc'.out.far (p := ⟨hb, 2, none⟩) (fun h => hA.b1 h.symm) _).drew hr'.out.hx ⟨hlt'.out, fun _ => ⟨g, off, rfl, (hbs'.out.far (p := ⟨hb, 2, none⟩) n5 _).drew⟩⟩ (by omega)
  have hcr' := Lib.hid hcr
  clear hcr
  go_region_with (go_at_call 106; refine hcr'.out.mono ?_; rintro e w2 ⟨rfl, hcc2, hgr2⟩)
  all_goals
    have hcc2' := Lib.hid hcc2
    have hgr2' := Lib.hid hgr2
    clear hgr2 hcc2
    go_wp2_with fail
    go_ret2
    have hc2 := Ch.of_grown hgr2'.out
    have hcA : Ch [hb, cb] w1 w2 := (((Ch.refl [hb, cb] w1).setCell (p := ⟨hb, 2, none⟩) (.inl (by simp)) _).drew).trans' hc2 (fun y hy => .inl (by simp at hy ⊢; omega))
    have h2 : Bk (w1.setCell ⟨hb, 2, none⟩ (.int .i64 ((n : Int) + (m : Int)))) hb 199 #[.iface 128 (.pointer (some ⟨rb, 0, none⟩)), .pointer (some ⟨cb, 0, none⟩), .int .i64 ((n + m : Nat) : Int)] := by
      simpa using h1'.out.set 2 (.int .i64 ((n : Int) + (m : Int)))
    refine ⟨m, hm0, hml, hml2, rfl, ⟨h2.drew.ch hc2 (by simpa using hA.b1), hcc2'.out, hrd1'.out.ch hcA ?_ ?_ ?_ ?_, crcMore_lt _ _, by omega⟩, hg1'.out.ch hcA (by simp; exact ⟨n5, n6⟩), (hc1'.out.mono (S' := [hb, cb, rb, bb, zb, g]) (fun y hy => .inl (by simp at hy ⊢; omega))).trans' hcA (fun y hy => .inl (by simp at hy ⊢; omega))⟩
    · simp; exact ⟨fun h => hA.b2 h.symm, fun h => hA.b6 h.symm⟩
    · simp; exact ⟨fun h => hA.b3 h.symm, fun h => hA.b7 h.symm⟩
    · simp; exact ⟨fun h => hA.b4 h.symm, fun h => hA.b8 h.symm⟩
    · simp; exact ⟨fun h => hA.b5 h.symm, fun h => hA.b9 h.symm⟩

set_option maxHeartbeats 4000000 in
set_option maxRecDepth 20000 in
theorem hrRead_end (hb cb rb bb zb db x n g off len c : Nat) (t : TypeId) (P : List Value) (w : World) (hA : Apart6 hb cb rb bb zb db) (hgl : Gl w) (hr : Hr hb cb rb bb zb db x n [] w)
    (hg : Bk w g t P.toArray) (hfit : off + len ≤ P.length) (hlen : 0 < len) (hlen2 : len ≤ 4294967296) (n1 : g ≠ rb) (n2 : g ≠ bb) (n3 : g ≠ zb) (n4 : g ≠ db) (n5 : g ≠ hb) (n6 : g ≠ cb) (hgG : glN ≤ g) :
    Calls Tryz.prog 102 #[.pointer (some ⟨hb, 0, none⟩), .slice (some ⟨g, off, none⟩) len c] w fun e w' =>
      (∃ a, e = .returned (.tuple #[.int .i64 0, .iface 191 (.pointer (some a))]) ∧ w.cell? ⟨1, 0, none⟩ = some (.iface 191 (.pointer (some a)))) ∧ Hr hb cb rb bb zb db x n [] w' ∧ Bk w' g t P.toArray ∧ Ch [rb, bb, zb, g] w w' := by
  have c0 := hr.h.cell 0
  simp at c0
  have hcall := Lib.hid (rdRead_end rb bb zb db g off len c t P w hA.toApart4 hgl hr.r hg hfit hlen (by omega) n1 n2 n3 n4 hgG)
  have hr' := Lib.hid hr
  have hg' := Lib.hid hg
  have hgl' := Lib.hid hgl
  clear hgl hg hr
  go_enter Tryz.func102, Tryz.ntmps102
  go_wp2_with fail
  refine hcall.out.mono ?_
  rintro e w1 ⟨⟨a, rfl, ha⟩, hrd1, hg1, hc1⟩
  have hrd1' := Lib.hid hrd1
  have hg1' := Lib.hid hg1
  have hc1' := Lib.hid hc1
  have ha' := Lib.hid ha
  clear ha hc1 hg1 hrd1
  go_wp2_with fail
  go_ret2
  have hnb : hb ∉ [rb, bb, zb, g] := by simp; exact ⟨hA.b2, hA.b3, hA.b4, fun h => n5 h.symm⟩
  have hncb : cb ∉ [rb, bb, zb, g] := by simp; exact ⟨hA.b6, hA.b7, hA.b8, fun h => n6 h.symm⟩
  exact ⟨⟨a, rfl, ha'.out⟩, ⟨hr'.out.h.ch hc1'.out hnb, hr'.out.c.ch hc1'.out hncb, hrd1'.out, hr'.out.hx, hr'.out.hn⟩, hg1'.out, hc1'.out⟩
end Go.Proofs.YtpndlcjilgcfkaaGreatDoor
