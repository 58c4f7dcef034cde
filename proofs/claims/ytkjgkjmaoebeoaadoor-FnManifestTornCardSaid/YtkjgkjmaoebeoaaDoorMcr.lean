/-
  Contract of countingReader.Read over a bufio.Reader over a file; io.ReadFull over it.
-/
import Derived.Test.YtkjgkjmaoebeoaaDoorFd4
import Derived.Test.YtkjgkjmaoebeoaaDoorTail2
namespace Go.Proofs.YtkjgkjmaoebeoaaDoor
open Go Go.RowKit
open Go.Proofs

theorem eqSame (a : Addr) (W : World) : (binOp .eql 59 (.iface 119 (.pointer (some a))) (.iface 119 (.pointer (some a)))).run Tryd.prog W = .ok (.bool true) W := by
  obtain ⟨i, hi, hcmp⟩ := Option.map_eq_some_iff.1 (show (Tryd.prog.info? 119).map (·.comparable) = some true by kernel_rfl)
  obtain ⟨j, hj, hjs⟩ := Option.map_eq_some_iff.1 (show (Tryd.prog.info? 121).map (·.size) = some 1 by kernel_rfl)
  exact run_eql_iface_ptr_same W a Tryd.underlying59 Tryd.underlying119 hi hcmp hj

/-- An error of an end: io.EOF or io.ErrUnexpectedEOF. -/
def EndErr (w : World) (a : Addr) : Prop := w.cell? ⟨3, 0, none⟩ = some (.iface 119 (.pointer (some a))) ∨ w.cell? ⟨4, 0, none⟩ = some (.iface 119 (.pointer (some a)))

/-- The counting reader at block hb, over a bufio.Reader: the count so far, what is left. -/
structure Cr (hb rb bb zb nb db n : Nat) (l : List UInt8) (w : World) : Prop where
  h : Bk w hb 90 #[.pointer (some ⟨rb, 0, none⟩), .int .i64 (n : Int)]
  r : Fd rb bb zb nb db l w
  hn : n ≤ 1099511627776

structure Apart6 (hb rb bb zb nb db : Nat) : Prop extends Apart5 rb bb zb nb db where
  b2 : hb ≠ rb
  b3 : hb ≠ bb
  b4 : hb ≠ zb
  b5 : hb ≠ db
  b6 : hb ≠ nb
  g4 : glN ≤ hb

theorem Cr.ch {S : List Nat} {hb rb bb zb nb db n : Nat} {l : List UInt8} {w w' : World} (h : Cr hb rb bb zb nb db n l w) (hc : Ch S w w') (h1 : hb ∉ S) (h3 : rb ∉ S) (h4 : bb ∉ S) (h5 : zb ∉ S) (h6 : db ∉ S) (h7 : nb ∉ S) : Cr hb rb bb zb nb db n l w' :=
  ⟨h.h.ch hc h1, h.r.ch hc h3 h4 h5 h6 h7, h.hn⟩

set_option maxHeartbeats 4000000 in
set_option maxRecDepth 20000 in
theorem crRead_some (hb rb bb zb nb db n g off len c : Nat) (t : TypeId) (P : List Value) (l : List UInt8) (w : World) (hA : Apart6 hb rb bb zb nb db) (hr : Cr hb rb bb zb nb db n l w) (hl : l ≠ [])
    (hg : Bk w g t P.toArray) (hfit : off + len ≤ P.length) (hlen : 0 < len) (hlen2 : len ≤ 4294967296) (hn2 : n + l.length ≤ 1099511627776) (n1 : g ≠ rb) (n2 : g ≠ bb) (n3 : g ≠ zb) (n4 : g ≠ db) (n5 : g ≠ nb) (n6 : g ≠ hb) :
    Calls Tryd.prog 103 #[.pointer (some ⟨hb, 0, none⟩), .slice (some ⟨g, off, none⟩) len c] w fun e w' =>
      ∃ m, 0 < m ∧ m ≤ len ∧ m ≤ l.length ∧ e = .returned (.tuple #[.int .i64 (m : Int), .nilIface]) ∧ Cr hb rb bb zb nb db (n + m) (l.drop m) w' ∧ Bk w' g t (splice P off (Lib.byteCells (l.take m))).toArray ∧ Ch [hb, rb, bb, zb, g] w w' := by
  have c0 := hr.h.cell 0
  simp at c0
  have hcall := Lib.hid (fdRead_some rb bb zb nb db g off len c t P l w hA.toApart5 hr.r hl hg hfit hlen (by omega) n1 n2 n3 n4 n5)
  have hr' := Lib.hid hr
  have hg' := Lib.hid hg
  have hl' := Lib.hid hl
  clear hl hg hr
  go_enter Tryd.func103, Tryd.ntmps103
  go_wp2_with fail
  refine hcall.out.mono ?_
  rintro e w1 ⟨m, hm0, hml, hml2, rfl, hrd1, hg1, hc1⟩
  have hnb : hb ∉ [rb, bb, zb, g] := by simp; exact ⟨hA.b2, hA.b3, hA.b4, fun h => n6 h.symm⟩
  have h1 := hr'.out.h.ch hc1 hnb
  have d1 := h1.cell 1
  have f1 := h1.free 1
  simp at d1
  have wn : IntKind.i64.wrap ((n : Int) + (m : Int)) = ((n + m : Nat) : Int) := (IntWalk.i64_in _ (by omega)).trans (by omega)
  obtain ⟨v, hv⟩ : ∃ v, n + m = v := ⟨_, rfl⟩
  rw [hv] at wn
  have h1' := Lib.hid h1
  have hrd1' := Lib.hid hrd1
  have hg1' := Lib.hid hg1
  have hc1' := Lib.hid hc1
  have hv' := Lib.hid hv
  clear hv hc1 hg1 hrd1 h1
  go_wp2_with fail
  go_ret2
  have hcA : Ch [hb] w1 (w1.setCell ⟨hb, 1, none⟩ (.int .i64 (v : Int))) := (Ch.refl [hb] w1).setCell (p := ⟨hb, 1, none⟩) (.inl (by simp)) _
  have h2 : Bk (w1.setCell ⟨hb, 1, none⟩ (.int .i64 (v : Int))) hb 90 #[.pointer (some ⟨rb, 0, none⟩), .int .i64 (v : Int)] := by simpa using h1'.out.set 1 (.int .i64 (v : Int))
  refine ⟨m, hm0, hml, hml2, rfl, ⟨by rw [hv'.out]; exact h2, hrd1'.out.ch hcA (by simp; exact fun h => hA.b2 h.symm) (by simp; exact fun h => hA.b3 h.symm) (by simp; exact fun h => hA.b4 h.symm) (by simp; exact fun h => hA.b5 h.symm) (by simp; exact fun h => hA.b6 h.symm), by omega⟩, hg1'.out.far (p := ⟨hb, 1, none⟩) n6 _,
    (hc1'.out.mono (S' := [hb, rb, bb, zb, g]) (fun y hy => .inl (by simp at hy ⊢; omega))).trans' hcA (fun y hy => .inl (by simp at hy ⊢; omega))⟩

set_option maxHeartbeats 4000000 in
set_option maxRecDepth 20000 in
theorem crRead_end (hb rb bb zb nb db n g off len c : Nat) (t : TypeId) (P : List Value) (w : World) (hA : Apart6 hb rb bb zb nb db) (hgl : Gl w) (hr : Cr hb rb bb zb nb db n [] w)
    (hg : Bk w g t P.toArray) (hfit : off + len ≤ P.length) (hlen : 0 < len) (hlen2 : len ≤ 4294967296) (n1 : g ≠ rb) (n2 : g ≠ bb) (n3 : g ≠ zb) (n4 : g ≠ db) (n5 : g ≠ nb) (n6 : g ≠ hb) (hgG : glN ≤ g) :
    Calls Tryd.prog 103 #[.pointer (some ⟨hb, 0, none⟩), .slice (some ⟨g, off, none⟩) len c] w fun e w' =>
      (∃ a, e = .returned (.tuple #[.int .i64 0, .iface 119 (.pointer (some a))]) ∧ w.cell? ⟨3, 0, none⟩ = some (.iface 119 (.pointer (some a)))) ∧ Cr hb rb bb zb nb db n [] w' ∧ Bk w' g t P.toArray ∧ Ch [hb, rb, bb, zb, g] w w' := by
  have c0 := hr.h.cell 0
  simp at c0
  have hn := hr.hn
  have hcall := Lib.hid (fdRead_end rb bb zb nb db g off len c t P w hA.toApart5 hgl hr.r hg hfit hlen (by omega) n1 n2 n3 n4 n5 hgG)
  have hr' := Lib.hid hr
  have hg' := Lib.hid hg
  have hgl' := Lib.hid hgl
  clear hgl hg hr
  go_enter Tryd.func103, Tryd.ntmps103
  go_wp2_with fail
  refine hcall.out.mono ?_
  rintro e w1 ⟨⟨a, rfl, ha⟩, hrd1, hg1, hc1⟩
  have hnb : hb ∉ [rb, bb, zb, g] := by simp; exact ⟨hA.b2, hA.b3, hA.b4, fun h => n6 h.symm⟩
  have h1 := hr'.out.h.ch hc1 hnb
  have d1 := h1.cell 1
  have f1 := h1.free 1
  simp at d1
  have wn : IntKind.i64.wrap ((n : Int) + 0) = (n : Int) := (IntWalk.i64_in _ (by omega)).trans (by omega)
  have wn2 : IntKind.i64.wrap (n : Int) = (n : Int) := IntWalk.i64_in _ (by omega)
  have h1' := Lib.hid h1
  have hrd1' := Lib.hid hrd1
  have hg1' := Lib.hid hg1
  have hc1' := Lib.hid hc1
  have ha' := Lib.hid ha
  clear ha hc1 hg1 hrd1 h1
  go_wp2_with fail
  go_ret2
  have hcA : Ch [hb] w1 (w1.setCell ⟨hb, 1, none⟩ (.int .i64 (n : Int))) := (Ch.refl [hb] w1).setCell (p := ⟨hb, 1, none⟩) (.inl (by simp)) _
  have h2 : Bk (w1.setCell ⟨hb, 1, none⟩ (.int .i64 (n : Int))) hb 90 #[.pointer (some ⟨rb, 0, none⟩), .int .i64 (n : Int)] := by simpa using h1'.out.set 1 (.int .i64 (n : Int))
  exact ⟨⟨a, rfl, ha'.out⟩, ⟨h2, hrd1'.out.ch hcA (by simp; exact fun h => hA.b2 h.symm) (by simp; exact fun h => hA.b3 h.symm) (by simp; exact fun h => hA.b4 h.symm) (by simp; exact fun h => hA.b5 h.symm) (by simp; exact fun h => hA.b6 h.symm), hr'.out.hn⟩, hg1'.out.far (p := ⟨hb, 1, none⟩) n6 _,
    (hc1'.out.mono (S' := [hb, rb, bb, zb, g]) (fun y hy => .inl (by simp at hy ⊢; omega))).trans' hcA (fun y hy => .inl (by simp at hy ⊢; omega))⟩

set_option maxHeartbeats 8000000 in
set_option maxRecDepth 100000 in
theorem ralCr_any (hb : Nat) (l : List UInt8) (g off len c : Nat) (t : TypeId) (P : List Value) (St : Nat → World → Prop) (SS : List Nat) (w : World) (hgl : Gl w) (hS : ∀ k, k ∈ SS → glN ≤ k) (hstD : ∀ k W, St k W → St k W.drew)
    (hsome : ∀ k W off' len' c' P', St k W → k < l.length → Bk W g t (List.toArray P') → off' + len' ≤ P'.length → 0 < len' → len' ≤ 4294967296 → len' ≤ c' → 
      Calls Tryd.prog 103 #[.pointer (some ⟨hb, 0, none⟩), .slice (some ⟨g, off', none⟩) len' c'] W fun e w' => ∃ m, 0 < m ∧ m ≤ len' ∧ k + m ≤ l.length ∧ e = .returned (.tuple #[.int .i64 (m : Int), .nilIface]) ∧ St (k + m) w' ∧ Bk w' g t (splice P' off' (Lib.byteCells ((l.drop k).take m))).toArray ∧ Ch SS W w')
    (hend : ∀ W off' len' c' P', St l.length W → Gl W → Bk W g t (List.toArray P') → off' + len' ≤ P'.length → 0 < len' → len' ≤ 4294967296 → 
      Calls Tryd.prog 103 #[.pointer (some ⟨hb, 0, none⟩), .slice (some ⟨g, off', none⟩) len' c'] W fun e w' => (∃ a, e = .returned (.tuple #[.int .i64 0, .iface 119 (.pointer (some a))]) ∧ W.cell? ⟨3, 0, none⟩ = some (.iface 119 (.pointer (some a)))) ∧ St l.length w' ∧ Bk w' g t P'.toArray ∧ Ch SS W w')
    (h0 : St 0 w) (hg : Bk w g t P.toArray) (hfit : off + len ≤ P.length) (hlc : len ≤ c) (hlen2 : len ≤ 4294967296) :
    Calls Tryd.prog 42 #[.iface 94 (.pointer (some ⟨hb, 0, none⟩)), .slice (some ⟨g, off, none⟩) len c, .int .i64 (len : Int)] w fun e w' =>
      (len ≤ l.length ∧ e = .returned (.tuple #[.int .i64 (len : Int), .nilIface]) ∧ St len w' ∧ Bk w' g t (splice P off (Lib.byteCells (l.take len))).toArray ∧ Ch SS w w') ∨
      (l.length < len ∧ (∃ (v : Nat) (a : Addr), e = .returned (.tuple #[.int .i64 (v : Int), .iface 119 (.pointer (some a))]) ∧ EndErr w a) ∧ Ch SS w w') := by
  have heqS := eqSame
  obtain ⟨au, hu⟩ := hgl.un
  have hgS1 : 3 ∉ SS := fun hm => by have := hS _ hm; unfold glN at this; omega
  have hgS2 : 4 ∉ SS := fun hm => by have := hS _ hm; unfold glN at this; omega
  have hna : ∀ (W : World), (nilAhead 299 94 (.pointer (some ⟨hb, 0, none⟩)) "Read").run Tryd.prog W = .ok (some false) W := fun _ => by kernel_rfl
  have hll : ¬ ((len : Int) < (len : Int)) := by omega
  have hg' := Lib.hid hg
  have h0' := Lib.hid h0
  have hgl' := Lib.hid hgl
  clear hgl h0 hg
  go_enter Tryd.func42, Tryd.ntmps42
  go_wp2_with fail
  go_loopw [6, 7] (fun vn ve wr => ∃ k : Nat, k ≤ len ∧ k ≤ l.length ∧ vn = .int .i64 k ∧ St k wr ∧ Bk wr g t (splice P off (Lib.byteCells (l.take k))).toArray ∧ Ch SS w wr ∧ (ve = .nilIface ∨ (k = l.length ∧ k < len ∧ ∃ a, ve = .iface 119 (.pointer (some a)) ∧ w.cell? ⟨3, 0, none⟩ = some (.iface 119 (.pointer (some a))))))
    (fun vn ve _ => 2 * (len - (intOf vn).toNat) + errOf ve)
  case atStart => exact ⟨0, Nat.zero_le _, Nat.zero_le _, rfl, h0'.out, by rw [List.take_zero]; show Bk w g t (splice P off []).toArray; rw [splice_nil]; exact hg'.out, Ch.refl _ _, .inl rfl⟩
  case round =>
    obtain ⟨k, hk, hkl, rfl, hst, hgr, hcr, hve⟩ := hrel
    rcases hve with rfl | ⟨hke, hklt, a, rfl, ha⟩
    · by_cases hlt : k < len
      · have hck : ¬ c = k := by omega
        have s1 : k ≤ len := by omega
        have s2 : (k : Int) ≤ (len : Int) := by omega
        have hPl : (splice P off (Lib.byteCells (l.take k))).length = P.length := splice_length _ _ _ (by simp [Lib.byteCells]; omega)
        by_cases hke : k < l.length
        · have hcall := Lib.hid (hsome k wr.drew (off + k) (len - k) (c - k) _ (hstD _ _ hst) hke hgr.drew (by rw [hPl]; omega) (by omega) (by omega) (by omega))
          clear hsome hend hstD
          have hst' := Lib.hid hst
          have hgr' := Lib.hid hgr
          have hcr' := Lib.hid hcr
          clear hcr hgr hst
          go_wp2_with fail
          go_region_with (go_at_call 103; refine hcall.out.mono ?_; rintro e w1 ⟨m, hm0, hml, hkm, rfl, hst1, hg1, hc1⟩)
          all_goals
            have wk : IntKind.i64.wrap ((k : Int) + (m : Int)) = ((k + m : Nat) : Int) := (IntWalk.i64_in _ (by omega)).trans (by omega)
            have hst1' := Lib.hid hst1
            have hg1' := Lib.hid hg1
            have hc1' := Lib.hid hc1
            clear hc1 hg1 hst1
            go_wp2_with fail
            go_roundw
            case rel =>
              refine ⟨k + m, by omega, hkm, by go_num, hst1'.out, ?_, (hcr'.out.drew).trans hc1'.out, .inl rfl⟩
              have h1 := hg1'.out
              have hlk : (Lib.byteCells (l.take k)).length = k := by simp [Lib.byteCells]; omega
              have h2 := splice_splice P off (Lib.byteCells (l.take k)) (Lib.byteCells ((l.drop k).take m)) (by rw [hlk]; simp [Lib.byteCells]; omega)
              rw [hlk, ← byteCells_append, ← List.take_add] at h2
              rw [← h2]
              exact h1
            case measure => simp [intOf, errOf]; omega
        · obtain rfl : k = l.length := by omega
          have hglr := hgl'.out.ch hcr hS
          have hcall := Lib.hid (hend wr.drew (off + l.length) (len - l.length) (c - l.length) _ (hstD _ _ hst) (hglr.ch ((Ch.refl [] wr).drew) (by simp)) hgr.drew (by rw [hPl]; omega) (by omega) (by omega))
          clear hsome hend hstD hglr hke
          have wk : IntKind.i64.wrap ((l.length : Int) + 0) = (l.length : Int) := (IntWalk.i64_in _ (by omega)).trans (by omega)
          have hst' := Lib.hid hst
          have hgr' := Lib.hid hgr
          have hcr' := Lib.hid hcr
          clear hcr hgr hst
          go_wp2_with fail
          go_region_with (go_at_call 103; refine hcall.out.mono ?_; rintro e w1 ⟨⟨a, rfl, ha⟩, hst1, hg1, hc1⟩)
          all_goals
            have ha2 : w.cell? ⟨3, 0, none⟩ = some (.iface 119 (.pointer (some a))) := by
              have := hcr'.out.cell 0 hgl'.out.eof.lt hgS1
              exact this.symm.trans ha
            have hst1' := Lib.hid hst1
            have hg1' := Lib.hid hg1
            have hc1' := Lib.hid hc1
            have ha' := Lib.hid ha
            have ha2' := Lib.hid ha2
            clear ha2 ha hc1 hg1 hst1
            go_wp2_with fail
            go_roundw
            case rel => exact ⟨l.length, hk, Nat.le_refl _, by go_num, hst1'.out, hg1'.out, (hcr'.out.drew).trans hc1'.out, .inr ⟨rfl, hlt, a, rfl, ha2'.out⟩⟩
            case measure => simp [intOf, errOf]
      · obtain rfl : k = len := by omega
        clear hsome hend hstD
        have hst' := Lib.hid hst
        have hgr' := Lib.hid hgr
        have hcr' := Lib.hid hcr
        clear hcr hgr hst
        go_wp2_with fail
        go_ret2
        exact .inl ⟨hkl, rfl, hst'.out, hgr'.out, hcr'.out⟩
    · have e1 : wr.cell? ⟨3, 0, none⟩ = some (.iface 119 (.pointer (some a))) := (hcr.cell 0 hgl'.out.eof.lt hgS1).trans ha
      have e2 : wr.cell? ⟨4, 0, none⟩ = some (.iface 119 (.pointer (some au))) := (hcr.cell 0 hgl'.out.un.lt hgS2).trans hu
      clear hsome hend hstD
      have hst' := Lib.hid hst
      have hgr' := Lib.hid hgr
      have hcr' := Lib.hid hcr
      have ha' := Lib.hid ha
      have hke' := Lib.hid hke
      clear hke ha hcr hgr hst
      by_cases hk0 : k = 0
      · subst hk0
        go_wp2_with fail
        go_ret2
        exact .inr ⟨by have := hke'.out; omega, ⟨_, a, rfl, .inl ha'.out⟩, hcr'.out⟩
      · have hk1 : (0 : Int) < (k : Int) := by omega
        go_wp2_with fail
        go_ret2
        exact .inr ⟨by have := hke'.out; omega, ⟨_, au, rfl, .inr hu⟩, hcr'.out⟩

set_option maxHeartbeats 2000000 in
theorem rfCr_any (hb rb bb zb nb db n g off len c : Nat) (t : TypeId) (P : List Value) (l : List UInt8) (w : World) (hA : Apart6 hb rb bb zb nb db) (hgl : Gl w) (hr : Cr hb rb bb zb nb db n l w) (hn : n + l.length ≤ 1099511627776)
    (hg : Bk w g t P.toArray) (hfit : off + len ≤ P.length) (hlc : len ≤ c) (hlen2 : len ≤ 4294967296) (n1 : g ≠ rb) (n2 : g ≠ bb) (n3 : g ≠ zb) (n4 : g ≠ db) (n5 : g ≠ nb) (n6 : g ≠ hb) (hgG : glN ≤ g) :
    Calls Tryd.prog 29 #[.iface 94 (.pointer (some ⟨hb, 0, none⟩)), .slice (some ⟨g, off, none⟩) len c] w fun e w' =>
      (len ≤ l.length ∧ e = .returned (.tuple #[.int .i64 (len : Int), .nilIface]) ∧ Cr hb rb bb zb nb db (n + len) (l.drop len) w' ∧ Bk w' g t (splice P off (Lib.byteCells (l.take len))).toArray ∧ Ch [hb, rb, bb, zb, g] w w') ∨
      (l.length < len ∧ (∃ (v : Nat) (a : Addr), e = .returned (.tuple #[.int .i64 (v : Int), .iface 119 (.pointer (some a))]) ∧ EndErr w a) ∧ Ch [hb, rb, bb, zb, g] w w') := by
  have hcall := ralCr_any hb l g off len c t P (fun k W => k ≤ l.length ∧ Cr hb rb bb zb nb db (n + k) (l.drop k) W) [hb, rb, bb, zb, g] w hgl (by simp; exact ⟨hA.g4, hA.g1, hA.g2, hA.g3, hgG⟩)
    (fun k W h => ⟨h.1, h.2.ch ((Ch.refl [] W).drew) (by simp) (by simp) (by simp) (by simp) (by simp) (by simp)⟩)
    (fun k W off' len' c' P' h hk hg' hf hl0 hl1 hc' => (crRead_some hb rb bb zb nb db _ g off' len' c' t P' (l.drop k) W hA h.2 (by rw [Ne, List.drop_eq_nil_iff]; omega) hg' hf hl0 hl1 (by have := h.1; simp; omega) n1 n2 n3 n4 n5 n6).mono fun e w' ⟨m, h1, h2, h3, h4, h5, h6, h7⟩ =>
      ⟨m, h1, h2, by simp at h3; omega, h4, ⟨by simp at h3; omega, by
        rw [List.drop_drop, Nat.add_assoc] at h5
        exact h5⟩, h6, h7⟩)
    (fun W off' len' c' P' h hg1 hg' hf hl0 hl1 => by
      have h2 := h.2
      rw [List.drop_length] at h2
      refine (crRead_end hb rb bb zb nb db _ g off' len' c' t P' W hA hg1 h2 hg' hf hl0 hl1 n1 n2 n3 n4 n5 n6 hgG).mono fun e w' ⟨h3, h4, h5, h6⟩ => ⟨h3, ⟨Nat.le_refl _, by rw [List.drop_length]; exact h4⟩, h5, h6⟩)
    ⟨Nat.zero_le _, hr⟩ hg hfit hlc hlen2
  have hcall' := Lib.hid hcall
  clear hcall
  have hr' := Lib.hid hr
  have hg' := Lib.hid hg
  have hgl' := Lib.hid hgl
  clear hgl hg hr
  go_enter Tryd.func29, Tryd.ntmps29
  go_wp2_with fail
  refine hcall'.out.mono ?_
  rintro e w1 (⟨h1, rfl, h2, h3, h4⟩ | ⟨h1, ⟨v, a, rfl, ha⟩, h4⟩)
  ·
    have h2' := Lib.hid h2
    have h3' := Lib.hid h3
    have h4' := Lib.hid h4
    clear h4 h3 h2
    go_wp2_with fail
    go_ret2
    exact .inl ⟨h1, rfl, h2'.out.2, h3'.out, h4'.out⟩
  ·
    have ha' := Lib.hid ha
    have h4' := Lib.hid h4
    clear h4 ha
    go_wp2_with fail
    go_ret2
    exact .inr ⟨h1, ⟨v, a, rfl, ha'.out⟩, h4'.out⟩
end Go.Proofs.YtkjgkjmaoebeoaaDoor
