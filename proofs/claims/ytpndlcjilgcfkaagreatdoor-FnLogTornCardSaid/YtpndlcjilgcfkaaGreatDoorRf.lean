/-
  Contracts of io.ReadAtLeast and io.ReadFull over the hash reader and over a bufio.Reader.
-/
import Derived.Test.YtpndlcjilgcfkaaGreatDoorUv
import Derived.Test.YtpndlcjilgcfkaaGreatDoorTail2
namespace Go.Proofs.YtpndlcjilgcfkaaGreatDoor
open Go Go.RowKit
open Go.Proofs

set_option maxHeartbeats 8000000 in
set_option maxRecDepth 100000 in
theorem ralHash_any (hb : Nat) (l : List UInt8) (g off len c : Nat) (t : TypeId) (P : List Value) (St : Nat → World → Prop) (SS : List Nat) (w : World) (hgl : Gl w) (hS : ∀ k, k ∈ SS → glN ≤ k) (hstD : ∀ k W, St k W → St k W.drew)
    (hsome : ∀ k W off' len' c' P', St k W → k < l.length → Bk W g t (List.toArray P') → off' + len' ≤ P'.length → 0 < len' → len' ≤ 4294967296 → len' ≤ c' → 
      Calls Tryz.prog 102 #[.pointer (some ⟨hb, 0, none⟩), .slice (some ⟨g, off', none⟩) len' c'] W fun e w' => ∃ m, 0 < m ∧ m ≤ len' ∧ k + m ≤ l.length ∧ e = .returned (.tuple #[.int .i64 (m : Int), .nilIface]) ∧ St (k + m) w' ∧ Bk w' g t (splice P' off' (Lib.byteCells ((l.drop k).take m))).toArray ∧ Ch SS W w')
    (hend : ∀ W off' len' c' P', St l.length W → Gl W → Bk W g t (List.toArray P') → off' + len' ≤ P'.length → 0 < len' → len' ≤ 4294967296 → 
      Calls Tryz.prog 102 #[.pointer (some ⟨hb, 0, none⟩), .slice (some ⟨g, off', none⟩) len' c'] W fun e w' => (∃ a, e = .returned (.tuple #[.int .i64 0, .iface 191 (.pointer (some a))]) ∧ W.cell? ⟨1, 0, none⟩ = some (.iface 191 (.pointer (some a)))) ∧ St l.length w' ∧ Bk w' g t P'.toArray ∧ Ch SS W w')
    (h0 : St 0 w) (hg : Bk w g t P.toArray) (hfit : off + len ≤ P.length) (hlc : len ≤ c) (hlen2 : len ≤ 4294967296) :
    Calls Tryz.prog 91 #[.iface 173 (.pointer (some ⟨hb, 0, none⟩)), .slice (some ⟨g, off, none⟩) len c, .int .i64 (len : Int)] w fun e w' =>
      (len ≤ l.length ∧ e = .returned (.tuple #[.int .i64 (len : Int), .nilIface]) ∧ St len w' ∧ Bk w' g t (splice P off (Lib.byteCells (l.take len))).toArray ∧ Ch SS w w') ∨
      (l.length < len ∧ (∃ (v : Nat) (a : Addr), e = .returned (.tuple #[.int .i64 (v : Int), .iface 191 (.pointer (some a))]) ∧ EndErr w a) ∧ Ch SS w w') := by
  have heqS := eqSame
  obtain ⟨au, hu⟩ := hgl.un
  have hgS1 : 1 ∉ SS := fun hm => by have := hS _ hm; unfold glN at this; omega
  have hgS2 : 2 ∉ SS := fun hm => by have := hS _ hm; unfold glN at this; omega
  have hna : ∀ (W : World), (nilAhead 361 173 (.pointer (some ⟨hb, 0, none⟩)) "Read").run Tryz.prog W = .ok (some false) W := fun _ => by kernel_rfl
  have hll : ¬ ((len : Int) < (len : Int)) := by omega
  have hg' := Lib.hid hg
  have h0' := Lib.hid h0
  have hgl' := Lib.hid hgl
  clear hgl h0 hg
  go_enter Tryz.func91, Tryz.ntmps91
  go_wp2_with fail
  go_loopw [6, 7] (fun vn ve wr => ∃ k : Nat, k ≤ len ∧ k ≤ l.length ∧ vn = .int .i64 k ∧ St k wr ∧ Bk wr g t (splice P off (Lib.byteCells (l.take k))).toArray ∧ Ch SS w wr ∧ (ve = .nilIface ∨ (k = l.length ∧ k < len ∧ ∃ a, ve = .iface 191 (.pointer (some a)) ∧ w.cell? ⟨1, 0, none⟩ = some (.iface 191 (.pointer (some a))))))
    (fun vn ve _ => 2 * (len - (intOf vn).toNat) + errOf ve)
  case atStart => exact ⟨0, Nat.zero_le _, Nat.zero_le _, rfl, h0'.out, by rw [List.take_zero]; show Bk w g t (splice P off []).toArray; rw [splice_nil]; exact hg'.out, Ch.refl _ _, .inl rfl⟩
  case round =>
    obtain ⟨k, hk, hkl, rfl, hst, hgr, hcr, hve⟩ := hrel
    rcases hve with rfl | ⟨hke, hklt, a, rfl, ha⟩
    · by_cases hlt : k < len
      · have hck : ¬ c = k := by omega
        have s1 : k ≤ len := by omega
        have s2 : (k : Int) ≤ (len : Int) := by omega
        have hPl : (splice P off (Lib.byteCells (l.take k))).length = P.length := splice_length _ _ _ (by simp [Lib.byteCells]; omega)
        by_cases hke : k < l.length
        · have hcall := Lib.hid (hsome k wr.drew (off + k) (len - k) (c - k) _ (hstD _ _ hst) hke hgr.drew (by rw [hPl]; omega) (by omega) (by omega) (by omega))
          clear hsome hend hstD
          have hst' := Lib.hid hst
          have hgr' := Lib.hid hgr
          have hcr' := Lib.hid hcr
          clear hcr hgr hst
          go_wp2_with fail
          go_region_with (go_at_call 102; refine hcall.out.mono ?_; rintro e w1 ⟨m, hm0, hml, hkm, rfl, hst1, hg1, hc1⟩)
          all_goals
            have wk : IntKind.i64.wrap ((k : Int) + (m : Int)) = ((k + m : Nat) : Int) := (IntWalk.i64_in _ (by omega)).trans (by omega)
            have hst1' := Lib.hid hst1
            have hg1' := Lib.hid hg1
            have hc1' := Lib.hid hc1
            clear hc1 hg1 hst1
            go_wp2_with fail
            go_roundw
            case rel =>
              refine ⟨k + m, by omega, hkm, by go_num, hst1'.out, ?_, (hcr'.out.drew).trans hc1'.out, .inl rfl⟩
              have h1 := hg1'.out
              have hlk : (Lib.byteCells (l.take k)).length = k := by simp [Lib.byteCells]; omega
              have h2 := splice_splice P off (Lib.byteCells (l.take k)) (Lib.byteCells ((l.drop k).take m)) (by rw [hlk]; simp [Lib.byteCells]; omega)
              rw [hlk, ← byteCells_append, ← List.take_add] at h2
              rw [← h2]
              exact h1
            case measure => simp [intOf, errOf]; omega
        · obtain rfl : k = l.length := by omega
          have hglr := hgl'.out.ch hcr hS
          have hcall := Lib.hid (hend wr.drew (off + l.length) (len - l.length) (c - l.length) _ (hstD _ _ hst) (hglr.ch ((Ch.refl [] wr).drew) (by simp)) hgr.drew (by rw [hPl]; omega) (by omega) (by omega))
          clear hsome hend hstD hglr hke
          have wk : IntKind.i64.wrap ((l.length : Int) + 0) = (l.length : Int) := (IntWalk.i64_in _ (by omega)).trans (by omega)
          have hst' := Lib.hid hst
          have hgr' := Lib.hid hgr
          have hcr' := Lib.hid hcr
          clear hcr hgr hst
          go_wp2_with fail
          go_region_with (go_at_call 102; refine hcall.out.mono ?_; rintro e w1 ⟨⟨a, rfl, ha⟩, hst1, hg1, hc1⟩)
          all_goals
            have ha2 : w.cell? ⟨1, 0, none⟩ = some (.iface 191 (.pointer (some a))) := by
              have := hcr'.out.cell 0 hgl'.out.eof.lt hgS1
              exact this.symm.trans ha
            have hst1' := Lib.hid hst1
            have hg1' := Lib.hid hg1
            have hc1' := Lib.hid hc1
            have ha' := Lib.hid ha
            have ha2' := Lib.hid ha2
            clear ha2 ha hc1 hg1 hst1
            go_wp2_with fail
            go_roundw
            case rel => exact ⟨l.length, hk, Nat.le_refl _, by go_num, hst1'.out, hg1'.out, (hcr'.out.drew).trans hc1'.out, .inr ⟨rfl, hlt, a, rfl, ha2'.out⟩⟩
            case measure => simp [intOf, errOf]
      · obtain rfl : k = len := by omega
        clear hsome hend hstD
        have hst' := Lib.hid hst
        have hgr' := Lib.hid hgr
        have hcr' := Lib.hid hcr
        clear hcr hgr hst
        go_wp2_with fail
        go_ret2
        exact .inl ⟨hkl, rfl, hst'.out, hgr'.out, hcr'.out⟩
    · have e1 : wr.cell? ⟨1, 0, none⟩ = some (.iface 191 (.pointer (some a))) := (hcr.cell 0 hgl'.out.eof.lt hgS1).trans ha
      have e2 : wr.cell? ⟨2, 0, none⟩ = some (.iface 191 (.pointer (some au))) := (hcr.cell 0 hgl'.out.un.lt hgS2).trans hu
      clear hsome hend hstD
      have hst' := Lib.hid hst
      have hgr' := Lib.hid hgr
      have hcr' := Lib.hid hcr
      have ha' := Lib.hid ha
      have hke' := Lib.hid hke
      clear hke ha hcr hgr hst
      by_cases hk0 : k = 0
      · subst hk0
        go_wp2_with fail
        go_ret2
        exact .inr ⟨by have := hke'.out; omega, ⟨_, a, rfl, .inl ha'.out⟩, hcr'.out⟩
      · have hk1 : (0 : Int) < (k : Int) := by omega
        go_wp2_with fail
        go_ret2
        exact .inr ⟨by have := hke'.out; omega, ⟨_, au, rfl, .inr hu⟩, hcr'.out⟩

set_option maxHeartbeats 8000000 in
set_option maxRecDepth 100000 in
theorem ralBufio_any (hb : Nat) (l : List UInt8) (g off len c : Nat) (t : TypeId) (P : List Value) (St : Nat → World → Prop) (SS : List Nat) (w : World) (hgl : Gl w) (hS : ∀ k, k ∈ SS → glN ≤ k) (hstD : ∀ k W, St k W → St k W.drew)
    (hsome : ∀ k W off' len' c' P', St k W → k < l.length → Bk W g t (List.toArray P') → off' + len' ≤ P'.length → 0 < len' → len' ≤ 4294967296 → len' ≤ c' → 
      Calls Tryz.prog 144 #[.pointer (some ⟨hb, 0, none⟩), .slice (some ⟨g, off', none⟩) len' c'] W fun e w' => ∃ m, 0 < m ∧ m ≤ len' ∧ k + m ≤ l.length ∧ e = .returned (.tuple #[.int .i64 (m : Int), .nilIface]) ∧ St (k + m) w' ∧ Bk w' g t (splice P' off' (Lib.byteCells ((l.drop k).take m))).toArray ∧ Ch SS W w')
    (hend : ∀ W off' len' c' P', St l.length W → Gl W → Bk W g t (List.toArray P') → off' + len' ≤ P'.length → 0 < len' → len' ≤ 4294967296 → 
      Calls Tryz.prog 144 #[.pointer (some ⟨hb, 0, none⟩), .slice (some ⟨g, off', none⟩) len' c'] W fun e w' => (∃ a, e = .returned (.tuple #[.int .i64 0, .iface 191 (.pointer (some a))]) ∧ W.cell? ⟨1, 0, none⟩ = some (.iface 191 (.pointer (some a)))) ∧ St l.length w' ∧ Bk w' g t P'.toArray ∧ Ch SS W w')
    (h0 : St 0 w) (hg : Bk w g t P.toArray) (hfit : off + len ≤ P.length) (hlc : len ≤ c) (hlen2 : len ≤ 4294967296) :
    Calls Tryz.prog 91 #[.iface 128 (.pointer (some ⟨hb, 0, none⟩)), .slice (some ⟨g, off, none⟩) len c, .int .i64 (len : Int)] w fun e w' =>
      (len ≤ l.length ∧ e = .returned (.tuple #[.int .i64 (len : Int), .nilIface]) ∧ St len w' ∧ Bk w' g t (splice P off (Lib.byteCells (l.take len))).toArray ∧ Ch SS w w') ∨
      (l.length < len ∧ (∃ (v : Nat) (a : Addr), e = .returned (.tuple #[.int .i64 (v : Int), .iface 191 (.pointer (some a))]) ∧ EndErr w a) ∧ Ch SS w w') := by
  have heqS := eqSame
  obtain ⟨au, hu⟩ := hgl.un
  have hgS1 : 1 ∉ SS := fun hm => by have := hS _ hm; unfold glN at this; omega
  have hgS2 : 2 ∉ SS := fun hm => by have := hS _ hm; unfold glN at this; omega
  have hna : ∀ (W : World), (nilAhead 361 128 (.pointer (some ⟨hb, 0, none⟩)) "Read").run Tryz.prog W = .ok (some false) W := fun _ => by kernel_rfl
  have hll : ¬ ((len : Int) < (len : Int)) := by omega
  have hg' := Lib.hid hg
  have h0' := Lib.hid h0
  have hgl' := Lib.hid hgl
  clear hgl h0 hg
  go_enter Tryz.func91, Tryz.ntmps91
  go_wp2_with fail
  go_loopw [6, 7] (fun vn ve wr => ∃ k : Nat, k ≤ len ∧ k ≤ l.length ∧ vn = .int .i64 k ∧ St k wr ∧ Bk wr g t (splice P off (Lib.byteCells (l.take k))).toArray ∧ Ch SS w wr ∧ (ve = .nilIface ∨ (k = l.length ∧ k < len ∧ ∃ a, ve = .iface 191 (.pointer (some a)) ∧ w.cell? ⟨1, 0, none⟩ = some (.iface 191 (.pointer (some a))))))
    (fun vn ve _ => 2 * (len - (intOf vn).toNat) + errOf ve)
  case atStart => exact ⟨0, Nat.zero_le _, Nat.zero_le _, rfl, h0'.out, by rw [List.take_zero]; show Bk w g t (splice P off []).toArray; rw [splice_nil]; exact hg'.out, Ch.refl _ _, .inl rfl⟩
  case round =>
    obtain ⟨k, hk, hkl, rfl, hst, hgr, hcr, hve⟩ := hrel
    rcases hve with rfl | ⟨hke, hklt, a, rfl, ha⟩
    · by_cases hlt : k < len
      · have hck : ¬ c = k := by omega
        have s1 : k ≤ len := by omega
        have s2 : (k : Int) ≤ (len : Int) := by omega
        have hPl : (splice P off (Lib.byteCells (l.take k))).length = P.length := splice_length _ _ _ (by simp [Lib.byteCells]; omega)
        by_cases hke : k < l.length
        · have hcall := Lib.hid (hsome k wr.drew (off + k) (len - k) (c - k) _ (hstD _ _ hst) hke hgr.drew (by rw [hPl]; omega) (by omega) (by omega) (by omega))
          clear hsome hend hstD
          have hst' := Lib.hid hst
          have hgr' := Lib.hid hgr
          have hcr' := Lib.hid hcr
          clear hcr hgr hst
          go_wp2_with fail
          go_region_with (go_at_call 144; refine hcall.out.mono ?_; rintro e w1 ⟨m, hm0, hml, hkm, rfl, hst1, hg1, hc1⟩)
          all_goals
            have wk : IntKind.i64.wrap ((k : Int) + (m : Int)) = ((k + m : Nat) : Int) := (IntWalk.i64_in _ (by omega)).trans (by omega)
            have hst1' := Lib.hid hst1
            have hg1' := Lib.hid hg1
            have hc1' := Lib.hid hc1
            clear hc1 hg1 hst1
            go_wp2_with fail
            go_roundw
            case rel =>
              refine ⟨k + m, by omega, hkm, by go_num, hst1'.out, ?_, (hcr'.out.drew).trans hc1'.out, .inl rfl⟩
              have h1 := hg1'.out
              have hlk : (Lib.byteCells (l.take k)).length = k := by simp [Lib.byteCells]; omega
              have h2 := splice_splice P off (Lib.byteCells (l.take k)) (Lib.byteCells ((l.drop k).take m)) (by rw [hlk]; simp [Lib.byteCells]; omega)
              rw [hlk, ← byteCells_append, ← List.take_add] at h2
              rw [← h2]
              exact h1
            case measure => simp [intOf, errOf]; omega
        · obtain rfl : k = l.length := by omega
          have hglr := hgl'.out.ch hcr hS
          have hcall := Lib.hid (hend wr.drew (off + l.length) (len - l.length) (c - l.length) _ (hstD _ _ hst) (hglr.ch ((Ch.refl [] wr).drew) (by simp)) hgr.drew (by rw [hPl]; omega) (by omega) (by omega))
          clear hsome hend hstD hglr hke
          have wk : IntKind.i64.wrap ((l.length : Int) + 0) = (l.length : Int) := (IntWalk.i64_in _ (by omega)).trans (by omega)
          have hst' := Lib.hid hst
          have hgr' := Lib.hid hgr
          have hcr' := Lib.hid hcr
          clear hcr hgr hst
          go_wp2_with fail
          go_region_with (go_at_call 144; refine hcall.out.mono ?_; rintro e w1 ⟨⟨a, rfl, ha⟩, hst1, hg1, hc1⟩)
          all_goals
            have ha2 : w.cell? ⟨1, 0, none⟩ = some (.iface 191 (.pointer (some a))) := by
              have := hcr'.out.cell 0 hgl'.out.eof.lt hgS1
              exact this.symm.trans ha
            have hst1' := Lib.hid hst1
            have hg1' := Lib.hid hg1
            have hc1' := Lib.hid hc1
            have ha' := Lib.hid ha
            have ha2' := Lib.hid ha2
            clear ha2 ha hc1 hg1 hst1
            go_wp2_with fail
            go_roundw
            case rel => exact ⟨l.length, hk, Nat.le_refl _, by go_num, hst1'.out, hg1'.out, (hcr'.out.drew).trans hc1'.out, .inr ⟨rfl, hlt, a, rfl, ha2'.out⟩⟩
            case measure => simp [intOf, errOf]
      · obtain rfl : k = len := by omega
        clear hsome hend hstD
        have hst' := Lib.hid hst
        have hgr' := Lib.hid hgr
        have hcr' := Lib.hid hcr
        clear hcr hgr hst
        go_wp2_with fail
        go_ret2
        exact .inl ⟨hkl, rfl, hst'.out, hgr'.out, hcr'.out⟩
    · have e1 : wr.cell? ⟨1, 0, none⟩ = some (.iface 191 (.pointer (some a))) := (hcr.cell 0 hgl'.out.eof.lt hgS1).trans ha
      have e2 : wr.cell? ⟨2, 0, none⟩ = some (.iface 191 (.pointer (some au))) := (hcr.cell 0 hgl'.out.un.lt hgS2).trans hu
      clear hsome hend hstD
      have hst' := Lib.hid hst
      have hgr' := Lib.hid hgr
      have hcr' := Lib.hid hcr
      have ha' := Lib.hid ha
      have hke' := Lib.hid hke
      clear hke ha hcr hgr hst
      by_cases hk0 : k = 0
      · subst hk0
        go_wp2_with fail
        go_ret2
        exact .inr ⟨by have := hke'.out; omega, ⟨_, a, rfl, .inl ha'.out⟩, hcr'.out⟩
      · have hk1 : (0 : Int) < (k : Int) := by omega
        go_wp2_with fail
        go_ret2
        exact .inr ⟨by have := hke'.out; omega, ⟨_, au, rfl, .inr hu⟩, hcr'.out⟩
end Go.Proofs.YtpndlcjilgcfkaaGreatDoor
