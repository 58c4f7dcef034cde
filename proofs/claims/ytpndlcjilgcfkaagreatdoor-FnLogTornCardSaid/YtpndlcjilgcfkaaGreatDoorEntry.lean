/-
  Contract of safeRead.Entry: an entry is read off the bufio.Reader, or an error of an end is told.
-/
import Derived.Test.YtpndlcjilgcfkaaGreatDoorDec
import Derived.Test.YtpndlcjilgcfkaaGreatDoorTy
import Derived.Test.YtpndlcjilgcfkaaGreatDoorRf2
import Derived.Test.YtpndlcjilgcfkaaGreatDoorShelf
import Derived.Test.YtpndlcjilgcfkaaGreatDoorKey
import Derived.Deep.DeepCutAuto
namespace Go.Proofs.YtpndlcjilgcfkaaGreatDoor
open Go Go.RowKit
open Go.Proofs

/-- What a listed error points to lies below B. -/
def Pt (B : Nat) (w : World) (a : Addr) : Prop := a.block < B ∧ ∃ cs t, w.heap[a.block]? = some (.cells cs t (0, 0))
structure Gs (B : Nat) (w : World) : Prop where
  eof : ∃ a, w.cell? ⟨1, 0, none⟩ = some (.iface 191 (.pointer (some a))) ∧ Pt B w a
  un : ∃ a, w.cell? ⟨2, 0, none⟩ = some (.iface 191 (.pointer (some a))) ∧ Pt B w a
  tr : ∃ a, w.cell? ⟨3, 0, none⟩ = some (.iface 191 (.pointer (some a))) ∧ Pt B w a
  hB : glN ≤ B

theorem Gs.gl {B : Nat} {w : World} (h : Gs B w) : Gl w := ⟨h.eof.imp fun _ h => h.1, h.un.imp fun _ h => h.1, h.tr.imp fun _ h => h.1⟩
theorem Pt.ch {B : Nat} {S : List Nat} {w w' : World} {a : Addr} (h : Pt B w a) (hc : Ch S w w') (hS : ∀ k, k ∈ S → B ≤ k) : Pt B w' a := by
  obtain ⟨h1, cs, t, h2⟩ := h
  exact ⟨h1, cs, t, (hc.block a.block (lt_of_block h2) (fun hm => by have := hS _ hm; omega)).trans h2⟩
theorem Gs.ch {B : Nat} {S : List Nat} {w w' : World} (h : Gs B w) (hc : Ch S w w') (hS : ∀ k, k ∈ S → B ≤ k) : Gs B w' := by
  have hg := h.gl.ch hc (fun k hk => Nat.le_trans h.hB (hS k hk))
  have hB := h.hB
  unfold glN at hB
  obtain ⟨a1, e1, p1⟩ := h.eof
  obtain ⟨a2, e2, p2⟩ := h.un
  obtain ⟨a3, e3, p3⟩ := h.tr
  exact ⟨⟨a1, (hc.cell 0 (block_lt_of_cell e1) (fun hm => by have h0 : B ≤ 1 := hS _ hm; omega)).trans e1, p1.ch hc hS⟩, ⟨a2, (hc.cell 0 (block_lt_of_cell e2) (fun hm => by have h0 : B ≤ 2 := hS _ hm; omega)).trans e2, p2.ch hc hS⟩, ⟨a3, (hc.cell 0 (block_lt_of_cell e3) (fun hm => by have h0 : B ≤ 3 := hS _ hm; omega)).trans e3, p3.ch hc hS⟩, h.hB⟩

/-- Two of them are compared: the one or the other. -/
theorem eqAny {B : Nat} (a b : Addr) (W : World) (ha : Pt B W a) (hb : Pt B W b) : ∃ r : Bool, (binOp .eql 54 (.iface 191 (.pointer (some a))) (.iface 191 (.pointer (some b)))).run Tryz.prog W = .ok (.bool r) W := by
  by_cases h : a = b
  · subst h
    exact ⟨true, eqSame a W⟩
  · obtain ⟨i, hi, hcmp⟩ := Option.map_eq_some_iff.1 (show (Tryz.prog.info? 191).map (·.comparable) = some true by kernel_rfl)
    obtain ⟨j, hj, hjs⟩ := Option.map_eq_some_iff.1 (show (Tryz.prog.info? 193).map (·.size) = some 1 by kernel_rfl)
    obtain ⟨_, ca, ta, h1⟩ := ha
    obtain ⟨_, cb, tb, h2⟩ := hb
    exact ⟨false, run_eql_iface_ptr_other W Tryz.underlying54 Tryz.underlying191 hi hcmp hj (by rw [hjs]; decide) h h1 h2⟩

/-- An error at which reading stops. -/
def StopErr (w : World) (a : Addr) : Prop := EndErr w a ∨ w.cell? ⟨3, 0, none⟩ = some (.iface 191 (.pointer (some a)))
theorem EndErr.pt {B : Nat} {w : World} {a : Addr} (h : EndErr w a) (hg : Gs B w) : Pt B w a := by
  rcases h with h | h
  · obtain ⟨a1, e1, p1⟩ := hg.eof
    rw [e1] at h
    injection h with h; injection h with _ h; injection h with h; injection h with h
    subst h
    exact p1
  · obtain ⟨a1, e1, p1⟩ := hg.un
    rw [e1] at h
    injection h with h; injection h with _ h; injection h with h; injection h with h
    subst h
    exact p1
theorem StopErr.pt {B : Nat} {w : World} {a : Addr} (h : StopErr w a) (hg : Gs B w) : Pt B w a := by
  rcases h with h | h
  · exact h.pt hg
  · obtain ⟨a1, e1, p1⟩ := hg.tr
    rw [e1] at h
    injection h with h; injection h with _ h; injection h with h; injection h with h
    subst h
    exact p1

theorem StopErr.back {B : Nat} {S : List Nat} {w w' : World} {a : Addr} (h : StopErr w' a) (hgs : Gs B w) (hc : Ch S w w') (hS : ∀ k, k ∈ S → B ≤ k) : StopErr w a := by
  have hB := hgs.hB
  rcases h with h | h
  · exact .inl (h.back hgs.gl hc (fun k hk => Nat.le_trans hB (hS k hk)))
  · obtain ⟨x3, e3, _⟩ := hgs.tr
    refine .inr ?_
    rwa [hc.cell 0 (block_lt_of_cell e3) (fun hm => by have h0 : B ≤ 3 := hS _ hm; unfold glN at hB; omega)] at h

/-- The reader of entries at block sb. -/
def Sb (sb off : Nat) (lf : Value) (w : World) : Prop := ∃ a1 n1 c1 a2 n2 c2, Bk w sb 135 #[.slice a1 n1 c1, .slice a2 n2 c2, .int .u32 (off : Int), lf]

/-- badger.Entry, hlen and all. -/
def entC (K V : Value) (x off um m hl : Nat) : Array Value := #[K, V, .int .u64 (x : Int), .int .u64 0, .int .u32 (off : Int), .int .u8 (um : Int), .int .u8 (m : Int), .int .i64 (hl : Int), .int .i64 0]

/-- What safeRead.Entry leaves: an error at which reading stops, and nothing stands there; or an entry whose check is right. -/
def EntPost (sb off : Nat) (lf : Value) (rb bb zb db : Nat) (l : List UInt8) (w : World) (e : Ending) (w' : World) : Prop :=
  ((∀ o, entryAt l o = .stop) ∧ (∃ a, e = .returned (.tuple #[.pointer none, .iface 191 (.pointer (some a))]) ∧ StopErr w a) ∧ Ch [sb, rb, bb, zb] w w') ∨
  (∃ (k v x m u n eb : Nat) (A1 A2 : Option Addr) (c1 c2 : Nat), DecOk l k v x m u n ∧ k ≤ 65536 ∧ v ≤ 1048576 ∧ n + k + v + 4 ≤ l.length ∧ Lib.beNat ((l.drop (n + k + v)).take 4) = crc32 (l.take (n + k + v)) ∧
    e = .returned (.tuple #[.pointer (some ⟨eb, 0, none⟩), .nilIface]) ∧ Bk w' eb 64 (entC (.slice A1 k c1) (.slice A2 v c2) x off u m n) ∧
    SrcU w.heap.size w' A1 k ((l.drop n).take k) ∧ SrcU w.heap.size w' A2 v ((l.drop (n + k)).take v) ∧ k ≤ c1 ∧ v ≤ c2 ∧ w.heap.size ≤ eb ∧
    Rd rb bb zb db (l.drop (n + k + v + 4)) w' ∧ Sb sb off lf w' ∧ Ch [sb, rb, bb, zb] w w')

/-- 'make([]byte, n)' at a size of whatever spelling. -/
theorem run_mkB (k1 k2 : IntKind) (N : Nat) (z : Int) (hz : z = (N : Int)) (hN : N ≤ 281474976710656) (W : World) :
    (Instr.makeSlice 22 (.int k1 z) (.int k2 z)).run Tryz.prog W = .ok (.slice (some ⟨W.heap.size, 0, none⟩) N N) (W.alloc (.cells (List.replicate N (Value.int .u8 0)).toArray 5)) := by
  subst hz
  obtain ⟨i0, hi, hz0, hz1, hz2⟩ := info_parts u8row
  have h := run_make_rowN (P := Tryz.prog) 22 5 i0 (.int .u8 0) Tryz.underlying22 hi hz0 k1 k2 N N (by omega) (by rw [hz2]; omega) (by omega) W
  rw [hz1, Nat.mul_one] at h
  rw [← made_bytes]
  exact h

set_option maxHeartbeats 1000000 in
theorem bytesToU32_any (g o c : Nat) (q : List UInt8) (w : World) (h : Bs w g o q) (hq : q.length = 4) :
    Calls Tryz.prog 77 #[.slice (some ⟨g, o, none⟩) 4 c] w fun e w' => e = .returned (.int .u32 (Lib.beNat q : Nat)) ∧ Below w.heap.size w w' := by
  match q, hq with
  | [b0, b1, b2, b3], _ =>
    have h0 := h 0 (by simp)
    have h1 := h 1 (by simp)
    have h2 := h 2 (by simp)
    have h3 := h 3 (by simp)
    have hcall := Lib.hid (Tryz.binary_BE_Uint32 g o 4 c b0 b1 b2 b3 w (Nat.le_refl _) h0 h1 h2 h3)
    clear h h0 h1 h2 h3
    go_enter Tryz.func77, Tryz.ntmps77
    go_wp2_with fail
    refine hcall.out.mono ?_
    rintro e w1 ⟨rfl, hb⟩
    have hb' := Lib.hid hb
    clear hb
    go_wp2_with fail
    go_ret
    exact ⟨rfl, hb'.out⟩

set_option maxHeartbeats 1000000 in
theorem hrSum2_any (hb cb x : Nat) (v v2 : Value) (w : World) (h : Bk w hb 199 #[v, .pointer (some ⟨cb, 0, none⟩), v2]) (hc : Bk w cb 148 #[.int .u32 (x : Int)]) :
    Calls Tryz.prog 78 #[.pointer (some ⟨hb, 0, none⟩)] w fun e w' => e = .returned (.int .u32 (x : Int)) ∧ w = w' := by
  have c1 := h.cell 1
  simp at c1
  have h' := Lib.hid h
  have hc' := Lib.hid hc
  clear hc h
  go_enter Tryz.func78, Tryz.ntmps78
  go_wp2_with fail
  refine (sum32_any cb x w hc'.out).mono ?_
  rintro e w1 ⟨rfl, hw⟩
  obtain rfl : w = w1 := hw.symm
  go_wp2_with fail
  go_ret
  exact ⟨rfl, rfl⟩

set_option maxHeartbeats 16000000 in
set_option maxRecDepth 100000 in
theorem entry_any (B sb off : Nat) (lf : Value) (rb bb zb db : Nat) (l : List UInt8) (w : World) (hA : Apart4 rb bb zb db) (hgs : Gs B w) (hr : Rd rb bb zb db l w) (hs : Sb sb off lf w) (hB : B ≤ rb ∧ B ≤ bb ∧ B ≤ zb ∧ B ≤ sb)
    (hsn : sb ∉ [rb, bb, zb]) (hsd : sb ≠ db) (hbad : entryAt l 0 ≠ .bad) (hlen : l.length ≤ 1000000000) :
    Calls Tryz.prog 55 #[.pointer (some ⟨sb, 0, none⟩), .iface 128 (.pointer (some ⟨rb, 0, none⟩))] w (EntPost sb off lf rb bb zb db l w) := by
  obtain ⟨l1, l2, l3, l4⟩ := hr.lts
  obtain ⟨a1, n1, c1, a2, n2, c2, hsb⟩ := hs
  have l5 := hsb.lt
  have hgl := hgs.gl
  have hbb := hbad
  obtain ⟨cb, hcb⟩ : ∃ cb, w.heap.size = cb := ⟨_, rfl⟩
  have hcbG : glN ≤ cb := by have := hA.g1; omega
  have hA6 : Apart6 (cb + 1) cb rb bb zb db := ⟨hA, by omega, by omega, by omega, by omega, by omega, by omega, by omega, by omega, by omega, by omega, by omega⟩
  obtain ⟨W0, hW0⟩ : ∃ W0, ((w.alloc (.cells #[.int .u32 0] 148)).alloc (.cells #[.iface 128 (.pointer (some ⟨rb, 0, none⟩)), .pointer (some ⟨w.heap.size, 0, none⟩), .int .i64 0] 199)).alloc (.cells (hdC 0 0 0 0 0) 145) = W0 := ⟨_, rfl⟩
  have hc0 : Ch [] w W0 := by rw [← hW0]; exact (((Ch.refl [] w).alloc _).alloc _).alloc _
  have b1 : Bk W0 (cb + 1) 199 #[.iface 128 (.pointer (some ⟨rb, 0, none⟩)), .pointer (some ⟨cb, 0, none⟩), .int .i64 0] := by
    rw [← hW0, hcb]
    exact (Bk.at_ _ (cb + 1) _ _ (by simp [hcb])).alloc _
  have b2 : Bk W0 cb 148 #[.int .u32 0] := by
    rw [← hW0]
    exact ((Bk.at_ _ cb _ _ hcb.symm).alloc _).alloc _
  have b3 : Bk W0 (cb + 2) 145 (hdC 0 0 0 0 0) := by
    rw [← hW0]
    exact Bk.at_ _ (cb + 2) _ _ (by simp [hcb])
  have hsz0 : W0.heap.size = cb + 3 := by rw [← hW0]; simp [hcb]
  have hr0 := hr.ch hc0 (by simp) (by simp) (by simp) (by simp)
  have hs0 := hsb.ch hc0 (by simp)
  have hgs0 := hgs.ch hc0 (by simp)
  have hdec := Lib.hid (decode_any (cb + 2) (cb + 1) cb rb bb zb db 0 l W0 hA6 hgs0.gl ⟨b1, b2, hr0, by omega, by omega⟩ (by omega) b3 (by omega) (by simp; omega) (by omega) hbad (by omega))
  clear b1 b2 b3
  have hW0' := Lib.hid hW0
  clear hW0
  have hr' := Lib.hid hr
  have hsb' := Lib.hid hsb
  have hgs' := Lib.hid hgs
  have hgl' := Lib.hid hgl
  have hbad' := Lib.hid hbad
  have hbb' := Lib.hid hbb
  have hc0' := Lib.hid hc0
  have hr0' := Lib.hid hr0
  have hs0' := Lib.hid hs0
  have hgs0' := Lib.hid hgs0
  have hcb' := Lib.hid hcb
  clear hcb hgs0 hs0 hr0 hc0 hbb hbad hgl hgs hsb hr
  go_enter Tryz.func55, Tryz.ntmps55
  go_wp2_with fail
  refine (newHash_any _ _ _).mono ?_
  rintro e w1 ⟨rfl, rfl⟩
  go_wp2_with fail
  have hW0 := hW0'.out
  have hcb := hcb'.out
  subst hW0
  subst hcb
  refine hdec.out.mono ?_
  rintro e w1 (⟨k, v, x, m, u, n, hok, rfl, hx1, hr1, hc1⟩ | ⟨hno, ⟨v0, a, rfl, hae⟩, hc1⟩)
  · have hnb : ¬ (4294967295 < k ∨ 1048576 < v) := fun h => hbad'.out (by rw [decOk_entry hok 0, if_pos h])
    have hk32 : k ≤ 4294967295 := by omega
    have hv20 : v ≤ 1048576 := by omega
    rw [Nat.mod_eq_of_lt (show k < 4294967296 by omega), Nat.mod_eq_of_lt (show v < 4294967296 by omega)] at hx1
    have hx1 : Bk w1 (w.heap.size + 1 + 1) 145 (hdC k v x m u) := hx1
    have d0 := hx1.cell 0
    simp [hdC] at d0
    have hcw1 : Ch [rb, bb, zb] w w1 := (hc0'.out.mono (S' := [rb, bb, zb]) (fun y hy => by cases hy)).trans' hc1 (fun y hy => by simp at hy ⊢; omega)
    have hsz1 := hcw1.size
    have hgs1 := hgs'.out.ch hcw1 (by simp; omega)
    by_cases hk65 : 65536 < k
    · obtain ⟨at_, hat, _⟩ := hgs1.tr
      have hkI : (65536 : Int) < (k : Int) := by omega
      have hok' := Lib.hid hok
      have hx1' := Lib.hid hx1
      have hr1' := Lib.hid hr1
      have hc1' := Lib.hid hc1
      have hcw1' := Lib.hid hcw1
      have hgs1' := Lib.hid hgs1
      clear hgs1 hcw1 hc1 hr1 hx1 hok
      go_wp2_with fail
      go_quiet (fail)
      go_wp2_with fail
      go_ret2
      refine .inl ⟨fun o => by rw [decOk_entry hok'.out o, if_neg hnb, if_pos (.inl hk65)], ⟨at_, rfl, StopErr.back (.inr hat) hgs'.out hcw1'.out (by simp; omega)⟩, ?_⟩
      exact (hcw1'.out.mono (S' := [sb, rb, bb, zb]) (fun y hy => .inl (by simp at hy ⊢; omega))).drewN _
    · have hkI : ¬ (65536 : Int) < (k : Int) := by omega
      have wk : IntKind.i64.wrap (k : Int) = (k : Int) := IntWalk.i64_in _ (by omega)
      have wv : IntKind.i64.wrap (v : Int) = (v : Int) := IntWalk.i64_in _ (by omega)
      have hmk1 := run_mkB .i64 .i64 (2 * k) (2 * (k : Int)) (by omega) (by omega)
      have hmk2 := run_mkB .i64 .i64 (2 * v) (2 * (v : Int)) (by omega) (by omega)
      have d1 := hx1.cell 1
      have d2 := hx1.cell 2
      have d3 := hx1.cell 3
      have d4 := hx1.cell 4
      simp [hdC] at d1 d2 d3 d4
      have s1 := hs0'.out.ch hc1 (by simp; simp at hsn; omega)
      have e0 := s1.cell 0
      have e1 := s1.cell 1
      have e2 := s1.cell 2
      have g0 := s1.free 0
      have g1 := s1.free 1
      simp at e0 e1 e2
      have ls1 := s1.lt
      have hok' := Lib.hid hok
      have hx1' := Lib.hid hx1
      have hr1' := Lib.hid hr1
      have hc1' := Lib.hid hc1
      have hcw1' := Lib.hid hcw1
      have hgs1' := Lib.hid hgs1
      have s1' := Lib.hid s1
      clear s1 hgs1 hcw1 hc1 hr1 hx1 hok
      have hxs : w.heap.size + 1 + 1 ∉ [sb] := by simp; omega
      go_upto_if 43 with fail
      go_cut [] (fun wx => ∃ a1 n1 c1, Bk wx sb 135 #[.slice a1 n1 c1, .slice a2 n2 c2, .int .u32 (off : Int), lf] ∧ Ch [sb] w1 wx)
      case first =>
        by_cases hck : c1 < k
        · go_wp2_with fail
          go_meet
          exact ⟨_, _, _, by simpa using (s1'.out.set 0 (.slice (some ⟨w1.heap.size, 0, none⟩) (2 * k) (2 * k))).alloc (.cells (Array.replicate (2 * k) (Value.int .u8 0)) 5), ((Ch.refl [sb] w1).setCell (p := ⟨sb, 0, none⟩) (.inl (by simp)) _).alloc _⟩
        · go_wp2_with fail
          go_meet
          exact ⟨_, _, _, s1'.out, Ch.refl _ _⟩
      case rest =>
      obtain ⟨a1', n1', c1', s2, hc2⟩ := hcut
      have hx2 := hx1'.out.ch hc2 hxs
      clear d0 d1 d2 d3 d4 e0 e1 e2 g0 g1 hmk1
      have d0 := hx2.cell 0
      have d1 := hx2.cell 1
      simp [hdC] at d0 d1
      have e1 := s2.cell 1
      have g1 := s2.free 1
      simp at e1
      have ls2 := s2.lt
      have s2' := Lib.hid s2
      have hc2' := Lib.hid hc2
      have hx2' := Lib.hid hx2
      clear hx2 hc2 s2
      go_upto_if 59 with fail
      go_cut [] (fun wx => ∃ a1 n1 c1 a2 n2 c2, Bk wx sb 135 #[.slice a1 n1 c1, .slice a2 n2 c2, .int .u32 (off : Int), lf] ∧ Ch [sb] w1 wx)
      case first =>
        by_cases hck : c2 < v
        · go_wp2_with fail
          go_meet
          exact ⟨_, _, _, _, _, _, by simpa using (s2'.out.set 1 (.slice (some ⟨wc.heap.size, 0, none⟩) (2 * v) (2 * v))).alloc (.cells (Array.replicate (2 * v) (Value.int .u8 0)) 5), (hc2'.out.setCell (p := ⟨sb, 1, none⟩) (.inl (by simp)) _).alloc _⟩
        · go_wp2_with fail
          go_meet
          exact ⟨_, _, _, _, _, _, s2'.out, hc2'.out⟩
      case rest =>
      obtain ⟨a1', n1', c1', a2', n2', c2', s3, hc3⟩ := hcut
      have hx3 := hx1'.out.ch hc3 hxs
      clear d0 d1 e1 g1 hmk2
      have d0 := hx3.cell 0
      have d1 := hx3.cell 1
      have d2 := hx3.cell 2
      have d3 := hx3.cell 3
      have d4 := hx3.cell 4
      simp [hdC] at d0 d1 d2 d3 d4
      have e2 := s3.cell 2
      simp at e2
      have ls3 := s3.lt
      have lx3 := hx3.lt
      obtain ⟨N, hN⟩ : ∃ N, k + v = N := ⟨_, rfl⟩
      have wN : IntKind.u32.wrap ((k : Int) + (v : Int)) = (N : Int) := (IntWalk.u32_in _ (by omega)).trans (by omega)
      have hmk := run_mkB .u32 .u32 N (N : Int) rfl (by omega)
      have s3' := Lib.hid s3
      have hc3' := Lib.hid hc3
      have hx3' := Lib.hid hx3
      have hN' := Lib.hid hN
      clear hN hx3 hc3 s3
      go_upto_region 18 with fail
      have hcwc : Ch [sb, rb, bb, zb] w wc := (hcw1'.out.mono (S' := [sb, rb, bb, zb]) (fun y hy => .inl (by simp at hy ⊢; omega))).trans' hc3'.out (fun y hy => .inl (by simp at hy ⊢; omega))
      obtain ⟨eb, heb⟩ : ∃ q, wc.heap.size = q := ⟨_, rfl⟩
      rw [heb]
      have hebw : w.heap.size ≤ eb := by have := hcwc.size; omega
      have lx3e : w.heap.size + 1 + 1 < eb := by omega
      obtain ⟨W, hW⟩ : ∃ W, (wc.alloc (.cells #[.slice none 0 0, .slice none 0 0, .int .u64 0, .int .u64 0, .int .u32 (off : Int), .int .u8 0, .int .u8 0, .int .i64 (n : Int), .int .i64 0] 64)).alloc (.cells (Array.replicate N (.int .u8 0)) 5) = W := ⟨_, rfl⟩
      rw [hW]
      have hcW : Ch [] wc W := by rw [← hW]; exact ((Ch.refl [] wc).alloc _).alloc _
      have eW : Bk W eb 64 (entC (.slice none 0 0) (.slice none 0 0) 0 off 0 0 n) := by
        rw [← hW]
        exact (Bk.at_ _ _ _ _ heb.symm).alloc _
      have bW : Bk W (eb + 1) 5 (List.replicate N (Value.int .u8 0)).toArray := by
        rw [← hW, List.toArray_replicate]
        exact Bk.at_ _ _ _ _ (by simp [heb])
      have xW := hx3'.out.ch hcW (by simp)
      have sW := s3'.out.ch hcW (by simp)
      have hc1W : Ch [sb] w1 W := hc3'.out.trans_nil hcW
      have hrW := hr1'.out.ch hc1W (by simp; omega) (by simp; omega) (by simp at hsn ⊢; omega) (by simp at hsn ⊢; omega) (by simp at hsn ⊢; omega) (by simp; omega)
      have hgsW := hgs1'.out.ch hc1W (by simp; omega)
      have hcwW : Ch [sb, rb, bb, zb] w W := hcwc.trans_nil hcW
      have hNl : (l.drop n).length = l.length - n := by simp
      have hnl : n ≤ l.length := by obtain ⟨_, _, _, _, _, _, _, _, _, _, h, _⟩ := hok'.out; exact h
      have hcall := Lib.hid (rfHash_any (w.heap.size + 1) w.heap.size rb bb zb db _ n (eb + 1) 0 N N 5 _ _ W hA6 hgsW.gl hrW (by omega) bW (by simp) (Nat.le_refl _) (by have := hN'.out; omega) (by omega) (by omega) (by omega) (by omega) (by omega) (by omega) (by omega))
      have hebW : eb < W.heap.size := eW.lt
      clear d0 d1 d2 d3 d4 e2 hmk
      have hcwc' := Lib.hid hcwc
      have heb' := Lib.hid heb
      have hW' := Lib.hid hW
      have hcW' := Lib.hid hcW
      have eW' := Lib.hid eW
      have bW' := Lib.hid bW
      have xW' := Lib.hid xW
      have sW' := Lib.hid sW
      have hc1W' := Lib.hid hc1W
      have hrW' := Lib.hid hrW
      have hgsW' := Lib.hid hgsW
      have hcwW' := Lib.hid hcwW
      clear hcwW hgsW hrW hc1W sW xW bW eW hcW hW heb hcwc
      go_wp2_with fail
      refine hcall.out.mono ?_
      rintro e w2 (⟨hNle, rfl, hr2, hb2, hc2'⟩ | ⟨hlt, ⟨v0, a, rfl, hae⟩, hc2'⟩)
      · have hS2 : ∀ y, y ∈ [w.heap.size + 1, w.heap.size, rb, bb, zb, eb + 1] → B ≤ y := by simp; omega
        have hgs2 := hgsW'.out.ch hc2' hS2
        have x2 := xW'.out.ch hc2' (by simp; simp at hsn; omega)
        have e2 := eW'.out.ch hc2' (by simp; omega)
        have s2 := sW'.out.ch hc2' (by simp; simp at hsn; omega)
        have hcw2 : Ch [sb, rb, bb, zb] w w2 := hcwW'.out.trans' hc2' (fun y hy => by simp at hy ⊢; omega)
        have hbs2 := bs_front_ hb2
        have d0 := x2.cell 0
        simp [hdC] at d0
        have f0 := e2.free 0
        have f1 := e2.free 1
        have i0 := e2.cell 0
        have i1 := e2.cell 1
        simp [entC] at i0 i1
        have hkN : k ≤ N := by have := hN'.out; omega
        have hkNI : (k : Int) ≤ (N : Int) := by omega
        have le2 := e2.lt
        have lx2 := x2.lt
        have hgs2' := Lib.hid hgs2
        have x2' := Lib.hid x2
        have e2' := Lib.hid e2
        have s2' := Lib.hid s2
        have hcw2' := Lib.hid hcw2
        have hbs2' := Lib.hid hbs2
        have hr2' := Lib.hid hr2
        have hb2' := Lib.hid hb2
        have hc2'' := Lib.hid hc2'
        clear hc2' hb2 hr2 hbs2 hcw2 s2 e2 x2 hgs2
        go_upto_region 26 with fail
        have hNk : N - k = v := by have := hN'.out; omega
        rw [hNk]
        obtain ⟨A2, hA2⟩ : ∃ A2 : Option Addr, (if N = k then some (⟨eb + 1, 0, none⟩ : Addr) else some ⟨eb + 1, k, none⟩) = A2 := ⟨_, rfl⟩
        rw [hA2]
        obtain ⟨W3, hW3⟩ : ∃ W3, ((w2.setCell ⟨eb, 0, none⟩ (.slice (some ⟨eb + 1, 0, none⟩) k N)).setCell ⟨eb, 1, none⟩ (.slice A2 v v)).alloc (.cells #[.int .u8 0, .int .u8 0, .int .u8 0, .int .u8 0] 156) = W3 := ⟨_, rfl⟩
        rw [hW3]
        obtain ⟨qb, hqb⟩ : ∃ q, w2.heap.size = q := ⟨_, rfl⟩
        rw [hqb]
        have hc3W : Ch [eb] w2 W3 := by rw [← hW3]; exact (((Ch.refl [eb] w2).setCell (p := ⟨eb, 0, none⟩) (.inl (by simp)) _).setCell (p := ⟨eb, 1, none⟩) (.inl (by simp)) _).alloc _
        have e3 : Bk W3 eb 64 (entC (.slice (some ⟨eb + 1, 0, none⟩) k N) (.slice A2 v v) 0 off 0 0 n) := by
          rw [← hW3]
          have := (e2'.out.set 0 (.slice (some ⟨eb + 1, 0, none⟩) k N)).set 1 (.slice A2 v v)
          simp [entC] at this
          simpa [entC] using this.alloc _
        have q3 : Bk W3 qb 156 [Value.int .u8 0, Value.int .u8 0, Value.int .u8 0, Value.int .u8 0].toArray := by
          rw [← hW3]
          exact Bk.at_ _ _ _ _ (by simp [hqb])
        have x3 := x2'.out.ch hc3W (by simp; omega)
        have s3 := s2'.out.ch hc3W (by simp; omega)
        have hbs3 := hbs2'.out.ch hc3W (by simp)
        have hr3 := hr2'.out.ch hc3W (by simp; omega) (by simp; omega) (by simp; omega) (by simp; omega) (by simp; omega) (by simp; omega)
        have hgs3 := hgs2'.out.ch hc3W (by simp; omega)
        have hcw3 : Ch [sb, rb, bb, zb] w W3 := hcw2'.out.trans' hc3W (fun y hy => by simp at hy ⊢; omega)
        have hl3 : ((l.drop n).drop N).length = l.length - n - N := by simp; omega
        have hNl2 : N ≤ l.length - n := by rw [← hNl]; exact hNle
        have hcall2 := Lib.hid (rfBufio_any rb bb zb db qb 0 4 4 156 _ _ W3 hA hgs3.gl hr3.r q3 (by simp) (by omega) (by omega) (by omega) (by omega) (by omega) (by omega) (by omega))
        have hk_src : Src W3 (some ⟨eb + 1, 0, none⟩) k ((l.drop n).take k) := by
          refine ⟨by rw [List.length_take, hNl]; have := hN'.out; omega, fun _ => ⟨eb + 1, 0, rfl, ?_⟩⟩
          have := hbs3.take k
          rwa [List.take_take, Nat.min_eq_left hkN] at this
        have hv_src : Src W3 A2 v ((l.drop (n + k)).take v) := by
          have hN := hN'.out
          have hlen : ((l.drop (n + k)).take v).length = v := by rw [List.length_take, List.length_drop]; omega
          refine ⟨hlen, fun hv0 => ⟨eb + 1, k, by rw [← hA2, if_neg (by omega)], ?_⟩⟩
          have := hbs3.drop k
          rw [Nat.zero_add, List.drop_take, List.drop_drop, show N - k = v by omega] at this
          exact this
        have hA2b : ∀ b o, A2 = some ⟨b, o, none⟩ → b = eb + 1 := fun b o h => by
          rw [← hA2] at h
          split at h <;> (injection h with h; injection h with h; exact h.symm)
        have lq3 := q3.lt
        have le3 : eb + 1 < qb := by have := hc2''.out.size; have := bW'.out.lt; omega
        clear d0 f0 f1 i0 i1
        have hW3' := Lib.hid hW3
        have hc3W' := Lib.hid hc3W
        have e3' := Lib.hid e3
        have q3' := Lib.hid q3
        have x3' := Lib.hid x3
        have s3' := Lib.hid s3
        have hbs3' := Lib.hid hbs3
        have hr3' := Lib.hid hr3
        have hgs3' := Lib.hid hgs3
        have hcw3' := Lib.hid hcw3
        have hA2' := Lib.hid hA2
        have hNk' := Lib.hid hNk
        have hqb' := Lib.hid hqb
        have hk_src' := Lib.hid hk_src
        have hv_src' := Lib.hid hv_src
        have hA2b' := Lib.hid hA2b
        clear hA2b hv_src hk_src hqb hNk hA2 hcw3 hgs3 hr3 hbs3 s3 x3 q3 e3 hc3W hW3
        go_wp2_with fail
        refine hcall2.out.mono ?_
        rintro e w4 (⟨hNle4, rfl, hr4, hb4, hc4⟩ | ⟨hlt, ⟨v0, a, rfl, hae⟩, hc4⟩)
        · have hS4 : ∀ y, y ∈ [rb, bb, zb, qb] → B ≤ y := by simp; omega
          have hgs4 := hgs3'.out.ch hc4 hS4
          have x4 := x3'.out.ch hc4 (by simp; simp at hsn; omega)
          have e4 := e3'.out.ch hc4 (by simp; omega)
          have s4 := s3'.out.ch hc4 (by simp; simp at hsn; omega)
          have hcw4 : Ch [sb, rb, bb, zb] w w4 := hcw3'.out.trans' hc4 (fun y hy => by simp at hy ⊢; omega)
          have hk4 := hk_src'.out.ch hc4 (fun b o h => by injection h with h; injection h with h; simp; omega)
          have hv4 := hv_src'.out.ch hc4 (fun b o h => by have := hA2b'.out b o h; simp; omega)
          have hq4 := bs_front_ hb4
          obtain ⟨q, hq⟩ : ∃ q, (((l.drop n).drop N).take 4) = q := ⟨_, rfl⟩
          rw [hq] at hq4
          have hql : q.length = 4 := by rw [← hq, List.length_take]; omega
          have hh3 : Bk w4 (w.heap.size + 1) 199 _ := hr3'.out.h.ch hc4 (by simp; omega)
          have hc3c : Bk w4 w.heap.size 148 _ := hr3'.out.c.ch hc4 (by simp; omega)
          have hx3lt := hr3'.out.hx
          have hbcall := Lib.hid (bytesToU32_any qb 0 4 q w4 hq4 hql)
          obtain ⟨X, hX⟩ : ∃ X, crcMore (crcMore 0 (l.take n)) ((l.drop n).take N) = X := ⟨_, rfl⟩
          rw [hX] at hc3c hx3lt
          obtain ⟨C, hC⟩ : ∃ C, Lib.beNat q = C := ⟨_, rfl⟩
          rw [hC] at hbcall
          have hXc : X = crc32 (l.take (n + N)) := by rw [← hX, crcMore_append _ _ _ (by omega), ← List.take_add]; rfl
          have hsame : Lib.beNat ((l.drop (n + k + v)).take 4) = C := by
            have := hN'.out
            rw [← hC, ← hq, List.drop_drop, show n + k + v = n + N by omega]
          have hgs4' := Lib.hid hgs4
          have x4' := Lib.hid x4
          have e4' := Lib.hid e4
          have s4' := Lib.hid s4
          have hcw4' := Lib.hid hcw4
          have hk4' := Lib.hid hk4
          have hv4' := Lib.hid hv4
          have hr4' := Lib.hid hr4
          have hb4' := Lib.hid hb4
          have hc4' := Lib.hid hc4
          have hq' := Lib.hid hq
          have hh3' := Lib.hid hh3
          have hc3c' := Lib.hid hc3c
          have hX' := Lib.hid hX
          have hC' := Lib.hid hC
          have hXc' := Lib.hid hXc
          have hsame' := Lib.hid hsame
          have hq4' := Lib.hid hq4
          clear hq4 hsame hXc hC hX hc3c hh3 hq hc4 hb4 hr4 hv4 hk4 hcw4 s4 e4 x4 hgs4
          go_wp2_with fail
          refine hbcall.out.mono ?_
          rintro e w5 ⟨rfl, hbl5⟩
          have hc5 : Ch [] w4 w5 := Ch.of_below hbl5
          have hsum := Lib.hid (hrSum2_any (w.heap.size + 1) w.heap.size X _ _ w5 (hh3'.out.ch hc5 (by simp)) (hc3c'.out.ch hc5 (by simp)))
          have x5 := x4'.out.ch hc5 (by simp)
          have e5 := e4'.out.ch hc5 (by simp)
          have s5 := s4'.out.ch hc5 (by simp)
          have hgs5 := hgs4'.out.ch hc5 (by simp)
          have hcw5 : Ch [sb, rb, bb, zb] w w5 := hcw4'.out.trans_nil hc5
          have hk5 := hk4'.out.ch hc5 (fun _ _ _ => by simp)
          have hv5 := hv4'.out.ch hc5 (fun _ _ _ => by simp)
          have hr5 := hr4'.out.ch hc5 (by simp) (by simp) (by simp) (by simp)
          obtain ⟨aT, hT, _⟩ := hgs5.tr
          have d2 := x5.cell 2
          have d3 := x5.cell 3
          have d4 := x5.cell 4
          simp [hdC] at d2 d3 d4
          have f2 := e5.free 2
          have f5 := e5.free 5
          have f6 := e5.free 6
          have i2 := e5.cell 2
          have i5 := e5.cell 5
          have i6 := e5.cell 6
          simp [entC] at i2 i5 i6
          have le5 := e5.lt
          have hne5 : ¬ w.heap.size + 1 + 1 = eb := by omega
          have hbl5' := Lib.hid hbl5
          have hc5' := Lib.hid hc5
          have x5' := Lib.hid x5
          have e5' := Lib.hid e5
          have s5' := Lib.hid s5
          have hgs5' := Lib.hid hgs5
          have hcw5' := Lib.hid hcw5
          have hk5' := Lib.hid hk5
          have hv5' := Lib.hid hv5
          have hr5' := Lib.hid hr5
          clear hr5 hv5 hk5 hcw5 hgs5 s5 e5 x5 hc5 hbl5
          go_wp2_with fail
          refine hsum.out.mono ?_
          rintro e w6 ⟨rfl, rfl⟩
          by_cases hcx : C = X
          · subst hcx
            go_wp2_with fail
            go_ret2
            have hN := hN'.out
            have q5 : Bk (((w5.setCell ⟨eb, 6, none⟩ (.int .u8 (m : Int))).setCell ⟨eb, 5, none⟩ (.int .u8 (u : Int))).setCell ⟨eb, 2, none⟩ (.int .u64 (x : Int))) eb 64 (entC (.slice (some ⟨eb + 1, 0, none⟩) k N) (.slice A2 v v) x off u m n) := by
              simpa [entC] using ((e5'.out.set 6 (.int .u8 (m : Int))).set 5 (.int .u8 (u : Int))).set 2 (.int .u64 (x : Int))
            have hc6 : Ch [eb] w5 (((w5.setCell ⟨eb, 6, none⟩ (.int .u8 (m : Int))).setCell ⟨eb, 5, none⟩ (.int .u8 (u : Int))).setCell ⟨eb, 2, none⟩ (.int .u64 (x : Int))) :=
              (((Ch.refl [eb] w5).setCell (p := ⟨eb, 6, none⟩) (.inl (by simp)) _).setCell (p := ⟨eb, 5, none⟩) (.inl (by simp)) _).setCell (p := ⟨eb, 2, none⟩) (.inl (by simp)) _
            have hty6 := ((((hb2'.out.ty.ch hc3W'.out (by simp)).ch hc4'.out (by simp; omega)).ch hc5'.out (by simp)).ch hc6 (by simp))
            have hdr : l.drop (n + k + v + 4) = ((l.drop n).drop N).drop 4 := by rw [List.drop_drop, List.drop_drop, show n + k + v + 4 = n + (N + 4) by omega, ← Nat.add_assoc]
            refine .inr ⟨k, v, x, m, u, n, eb, some ⟨eb + 1, 0, none⟩, A2, N, v, hok'.out, by omega, hv20, by omega, ?_, rfl, q5, ⟨hk5'.out.ch hc6 (fun b o h => by injection h with h; injection h with h; simp; omega), fun b o h => (by injection h with h; injection h with h; subst h; exact ⟨by omega, hty6⟩)⟩, ⟨hv5'.out.ch hc6 (fun b o h => by have := hA2b'.out b o h; simp; omega), fun b o h => (by have := hA2b'.out b o h; subst this; exact ⟨by omega, hty6⟩)⟩, hkN, Nat.le_refl _, hebw, ?_, ⟨_, _, _, _, _, _, s5'.out.ch hc6 (by simp; omega)⟩, hcw5'.out.trans' hc6 (fun y hy => by simp at hy ⊢; omega)⟩
            · rw [hsame'.out, show n + k + v = n + N by omega, ← hXc'.out]
            · rw [hdr]
              exact hr5'.out.ch hc6 (by simp; omega) (by simp; omega) (by simp; omega) (by simp; omega)
          · have hcxI : ¬ ((C : Int) = (X : Int)) := by omega
            have hstop : ∀ o, entryAt l o = .stop := fun o => by
              have hne : Lib.beNat ((l.drop (n + k + v)).take 4) ≠ crc32 (l.take (n + k + v)) := by
                rw [hsame'.out, show n + k + v = n + N by have := hN'.out; omega, ← hXc'.out]
                exact hcx
              rw [decOk_entry hok'.out o, if_neg hnb, if_pos (.inr (.inr hne))]
            have hstop' := Lib.hid hstop
            clear hstop
            go_wp2_with fail
            go_quiet (fail)
            go_wp2_with fail
            go_ret2
            exact .inl ⟨hstop'.out, ⟨aT, rfl, StopErr.back (.inr hT) hgs'.out hcw5'.out (by simp; omega)⟩, hcw5'.out.drewN _⟩
        · have hS4 : ∀ y, y ∈ [rb, bb, zb, qb] → B ≤ y := by simp; omega
          have hgs4 := hgs3'.out.ch hc4 hS4
          obtain ⟨aE, hE, pE⟩ := hgs4.eof
          obtain ⟨aT, hT, _⟩ := hgs4.tr
          obtain ⟨r, hre⟩ := eqAny a aE w4 ((hae.pt hgs3'.out).ch hc4 hS4) pE
          have hcw4 : Ch [sb, rb, bb, zb] w w4 := hcw3'.out.trans' hc4 (fun y hy => by simp at hy ⊢; omega)
          have hstop : ∀ o, entryAt l o = .stop := fun o => by
            have := hN'.out
            rw [decOk_entry hok'.out o, if_neg hnb, if_pos (.inr (.inl (by omega)))]
          have hgs4' := Lib.hid hgs4
          have pE' := Lib.hid pE
          have hae' := Lib.hid hae
          have hc4' := Lib.hid hc4
          have hcw4' := Lib.hid hcw4
          have hstop' := Lib.hid hstop
          clear hstop hcw4 hc4 hae pE hgs4
          cases r
          · go_wp2_with fail
            go_ret2
            exact .inl ⟨hstop'.out, ⟨a, rfl, StopErr.back (.inl hae'.out) hgs'.out hcw3'.out (by simp; omega)⟩, hcw4'.out⟩
          · go_wp2_with fail
            go_ret2
            exact .inl ⟨hstop'.out, ⟨aT, rfl, StopErr.back (.inr hT) hgs'.out hcw4'.out (by simp; omega)⟩, hcw4'.out⟩
      · have hS2 : ∀ y, y ∈ [w.heap.size + 1, w.heap.size, rb, bb, zb, eb + 1] → B ≤ y := by simp; omega
        have hgs2 := hgsW'.out.ch hc2' hS2
        obtain ⟨aE, hE, pE⟩ := hgs2.eof
        obtain ⟨aT, hT, _⟩ := hgs2.tr
        obtain ⟨r, hre⟩ := eqAny a aE w2 ((hae.pt hgsW'.out).ch hc2' hS2) pE
        have hcw2 : Ch [sb, rb, bb, zb] w w2 := hcwW'.out.trans' hc2' (fun y hy => by simp at hy ⊢; omega)
        have hstop : ∀ o, entryAt l o = .stop := fun o => by
          have := hN'.out
          rw [decOk_entry hok'.out o, if_neg hnb, if_pos (.inr (.inl (by omega)))]
        have hgs2' := Lib.hid hgs2
        have pE' := Lib.hid pE
        have hae' := Lib.hid hae
        have hc2'' := Lib.hid hc2'
        have hcw2' := Lib.hid hcw2
        have hstop' := Lib.hid hstop
        clear hstop hcw2 hc2' hae pE hgs2
        cases r
        · go_wp2_with fail
          go_ret2
          exact .inl ⟨hstop'.out, ⟨a, rfl, StopErr.back (.inl hae'.out) hgs'.out hcwW'.out (by simp; omega)⟩, hcw2'.out⟩
        · go_wp2_with fail
          go_ret2
          exact .inl ⟨hstop'.out, ⟨aT, rfl, StopErr.back (.inr hT) hgs'.out hcw2'.out (by simp; omega)⟩, hcw2'.out⟩
  ·
    have hno' := Lib.hid hno
    have hae' := Lib.hid hae
    have hc1' := Lib.hid hc1
    clear hc1 hae hno
    go_wp2_with fail
    go_ret2
    refine .inl ⟨hno'.out, ⟨a, rfl, (StopErr.back (.inl hae'.out) hgs'.out hc0'.out (by simp))⟩, ?_⟩
    exact (hc0'.out.mono (S' := [sb, rb, bb, zb]) (fun y hy => by cases hy)).trans' hc1'.out (fun y hy => by simp at hy ⊢; omega)
end Go.Proofs.YtpndlcjilgcfkaaGreatDoor
