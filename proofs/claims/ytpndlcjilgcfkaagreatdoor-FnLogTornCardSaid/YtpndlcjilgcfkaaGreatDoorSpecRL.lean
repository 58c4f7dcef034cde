/-
  Contract of spec.ReadLog.
-/
import Derived.Test.YtpndlcjilgcfkaaGreatDoorEnts
import Derived.Deep.LoopGhost
import Derived.Deep.RegionHeld3
import Derived.WalkMore
import Derived.OwnWalk
import Derived.Deep.DeepCutAuto
import Derived.BigQuiet
namespace Go.Proofs.YtpndlcjilgcfkaaGreatDoor
open Go Go.RowKit
open Go.Proofs

theorem andT_ : ∀ a : Fin 32, ∀ b : Fin 8, (a.val * 8 + b.val) &&& 64 = (a.val * 8 + b.val) / 64 % 2 * 64 := by decide +kernel
theorem andN_ : ∀ a : Fin 32, ∀ b : Fin 8, (a.val * 8 + b.val) &&& 128 = (a.val * 8 + b.val) / 128 % 2 * 128 := by decide +kernel
theorem andT (m : Nat) (h : m < 256) : bits .and .u8 (m : Int) 64 = ((m / 64 % 2 * 64 : Nat) : Int) := by
  have h1 := u8_and_nat m 64 h (by omega)
  have h2 := andT_ ⟨m / 8, by omega⟩ ⟨m % 8, by omega⟩
  rw [show m / 8 * 8 + m % 8 = m by omega] at h2
  rw [← h2]
  exact h1
theorem andN (m : Nat) (h : m < 256) : bits .and .u8 (m : Int) 128 = ((m / 128 % 2 * 128 : Nat) : Int) := by
  have h1 := u8_and_nat m 128 h (by omega)
  have h2 := andN_ ⟨m / 8, by omega⟩ ⟨m % 8, by omega⟩
  rw [show m / 8 * 8 + m % 8 = m by omega] at h2
  rw [← h2]
  exact h1
theorem sRun_inr {b : List UInt8} {k : Nat} {s : LSt} {r : List LEnt × Nat × Bool} (h : lStep b s = .inr r) (hk : 0 < k) : lRun b k s = r := by
  obtain ⟨k, rfl⟩ : ∃ j, k = j + 1 := ⟨k - 1, by omega⟩
  unfold lRun
  rw [h]
theorem sStep_bad {b : List UInt8} {s : LSt} (h : entryAt (b.drop s.at_) s.at_ = .bad) : lStep b s = .inr (s.l, s.fin, false) := by unfold lStep; rw [h]
theorem sStep_stop {b : List UInt8} {s : LSt} (h : entryAt (b.drop s.at_) s.at_ = .stop) : lStep b s = .inr (s.l, s.fin, true) := by unfold lStep; rw [h]
theorem sStep_got {b : List UInt8} {s : LSt} {e : LEnt} (h : entryAt (b.drop s.at_) s.at_ = .got e) : lStep b s = lEnd s e := by unfold lStep; rw [h]

/-- What spec.ReadLog's loop keeps. -/
structure SRel (b : List UInt8) (R : List LEnt × Nat × Bool) (w0 : World) (s : LSt) (v u : Value) (wx : World) : Prop where
  h1 : 20 ≤ s.at_
  h2 : s.at_ ≤ b.length
  h3 : ∃ k, b.length < k + s.at_ ∧ lRun b k s = R
  h4 : s.ver < 18446744073709551616
  h5 : s.fin ≤ b.length
  h6 : s.ver ≠ 0 → s.op ≠ []
  h7 : s.l.length + s.op.length ≤ s.at_
  lv : Ents w0.heap.size wx v s.l
  ov : Ents w0.heap.size wx u s.op
  ap : ∀ g, v.ownBlock = some g → u.ownBlock ≠ some g
  bl : Below w0.heap.size w0 wx

/-- The answer. -/
def SRLPost (b : List UInt8) (w : World) (e : Ending) (w' : World) : Prop :=
  ∃ v, e = .returned (.tuple #[v, .int .u32 ((readLog b).2.1 : Int), .bool (readLog b).2.2]) ∧ Ents w.heap.size w' v (readLog b).1 ∧ Below w.heap.size w w'

theorem srl_done {b : List UInt8} {R : List LEnt × Nat × Bool} {w w' wx : World} {s : LSt} {v u : Value} {a : Bool} (hr : readLog b = R) (h : SRel b R w s v u wx) (hs : lStep b s = .inr (s.l, s.fin, a)) (hb : Below wx.heap.size wx w') :
    SRLPost b w (.returned (.tuple #[v, .int .u32 (s.fin : Int), .bool a])) w' := by
  obtain ⟨k, hk, hrun⟩ := h.h3
  have h2 := h.h2
  have e := (sRun_inr hs (by omega)).symm.trans hrun
  refine ⟨v, ?_, ?_, below_step h.bl h.bl.size hb⟩
  · rw [hr, ← e]
  · rw [hr, ← e]
    exact h.lv.below hb (Nat.le_refl _)

theorem bk_news {w : World} {g : Nat} {t : TypeId} {cs : List Value} (h : Bk w g t cs.toArray) : ∀ j u, cs[j]? = some u → w.cell? ((⟨g, 0, none⟩ : Addr).add j) = some u := by
  intro j u hj
  rw [Addr.add_lit, Nat.zero_add, h.cell]
  simpa using hj
theorem entCs_snoc (l : List LEnt) (e : LEnt) : entCs (l ++ [e]) = entCs l ++ (enC e).toList := by
  rw [entCs_append]
  simp [entCs]
theorem enC_one (e : LEnt) : ∀ u ∈ (enC e).toList, u.oneCell' = true := fun u h => entCs_one [e] u (by simpa [entCs] using h)

theorem lRun_next {b : List UInt8} {R : List LEnt × Nat × Bool} {s s' : LSt} (h : ∃ k, b.length < k + s.at_ ∧ lRun b k s = R) (hat : s.at_ ≤ b.length) (hst : lStep b s = .inl s') : ∃ k, b.length < k + s'.at_ ∧ lRun b k s' = R := by
  obtain ⟨k, hk, hrun⟩ := h
  obtain ⟨k, rfl⟩ : ∃ j, k = j + 1 := ⟨k - 1, by omega⟩
  have h1 := lStep_at hst
  exact ⟨k, by omega, by rw [← lRun_step hst]; exact hrun⟩

section
variable {b : List UInt8} {R : List LEnt × Nat × Bool} {w wr W w3 : World} {s : LSt} {v u : Value} {E : LEnt} {A' : Option Addr} {c' : Nat}
theorem SRel.push_op (hI : SRel b R w s v u wr) (hb : Below wr.heap.size wr W) (hch : Ch u.ownBlock.toList W w3) (hown : w3.ownsRow w.heap.size 30 7 (.slice A' (s.op.length + 1) c') (s.op.length + 1) (entCs s.op ++ (enC E).toList))
    (hloc : (Value.slice A' (s.op.length + 1) c').ownBlock = u.ownBlock ∨ (Value.slice A' (s.op.length + 1) c').ownBlock = some W.heap.size) {T : Nat} (hT : T < 18446744073709551616) (hlen : 0 < E.len) (hle : s.at_ + E.len ≤ b.length)
    (hst : lStep b s = .inl ⟨s.l, s.op ++ [E], T, s.fin, s.at_ + E.len⟩) : SRel b R w ⟨s.l, s.op ++ [E], T, s.fin, s.at_ + E.len⟩ v (.slice A' (s.op.length + 1) c') w3 where
  h1 := by have := hI.h1; show 20 ≤ s.at_ + E.len; omega
  h2 := hle
  h3 := lRun_next hI.h3 hI.h2 hst
  h4 := hT
  h5 := hI.h5
  h6 := fun _ => by simp
  h7 := by have := hI.h7; simp; omega
  lv := (hI.lv.below hb (Nat.le_refl _)).ch hch (fun g hg hm => hI.ap g hg (by simpa using hm))
  ov := by
    have h := hown
    unfold Ents
    rw [entCs_snoc]
    simpa using h
  ap := fun g hg h => by
    rcases hloc with h1 | h1
    · exact hI.ap g hg (h1.symm.trans h)
    · rw [h1] at h
      injection h with h
      have h2 := ((hI.lv.below hb (Nat.le_refl _)).lt hg).2
      omega
  bl := (hI.bl.trans (hb.mono hI.bl.size)).trans (hch.below (Nat.le_trans hI.bl.size hb.size) fun k hk => (hI.ov.lt (by simpa using hk)).1)
theorem SRel.push_l (hI : SRel b R w s v u wr) (hb : Below wr.heap.size wr W) (hch : Ch v.ownBlock.toList W w3) (hown : w3.ownsRow w.heap.size 30 7 (.slice A' (s.l.length + 1) c') (s.l.length + 1) (entCs s.l ++ (enC E).toList))
    (hloc : (Value.slice A' (s.l.length + 1) c').ownBlock = v.ownBlock ∨ (Value.slice A' (s.l.length + 1) c').ownBlock = some W.heap.size) (hv0 : s.ver = 0) (hlen : 0 < E.len) (hle : s.at_ + E.len ≤ b.length)
    (hst : lStep b s = .inl ⟨s.l ++ [E], s.op, s.ver, s.at_ + E.len, s.at_ + E.len⟩) : SRel b R w ⟨s.l ++ [E], s.op, s.ver, s.at_ + E.len, s.at_ + E.len⟩ (.slice A' (s.l.length + 1) c') u w3 where
  h1 := by have := hI.h1; show 20 ≤ s.at_ + E.len; omega
  h2 := hle
  h3 := lRun_next hI.h3 hI.h2 hst
  h4 := hI.h4
  h5 := hle
  h6 := fun h => absurd hv0 h
  h7 := by have := hI.h7; simp; omega
  lv := by
    have h := hown
    unfold Ents
    rw [entCs_snoc]
    simpa using h
  ov := (hI.ov.below hb (Nat.le_refl _)).ch hch (fun g hg hm => hI.ap g (by simpa using hm) hg)
  ap := fun g hg h => by
    rcases hloc with h1 | h1
    · exact hI.ap g (h1.symm.trans hg) h
    · rw [h1] at hg
      injection hg with hg
      have h2 := ((hI.ov.below hb (Nat.le_refl _)).lt h).2
      omega
  bl := (hI.bl.trans (hb.mono hI.bl.size)).trans (hch.below (Nat.le_trans hI.bl.size hb.size) fun k hk => (hI.lv.lt (by simpa using hk)).1)
theorem SRel.commit (hI : SRel b R w s v u wr) (hb : Below wr.heap.size wr W) (hch : Ch v.ownBlock.toList W w3) (hown : w3.ownsRow w.heap.size 30 7 (.slice A' (s.l.length + s.op.length) c') (s.l.length + s.op.length) (entCs s.l ++ entCs s.op))
    (hlen : 0 < E.len) (hle : s.at_ + E.len ≤ b.length)
    (hst : lStep b s = .inl ⟨s.l ++ s.op, [], 0, s.at_ + E.len, s.at_ + E.len⟩) : SRel b R w ⟨s.l ++ s.op, [], 0, s.at_ + E.len, s.at_ + E.len⟩ (.slice A' (s.l.length + s.op.length) c') (.slice none 0 0) w3 where
  h1 := by have := hI.h1; show 20 ≤ s.at_ + E.len; omega
  h2 := hle
  h3 := lRun_next hI.h3 hI.h2 hst
  h4 := by show 0 < 18446744073709551616; omega
  h5 := hle
  h6 := fun h => absurd rfl h
  h7 := by have := hI.h7; simp; omega
  lv := by
    have h := hown
    unfold Ents
    rw [entCs_append]
    simpa using h
  ov := Ents.nil _ _
  ap := fun g hg h => by cases h
  bl := (hI.bl.trans (hb.mono hI.bl.size)).trans (hch.below (Nat.le_trans hI.bl.size hb.size) fun k hk => (hI.lv.lt (by simpa using hk)).1)
end


set_option maxHeartbeats 16000000 in
set_option maxRecDepth 100000 in
theorem specReadLog_any (b : List UInt8) (w : World) (hb20 : 20 ≤ b.length) (hbl : b.length ≤ 1000000000) :
    Calls Tryz.prog 7 #[.string ⟨b.toArray⟩] w (SRLPost b w) := by
  obtain ⟨R, hr⟩ : ∃ r, readLog b = r := ⟨_, rfl⟩
  have hsz : (ByteArray.mk b.toArray).size = b.length := by simp [ByteArray.size]
  have h20I : ¬ (b.length : Int) < 20 := by omega
  have hr' := Lib.hid hr
  clear hr
  go_enter Tryz.func7, Tryz.ntmps7
  go_wp2_with fail
  go_loopg [2, 3, 5, 6, 7] (b.length + 1 - 20) (fun g s2 s3 s5 s6 s7 wx => ∃ s : LSt, s3 = .int .u32 (s.fin : Int) ∧ s5 = .int .i64 (s.at_ : Int) ∧ s7 = .int .u64 (s.ver : Int) ∧ g = b.length + 1 - s.at_ ∧ SRel b R w s s2 s6 wx)
  case atStart =>
    exact ⟨⟨[], [], 0, 20, 20⟩, rfl, rfl, rfl, rfl, { h1 := Nat.le_refl _, h2 := hb20, h3 := ⟨b.length + 1, by simp; omega, hr'.out⟩, h4 := by simp, h5 := hb20, h6 := fun h => absurd rfl h, h7 := by simp, lv := Ents.nil _ _, ov := Ents.nil _ _, ap := (fun _ h => by cases h), bl := Below.refl _ _ }⟩
  case round =>
    obtain ⟨s, rfl, rfl, rfl, rfl, hI⟩ := hrel
    have hat := hI.h2
    have hfin := hI.h5
    have hver := hI.h4
    have hcnt := hI.h7
    have hcall := specEntryAt_any b s.at_ wr hat hbl
    have hI' := Lib.hid hI
    have hcall' := Lib.hid hcall
    clear hcall hI
    go_wp2_with fail
    refine hcall'.out.mono ?_
    cases hE : entryAt (b.drop s.at_) s.at_ with
    | bad =>
      rintro e w1 ⟨hb1, k, y, m, u, x, o, n, rfl⟩
      have hst := sStep_bad hE
      unfold entCells
      have hE' := Lib.hid hE
      have hst' := Lib.hid hst
      have hb1' := Lib.hid hb1
      clear hb1 hst hE
      go_wp2_with fail
      go_ret3
      exact srl_done hr'.out hI'.out hst'.out (below_alloc_ hb1'.out _)
    | stop =>
      rintro e w1 ⟨hb1, k, y, m, u, x, o, n, rfl⟩
      have hst := sStep_stop hE
      unfold entCells
      have hE' := Lib.hid hE
      have hst' := Lib.hid hst
      have hb1' := Lib.hid hb1
      clear hb1 hst hE
      go_wp2_with fail
      go_ret3
      exact srl_done hr'.out hI'.out hst'.out (below_alloc_ hb1'.out _)
    | got E =>
      rintro e w1 ⟨hb1, rfl⟩
      have hst0 := sStep_got hE
      obtain ⟨hl0, hll, hlo, hk0, hkv, hm8, hu8, hx64⟩ := entryAt_len hE
      rw [List.length_drop] at hll
      have wl : IntKind.i64.wrap (E.len : Int) = (E.len : Int) := IntWalk.i64_in _ (by omega)
      have ws : IntKind.i64.wrap ((s.at_ : Int) + (E.len : Int)) = (s.at_ : Int) + (E.len : Int) := IntWalk.i64_in _ (by omega)
      have ws2 : IntKind.u32.wrap ((s.at_ : Int) + (E.len : Int)) = (s.at_ : Int) + (E.len : Int) := IntWalk.u32_in _ (by omega)
      have hone := enC_one E
      unfold enC entCells at hone
      unfold enC entCells
      have hle : s.at_ + E.len ≤ b.length := by omega
      have hE' := Lib.hid hE
      have hst0' := Lib.hid hst0
      have hb1' := Lib.hid hb1
      have hone' := Lib.hid hone
      have hlo' := Lib.hid hlo
      clear hlo hone hb1 hst0 hE
      by_cases hT : E.bits / 64 % 2 = 1
      · have hand := andT E.bits hm8
        rw [hT] at hand
        have hts := fun W => specTsOf_any E.key W (by omega)
        have hTlt := tsOf_lt E.key
        have hst1 : lStep b s = if tsOf E.key = 0 then .inr (s.l, s.fin, false) else if s.ver ≠ 0 ∧ s.ver ≠ tsOf E.key then .inr (s.l, s.fin, true) else .inl ⟨s.l, s.op ++ [E], tsOf E.key, s.fin, s.at_ + E.len⟩ := by
          rw [hst0'.out]
          unfold lEnd
          rw [if_pos hT]
        obtain ⟨T, hTT⟩ : ∃ T, tsOf E.key = T := ⟨_, rfl⟩
        rw [hTT] at hst1 hTlt
        simp only [hTT] at hts
        have hts' := fun W => Lib.hid (hts W)
        clear hts
        have hst1' := Lib.hid hst1
        have hTT' := Lib.hid hTT
        have hT' := Lib.hid hT
        clear hT hTT hst1
        go_wp2_with fail
        refine (hts' _).out.mono ?_
        rintro e w2 ⟨rfl, hb2⟩
        have hbW : Below wr.heap.size wr w2 := below_call_ hb2 (below_alloc_ hb1'.out _)
        have hb2' := Lib.hid hb2
        have hbW' := Lib.hid hbW
        clear hbW hb2
        by_cases h0 : T = 0
        · have h0I : (T : Int) = 0 := by omega
          have hst := hst1'.out
          rw [if_pos h0] at hst
          have hst' := Lib.hid hst
          have h0' := Lib.hid h0
          clear h0 hst
          go_wp2_with fail
          go_ret3
          exact srl_done hr'.out hI'.out hst'.out hbW'.out
        · have h0I : ¬ (T : Int) = 0 := by omega
          by_cases hvv : s.ver ≠ 0 ∧ s.ver ≠ T
          · have hv1 : ((s.ver : Int) != 0) = true := by simp; omega
            have hv2 : ((s.ver : Int) != (T : Int)) = true := by simp; omega
            have hst := hst1'.out
            rw [if_neg h0, if_pos hvv] at hst
            have hst' := Lib.hid hst
            have h0' := Lib.hid h0
            have hvv' := Lib.hid hvv
            clear hvv h0 hst
            go_wp2_with fail
            go_ret3
            exact srl_done hr'.out hI'.out hst'.out hbW'.out
          · have hst := hst1'.out
            rw [if_neg h0, if_neg hvv] at hst
            have hbox := (Bk.at_ w1 w1.heap.size 30 #[Value.string ⟨E.key.toArray⟩, .string ⟨E.val.toArray⟩, .int .u8 (E.bits : Int), .int .u8 (E.um : Int), .int .u64 (E.exp : Int), .int .u32 (E.off : Int), .int .u32 (E.len : Int)] rfl).below hb2'.out (by simp)
            have q0 := hbox.cell 0
            have q1 := hbox.cell 1
            have q2 := hbox.cell 2
            have q3 := hbox.cell 3
            have q4 := hbox.cell 4
            have q5 := hbox.cell 5
            have q6 := hbox.cell 6
            simp at q0 q1 q2 q3 q4 q5 q6
            have hst' := Lib.hid hst
            have hbox' := Lib.hid hbox
            clear hbox hst
            by_cases hv0 : s.ver = 0
            · have hv1 : ((s.ver : Int) != 0) = false := by simp; omega
              have h0' := Lib.hid h0
              have hvv' := Lib.hid hvv
              have hv0' := Lib.hid hv0
              clear hv0 hvv h0
              have hov := World.ownsRow.alloc (hI'.out.ov.below hbW'.out (Nat.le_refl _)) (.cells #[Value.string ⟨E.key.toArray⟩, .string ⟨E.val.toArray⟩, .int .u8 (E.bits : Int), .int .u8 (E.um : Int), .int .u64 (E.exp : Int), .int .u32 (E.off : Int), .int .u32 (E.len : Int)] 30)
              have hov' := Lib.hid hov
              clear hov
              go_wp2_with (at_builtin; refine wpList_appendN rfl (.tmp 67) (.tmp 69) 23 rfl w.heap.size 30 7 Tryz.underlying23 (by kernel_rfl) (by omega) _ s.op.length (entCs s.op) rfl hov'.out ⟨w2.heap.size, 0, none⟩ 1 1 [Value.string ⟨E.key.toArray⟩, .string ⟨E.val.toArray⟩, .int .u8 (E.bits : Int), .int .u8 (E.um : Int), .int .u64 (E.exp : Int), .int .u32 (E.off : Int), .int .u32 (E.len : Int)] rfl rfl (bk_news (Bk.at_ _ _ _ _ rfl)) hone'.out (by omega) (by have h1 := hI'.out.bl.size; have h2 := hbW'.out.size; simp; omega) ?_; intro A' c' w3 hown3 hch3 hloc3)
              go_roundg (b.length + 1 - (s.at_ + E.len))
              case measure => omega
              case rel => exact ⟨⟨s.l, s.op ++ [E], T, s.fin, s.at_ + E.len⟩, rfl, by go_num, rfl, rfl, hI'.out.push_op (below_alloc_ hbW'.out _) hch3 hown3 hloc3 hTlt hl0 hle hst'.out⟩
            · have hv1 : ((s.ver : Int) != 0) = true := by simp; omega
              have hv2 : ((s.ver : Int) != (T : Int)) = false := by simp; omega
              have h0' := Lib.hid h0
              have hvv' := Lib.hid hvv
              have hv0' := Lib.hid hv0
              clear hv0 hvv h0
              have hov := World.ownsRow.alloc (hI'.out.ov.below hbW'.out (Nat.le_refl _)) (.cells #[Value.string ⟨E.key.toArray⟩, .string ⟨E.val.toArray⟩, .int .u8 (E.bits : Int), .int .u8 (E.um : Int), .int .u64 (E.exp : Int), .int .u32 (E.off : Int), .int .u32 (E.len : Int)] 30)
              have hov' := Lib.hid hov
              clear hov
              go_wp2_with (at_builtin; refine wpList_appendN rfl (.tmp 67) (.tmp 69) 23 rfl w.heap.size 30 7 Tryz.underlying23 (by kernel_rfl) (by omega) _ s.op.length (entCs s.op) rfl hov'.out ⟨w2.heap.size, 0, none⟩ 1 1 [Value.string ⟨E.key.toArray⟩, .string ⟨E.val.toArray⟩, .int .u8 (E.bits : Int), .int .u8 (E.um : Int), .int .u64 (E.exp : Int), .int .u32 (E.off : Int), .int .u32 (E.len : Int)] rfl rfl (bk_news (Bk.at_ _ _ _ _ rfl)) hone'.out (by omega) (by have h1 := hI'.out.bl.size; have h2 := hbW'.out.size; simp; omega) ?_; intro A' c' w3 hown3 hch3 hloc3)
              go_roundg (b.length + 1 - (s.at_ + E.len))
              case measure => omega
              case rel => exact ⟨⟨s.l, s.op ++ [E], T, s.fin, s.at_ + E.len⟩, rfl, by go_num, rfl, rfl, hI'.out.push_op (below_alloc_ hbW'.out _) hch3 hown3 hloc3 hTlt hl0 hle hst'.out⟩
      · have hT0 : E.bits / 64 % 2 = 0 := by omega
        have hand := andT E.bits hm8
        rw [hT0] at hand
        have handN := andN E.bits hm8
        have hbW : Below wr.heap.size wr (w1.alloc (.cells #[Value.string ⟨E.key.toArray⟩, .string ⟨E.val.toArray⟩, .int .u8 (E.bits : Int), .int .u8 (E.um : Int), .int .u64 (E.exp : Int), .int .u32 (E.off : Int), .int .u32 (E.len : Int)] 30)) := below_alloc_ hb1'.out _
        by_cases hN : E.bits / 128 % 2 = 1
        · rw [hN] at handN
          by_cases hv0 : s.ver = 0
          · have hv1 : ((s.ver : Int) == 0) = true := by simp; omega
            have hst : lStep b s = .inr (s.l, s.fin, false) := by
              rw [hst0'.out]
              unfold lEnd
              rw [if_neg hT, if_pos hN, if_pos hv0]
            have hst' := Lib.hid hst
            have hT' := Lib.hid hT
            have hN' := Lib.hid hN
            have hT0' := Lib.hid hT0
            have hv0' := Lib.hid hv0
            have hbW' := Lib.hid hbW
            clear hbW hv0 hT0 hN hT hst
            go_wp2_with fail
            go_ret3
            exact srl_done hr'.out hI'.out hst'.out hbW'.out
          · have hv1 : ((s.ver : Int) == 0) = false := by simp; omega
            have hop := hI'.out.h6 hv0
            have hdec := fun W => specDecimal_any s.ver hver W
            have hdl := dec_len s.ver hver
            have hst1 : lStep b s = if E.val ≠ dec s.ver then .inr (s.l, s.fin, decide (E.val = [] ∨ (E.val.getD 0 0).toNat ≠ 48 ∧ (E.val.getD 0 0).toNat ≠ 43)) else .inl ⟨s.l ++ s.op, [], 0, s.at_ + E.len, s.at_ + E.len⟩ := by
              rw [hst0'.out]
              unfold lEnd
              rw [if_neg hT, if_pos hN, if_neg hv0]
            obtain ⟨D, hD⟩ : ∃ D, dec s.ver = D := ⟨_, rfl⟩
            rw [hD] at hst1 hdl
            simp only [hD] at hdec
            have hdec' := fun W => Lib.hid (hdec W)
            clear hdec
            obtain ⟨BD, hBD⟩ : ∃ BD, decide (E.val ≠ D) = BD := ⟨_, rfl⟩
            have hbox := Bk.at_ w1 w1.heap.size 30 #[Value.string ⟨E.key.toArray⟩, .string ⟨E.val.toArray⟩, .int .u8 (E.bits : Int), .int .u8 (E.um : Int), .int .u64 (E.exp : Int), .int .u32 (E.off : Int), .int .u32 (E.len : Int)] rfl
            obtain ⟨W1, hW1⟩ : ∃ W1, w1.alloc (.cells #[Value.string ⟨E.key.toArray⟩, .string ⟨E.val.toArray⟩, .int .u8 (E.bits : Int), .int .u8 (E.um : Int), .int .u64 (E.exp : Int), .int .u32 (E.off : Int), .int .u32 (E.len : Int)] 30) = W1 := ⟨_, rfl⟩
            have hsW : W1.heap.size = w1.heap.size + 1 := by rw [← hW1]; simp
            rw [hW1] at hbW hbox
            have hst1' := Lib.hid hst1
            have hT' := Lib.hid hT
            have hN' := Lib.hid hN
            have hT0' := Lib.hid hT0
            have hv0' := Lib.hid hv0
            have hbW' := Lib.hid hbW
            have hW1' := Lib.hid hW1
            have hop' := Lib.hid hop
            have hD' := Lib.hid hD
            have hBD' := Lib.hid hBD
            have hsW' := Lib.hid hsW
            clear hsW hBD hD hop hW1 hbW hv0 hT0 hN hT hst1
            go_upto_region 26 with fail
            rw [hW1'.out]
            have q0 := hbox.cell 0
            have q1 := hbox.cell 1
            have q2 := hbox.cell 2
            have q3 := hbox.cell 3
            have q4 := hbox.cell 4
            have q5 := hbox.cell 5
            have q6 := hbox.cell 6
            simp at q0 q1 q2 q3 q4 q5 q6
            have hblt := hbox.lt
            have hbox' := Lib.hid hbox
            clear hbox
            go_cut [84] (fun s84 wx => s84 = .bool BD ∧ Below W1.heap.size W1 wx)
            case first =>
              by_cases hvd : E.val = D
              · have hB : BD = false := hBD'.out.symm.trans (by simp [hvd])
                subst hvd
                have hB' := Lib.hid hB
                clear hB
                go_region_held3 (fun w' => w'.cell? ⟨w1.heap.size, 1, none⟩ = some (.string ⟨E.val.toArray⟩)) (first | exact q1 | (simp [go_sem, q1]; done) | exact qv) (first | (go_at_call 20; refine (hdec' _).out.mono ?_; rintro e w2 ⟨rfl, hb2⟩; have qv : w2.cell? ⟨w1.heap.size, 1, none⟩ = some (.string ⟨E.val.toArray⟩) := (hb2.cell (p := ⟨w1.heap.size, 1, none⟩) (by simpa using hblt)).trans (by simpa using q1)))
                all_goals
                  go_wp2_with fail
                  go_meet
                  exact ⟨by first | (rw [hB'.out]; done) | (rw [hB'.out]; simp; done) | simp [hB'.out], by repeat (first | exact Below.refl _ _ | refine below_drewN ?_ _ | refine below_drew_ ?_ | refine below_call_ (by assumption) ?_)⟩
              · have hB : BD = true := hBD'.out.symm.trans (by simp [hvd])
                have hB' := Lib.hid hB
                have hvd' := Lib.hid hvd
                clear hvd hB
                go_region_held3 (fun w' => w'.cell? ⟨w1.heap.size, 1, none⟩ = some (.string ⟨E.val.toArray⟩)) (first | exact q1 | (simp [go_sem, q1]; done) | exact qv) (first | (go_at_call 20; refine (hdec' _).out.mono ?_; rintro e w2 ⟨rfl, hb2⟩; have qv : w2.cell? ⟨w1.heap.size, 1, none⟩ = some (.string ⟨E.val.toArray⟩) := (hb2.cell (p := ⟨w1.heap.size, 1, none⟩) (by simpa using hblt)).trans (by simpa using q1)))
                all_goals
                  go_wp2_with fail
                  go_meet
                  exact ⟨by first | (rw [hB'.out]; done) | (rw [hB'.out]; simp [hvd'.out]; done), by repeat (first | exact Below.refl _ _ | refine below_drewN ?_ _ | refine below_drew_ ?_ | refine below_call_ (by assumption) ?_)⟩
            case rest =>
            obtain ⟨rfl, hbc⟩ := hcut
            have hboxc := hbox'.out.below hbc hblt
            clear q0 q1 q2 q3 q4 q5 q6
            have q0 := hboxc.cell 0
            have q1 := hboxc.cell 1
            have q2 := hboxc.cell 2
            have q3 := hboxc.cell 3
            have q4 := hboxc.cell 4
            have q5 := hboxc.cell 5
            have q6 := hboxc.cell 6
            simp at q0 q1 q2 q3 q4 q5 q6
            have hbW2 : Below wr.heap.size wr wc := below_call_ hbc hbW'.out
            have hboxc' := Lib.hid hboxc
            have hbc' := Lib.hid hbc
            clear hbc hboxc
            by_cases hvd : E.val = D
            · have hB : BD = false := hBD'.out.symm.trans (by simp [hvd])
              subst hB
              have hst := hst1'.out
              rw [if_neg (fun h => h hvd)] at hst
              obtain ⟨Ao, co, hue⟩ := ents_form hI'.out.ov
              obtain ⟨x0, hx0⟩ : ∃ x, s.op[0]? = some x := by
                cases hso : s.op with
                | nil => exact absurd hso hop'.out
                | cons x r => exact ⟨x, rfl⟩
              have hovn := hI'.out.ov.below hbW2 (Nat.le_refl _)
              rw [hue] at hovn
              obtain ⟨go, hAo, _⟩ := hovn.cell (j := 0) (i := 0) (by have := hop'.out; cases hso : s.op with | nil => exact absurd hso this | cons x r => simp) (by omega)
              subst hAo
              have hcells := World.ownsRow.cells hovn (g := go) rfl
              have hlv := hI'.out.lv.below hbW2 (Nat.le_refl _)
              have hone2 := entCs_one s.op
              have hlen2 := entCs_length s.op
              rw [hue]
              have hst' := Lib.hid hst
              have hbW2' := Lib.hid hbW2
              have hovn' := Lib.hid hovn
              have hcells' := Lib.hid hcells
              have hlv' := Lib.hid hlv
              have hone2' := Lib.hid hone2
              have hlen2' := Lib.hid hlen2
              have hvd' := Lib.hid hvd
              have hx0' := Lib.hid hx0
              have hue' := Lib.hid hue
              clear hue hx0 hvd hlen2 hone2 hlv hcells hovn hbW2 hst
              go_wp2_with (at_builtin; refine wpList_appendN rfl (.tmp 103) (.tmp 104) 23 rfl w.heap.size 30 7 Tryz.underlying23 (by kernel_rfl) (by omega) _ s.l.length (entCs s.l) rfl hlv'.out ⟨go, 0, none⟩ s.op.length co (entCs s.op) rfl hlen2'.out hcells'.out hone2'.out (by omega) (by have h1 := hI'.out.bl.size; have h2 := hbW2'.out.size; omega) ?_; intro A' c' w3 hown3 hch3 hloc3)
              go_roundg (b.length + 1 - (s.at_ + E.len))
              case measure => omega
              case rel => exact ⟨⟨s.l ++ s.op, [], 0, s.at_ + E.len, s.at_ + E.len⟩, by go_num, by go_num, rfl, rfl, hI'.out.commit hbW2'.out hch3 hown3 hl0 hle hst'.out⟩
            · have hB : BD = true := hBD'.out.symm.trans (by simp [hvd])
              subst hB
              have hst := hst1'.out
              rw [if_pos hvd] at hst
              cases hv : E.val with
              | nil =>
                have hst2 : lStep b s = .inr (s.l, s.fin, true) := by rw [hst, hv]; simp
                rw [hv] at q1
                have hlI : decide (((ByteArray.mk ([] : List UInt8).toArray).size : Int) = 0) = true := rfl
                have hbW2' := Lib.hid hbW2
                have hvd' := Lib.hid hvd
                have hst' := Lib.hid hst
                have hst2' := Lib.hid hst2
                have hv' := Lib.hid hv
                clear hv hst2 hst hvd hbW2
                go_wp2_with fail
                go_quiet (fail)
                go_wp2_with fail
                go_ret3
                exact srl_done hr'.out hI'.out hst2'.out (below_drewN hbW2'.out _)
              | cons x r =>
                rw [hv] at q1
                have i0 : ∀ W : World, (Instr.index 9 (.string ⟨(x :: r).toArray⟩) (.int .i64 0)).run Tryz.prog W = .ok (.int .u8 (x.toNat : Int)) W := run_index_mk _ Tryz.underlying9 (x :: r) .i64 0 x rfl
                have hxl : x.toNat < 256 := x.toNat_lt
                have hrl : r.length + 1 ≤ 1000000000 := by
                  have h1 := congrArg List.length hv
                  simp at h1
                  omega
                by_cases h48 : x.toNat = 48
                · have hst2 : lStep b s = .inr (s.l, s.fin, false) := by rw [hst, hv]; simp [h48]
                  have hx1 : ((x.toNat : Int) != 48) = false := by simp; omega
                  have hbW2' := Lib.hid hbW2
                  have hvd' := Lib.hid hvd
                  have hst' := Lib.hid hst
                  have hst2' := Lib.hid hst2
                  have hv' := Lib.hid hv
                  have h48' := Lib.hid h48
                  clear h48 hv hst2 hst hvd hbW2
                  go_wp2_with fail
                  go_quiet (fail)
                  go_wp2_with fail
                  go_ret3
                  exact srl_done hr'.out hI'.out hst2'.out (below_drewN hbW2'.out _)
                · have hx1 : ((x.toNat : Int) != 48) = true := by simp; omega
                  by_cases h43 : x.toNat = 43
                  · have hst2 : lStep b s = .inr (s.l, s.fin, false) := by rw [hst, hv]; simp [h43]
                    have hx2 : ((x.toNat : Int) != 43) = false := by simp; omega
                    have hbW2' := Lib.hid hbW2
                    have hvd' := Lib.hid hvd
                    have hst' := Lib.hid hst
                    have hst2' := Lib.hid hst2
                    have hv' := Lib.hid hv
                    have h48' := Lib.hid h48
                    have h43' := Lib.hid h43
                    clear h43 h48 hv hst2 hst hvd hbW2
                    go_wp2_with fail
                    go_quiet (fail)
                    go_wp2_with fail
                    go_ret3
                    exact srl_done hr'.out hI'.out hst2'.out (below_drewN hbW2'.out _)
                  · have hst2 : lStep b s = .inr (s.l, s.fin, true) := by rw [hst, hv]; simp [h43, h48]
                    have hx2 : ((x.toNat : Int) != 43) = true := by simp; omega
                    have hbW2' := Lib.hid hbW2
                    have hvd' := Lib.hid hvd
                    have hst' := Lib.hid hst
                    have hst2' := Lib.hid hst2
                    have hv' := Lib.hid hv
                    have h48' := Lib.hid h48
                    have h43' := Lib.hid h43
                    clear h43 h48 hv hst2 hst hvd hbW2
                    go_wp2_with fail
                    go_quiet (fail)
                    go_wp2_with fail
                    go_ret3
                    exact srl_done hr'.out hI'.out hst2'.out (below_drewN hbW2'.out _)
        · have hN0 : E.bits / 128 % 2 = 0 := by omega
          rw [hN0] at handN
          by_cases hv0 : s.ver = 0
          · have hv1 : ((s.ver : Int) != 0) = false := by simp; omega
            have hst : lStep b s = .inl ⟨s.l ++ [E], s.op, s.ver, s.at_ + E.len, s.at_ + E.len⟩ := by
              rw [hst0'.out]
              unfold lEnd
              rw [if_neg hT, if_neg hN, if_neg (fun h => h hv0)]
            have hbox := Bk.at_ w1 w1.heap.size 30 #[Value.string ⟨E.key.toArray⟩, .string ⟨E.val.toArray⟩, .int .u8 (E.bits : Int), .int .u8 (E.um : Int), .int .u64 (E.exp : Int), .int .u32 (E.off : Int), .int .u32 (E.len : Int)] rfl
            obtain ⟨W1, hW1⟩ : ∃ W1, w1.alloc (.cells #[Value.string ⟨E.key.toArray⟩, .string ⟨E.val.toArray⟩, .int .u8 (E.bits : Int), .int .u8 (E.um : Int), .int .u64 (E.exp : Int), .int .u32 (E.off : Int), .int .u32 (E.len : Int)] 30) = W1 := ⟨_, rfl⟩
            have hsW : W1.heap.size = w1.heap.size + 1 := by rw [← hW1]; simp
            rw [hW1] at hbW hbox
            have hst' := Lib.hid hst
            have hT' := Lib.hid hT
            have hN' := Lib.hid hN
            have hT0' := Lib.hid hT0
            have hN0' := Lib.hid hN0
            have hv0' := Lib.hid hv0
            have hbW' := Lib.hid hbW
            have hW1' := Lib.hid hW1
            have hsW' := Lib.hid hsW
            clear hsW hW1 hbW hv0 hN0 hT0 hN hT hst
            go_upto_region 13 with fail
            rw [hW1'.out]
            have q0 := hbox.cell 0
            have q1 := hbox.cell 1
            have q2 := hbox.cell 2
            have q3 := hbox.cell 3
            have q4 := hbox.cell 4
            have q5 := hbox.cell 5
            have q6 := hbox.cell 6
            simp at q0 q1 q2 q3 q4 q5 q6
            have hbox' := Lib.hid hbox
            clear hbox
            have hlv := World.ownsRow.alloc (hI'.out.lv.below hbW'.out (Nat.le_refl _)) (.cells #[Value.string ⟨E.key.toArray⟩, .string ⟨E.val.toArray⟩, .int .u8 (E.bits : Int), .int .u8 (E.um : Int), .int .u64 (E.exp : Int), .int .u32 (E.off : Int), .int .u32 (E.len : Int)] 30)
            have hlv' := Lib.hid hlv
            clear hlv
            go_wp2_with (at_builtin; refine wpList_appendN rfl (.tmp 39) (.tmp 41) 23 rfl w.heap.size 30 7 Tryz.underlying23 (by kernel_rfl) (by omega) _ s.l.length (entCs s.l) rfl hlv'.out ⟨W1.heap.size, 0, none⟩ 1 1 [Value.string ⟨E.key.toArray⟩, .string ⟨E.val.toArray⟩, .int .u8 (E.bits : Int), .int .u8 (E.um : Int), .int .u64 (E.exp : Int), .int .u32 (E.off : Int), .int .u32 (E.len : Int)] rfl rfl (bk_news (Bk.at_ _ _ _ _ rfl)) hone'.out (by omega) (by have h1 := hI'.out.bl.size; have h2 := hbW'.out.size; simp; omega) ?_; intro A' c' w3 hown3 hch3 hloc3)
            go_roundg (b.length + 1 - (s.at_ + E.len))
            case measure => omega
            case rel => exact ⟨⟨s.l ++ [E], s.op, s.ver, s.at_ + E.len, s.at_ + E.len⟩, by go_num, by go_num, rfl, rfl, hI'.out.push_l (below_alloc_ hbW'.out _) hch3 hown3 hloc3 hv0'.out hl0 hle hst'.out⟩
          · have hv1 : ((s.ver : Int) != 0) = true := by simp; omega
            have hst : lStep b s = .inr (s.l, s.fin, true) := by
              rw [hst0'.out]
              unfold lEnd
              rw [if_neg hT, if_neg hN, if_pos hv0]
            have hst' := Lib.hid hst
            have hT' := Lib.hid hT
            have hN' := Lib.hid hN
            have hT0' := Lib.hid hT0
            have hN0' := Lib.hid hN0
            have hv0' := Lib.hid hv0
            have hbW' := Lib.hid hbW
            clear hbW hv0 hN0 hT0 hN hT hst
            go_wp2_with fail
            go_ret3
            exact srl_done hr'.out hI'.out hst'.out hbW'.out
end Go.Proofs.YtpndlcjilgcfkaaGreatDoor
