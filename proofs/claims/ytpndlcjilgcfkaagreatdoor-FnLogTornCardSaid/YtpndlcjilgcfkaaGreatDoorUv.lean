/-
  Contract of binary.ReadUvarint over the hash reader.
-/
import Derived.Test.YtpndlcjilgcfkaaGreatDoorHr2
import Derived.Test.YtpndlcjilgcfkaaGreatDoorLogP
import Derived.Lib.VarintBits
import Derived.Laws.Closers25b
namespace Go.Proofs.YtpndlcjilgcfkaaGreatDoor
open Go Go.RowKit
open Go.Proofs

theorem eqSame (a : Addr) (W : World) : (binOp .eql 54 (.iface 191 (.pointer (some a))) (.iface 191 (.pointer (some a)))).run Tryz.prog W = .ok (.bool true) W := by
  obtain ⟨i, hi, hcmp⟩ := Option.map_eq_some_iff.1 (show (Tryz.prog.info? 191).map (·.comparable) = some true by kernel_rfl)
  obtain ⟨j, hj, hjs⟩ := Option.map_eq_some_iff.1 (show (Tryz.prog.info? 193).map (·.size) = some 1 by kernel_rfl)
  exact run_eql_iface_ptr_same W a Tryz.underlying54 Tryz.underlying191 hi hcmp hj

/-- An error of an end: io.EOF or io.ErrUnexpectedEOF. -/
def EndErr (w : World) (a : Addr) : Prop := w.cell? ⟨1, 0, none⟩ = some (.iface 191 (.pointer (some a))) ∨ w.cell? ⟨2, 0, none⟩ = some (.iface 191 (.pointer (some a)))

theorem crcMore_nil (x : Nat) (h : x < 4294967296) : crcMore x [] = x := by
  show 4294967295 - (4294967295 - x) = x
  omega

/-- The loop of ReadUvarint. -/
def UvRel (hb cb rb bb zb db x0 n0 : Nat) (l : List UInt8) (w : World) (k acc : Nat) (wr : World) : Prop :=
  k ≤ 9 ∧ k ≤ l.length ∧ acc < 2 ^ (7 * k) ∧ uvOf l = uvGo k acc (l.drop k) ∧ Hr hb cb rb bb zb db (crcMore x0 (l.take k)) (n0 + k) (l.drop k) wr ∧ Ch [hb, cb, rb, bb, zb] w wr

theorem uvRel_next {hb cb rb bb zb db x0 n0 : Nat} {l : List UInt8} {w : World} {k acc k2 acc2 : Nat} {wr w1 : World} {b : UInt8} {r : List UInt8} (h : UvRel hb cb rb bb zb db x0 n0 l w k acc wr) (hd : l.drop k = b :: r) (hx0 : x0 < 4294967296)
    (h1 : Hr hb cb rb bb zb db (crcMore (crcMore x0 (l.take k)) [b]) (n0 + k + 1) r w1) (hc : Ch [hb, cb, rb, bb, zb] wr w1) (hk : k < 9) (ha : acc2 < 2 ^ (7 * k2)) (hk2 : k2 = k + 1) (he : uvGo k acc (b :: r) = uvGo k2 acc2 r) :
    UvRel hb cb rb bb zb db x0 n0 l w k2 acc2 w1 := by
  subst hk2
  obtain ⟨a1, a2, a3, a4, a5, a6⟩ := h
  have hlt : k < l.length := by
    rcases Nat.lt_or_ge k l.length with h | h
    · exact h
    · rw [List.drop_eq_nil_of_le h] at hd; cases hd
  have hr : l.drop (k + 1) = r := by rw [← List.drop_drop, hd]; rfl
  have hb : l[k] = b := by
    have := List.drop_eq_getElem_cons hlt
    rw [hd] at this
    exact (List.cons.inj this).1.symm
  have ht : l.take (k + 1) = l.take k ++ [b] := by rw [List.take_succ_eq_append_getElem hlt, hb]
  refine ⟨by omega, by omega, ha, by rw [a4, hd, he, hr], ?_, a6.trans hc⟩
  rw [ht, ← crcMore_append x0 (l.take k) [b] hx0, hr]
  exact h1

theorem uvRel_end {hb cb rb bb zb db x0 n0 : Nat} {l : List UInt8} {w : World} {k acc : Nat} {wr w1 : World} {b : UInt8} {r : List UInt8} {v : Nat} (h : UvRel hb cb rb bb zb db x0 n0 l w k acc wr) (hd : l.drop k = b :: r) (hx0 : x0 < 4294967296)
    (h1 : Hr hb cb rb bb zb db (crcMore (crcMore x0 (l.take k)) [b]) (n0 + k + 1) r w1) (hc : Ch [hb, cb, rb, bb, zb] wr w1) (he : uvGo k acc (b :: r) = (v, ((k + 1 : Nat) : Int))) :
    uvOf l = (v, ((k + 1 : Nat) : Int)) ∧ k + 1 ≤ l.length ∧ Hr hb cb rb bb zb db (crcMore x0 (l.take (k + 1))) (n0 + (k + 1)) (l.drop (k + 1)) w1 ∧ Ch [hb, cb, rb, bb, zb] w w1 := by
  obtain ⟨a1, a2, a3, a4, a5, a6⟩ := h
  have hlt : k < l.length := by
    rcases Nat.lt_or_ge k l.length with h | h
    · exact h
    · rw [List.drop_eq_nil_of_le h] at hd; cases hd
  have hr : l.drop (k + 1) = r := by rw [← List.drop_drop, hd]; rfl
  have hb : l[k] = b := by
    have := List.drop_eq_getElem_cons hlt
    rw [hd] at this
    exact (List.cons.inj this).1.symm
  have ht : l.take (k + 1) = l.take k ++ [b] := by rw [List.take_succ_eq_append_getElem hlt, hb]
  refine ⟨by rw [a4, hd, he], hlt, ?_, a6.trans hc⟩
  rw [ht, ← crcMore_append x0 (l.take k) [b] hx0, hr]
  exact h1

/-- What ReadUvarint leaves. -/
def UvPost (hb cb rb bb zb db x0 n0 : Nat) (l : List UInt8) (w : World) (e : Ending) (w' : World) : Prop :=
  (∃ (v k : Nat), 0 < k ∧ uvOf l = (v, (k : Int)) ∧ k ≤ l.length ∧ e = .returned (.tuple #[.int .u64 (v : Int), .nilIface]) ∧ Hr hb cb rb bb zb db (crcMore x0 (l.take k)) (n0 + k) (l.drop k) w' ∧ Ch [hb, cb, rb, bb, zb] w w') ∨
  ((uvOf l).2 = 0 ∧ (∃ (v : Nat) (a : Addr), e = .returned (.tuple #[.int .u64 (v : Int), .iface 191 (.pointer (some a))]) ∧ EndErr w a) ∧ Ch [hb, cb, rb, bb, zb] w w')

set_option maxHeartbeats 32000000 in
set_option maxRecDepth 100000 in
theorem readUvarint_any (hb cb rb bb zb db x0 n0 : Nat) (l : List UInt8) (w : World) (hA : Apart6 hb cb rb bb zb db) (hgl : Gl w) (hr : Hr hb cb rb bb zb db x0 n0 l w) (hn2 : n0 + 10 ≤ 1099511627776) (hG : glN ≤ w.heap.size) (ho : 0 ≤ (uvOf l).2) :
    Calls Tryz.prog 90 #[.iface 173 (.pointer (some ⟨hb, 0, none⟩))] w (UvPost hb cb rb bb zb db x0 n0 l w) := by
  have hx0 := hr.hx
  have heqS := eqSame
  have ho' := Lib.hid ho
  have hr' := Lib.hid hr
  clear hr
  clear ho
  go_enter Tryz.func90, Tryz.ntmps90
  go_wp2_with fail
  go_loopw [4, 5, 6] (fun vx vs vi wr => ∃ k acc : Nat, vi = .int .i64 k ∧ vs = .int .u64 ((7 * k : Nat) : Int) ∧ vx = .int .u64 acc ∧ UvRel hb cb rb bb zb db x0 n0 l w k acc wr) (fun _ _ vi _ => 10 - (intOf vi).toNat)
  case atStart => exact ⟨0, 0, rfl, rfl, rfl, by omega, by omega, by decide, rfl, by rw [List.take_zero, crcMore_nil _ hx0]; exact hr'.out, Ch.refl _ _⟩
  case round =>
    obtain ⟨k, acc, rfl, rfl, rfl, hrel⟩ := hrel
    have hk9 := hrel.1
    have hacc := hrel.2.2.1
    have hglr := hgl.ch hrel.2.2.2.2.2 (by simp; exact ⟨hA.g4, hA.g5, hA.g1, hA.g2, hA.g3⟩)
    have hszr := hrel.2.2.2.2.2.size
    have hend : ∀ a, wr.cell? ⟨1, 0, none⟩ = some (.iface 191 (.pointer (some a))) → w.cell? ⟨1, 0, none⟩ = some (.iface 191 (.pointer (some a))) := fun a h => by
      have h1 := hA.g1; have h2 := hA.g2; have h3 := hA.g3; have h4 := hA.g4; have h5 := hA.g5
      unfold glN at h1 h2 h3 h4 h5
      rwa [hrel.2.2.2.2.2.cell 0 hgl.eof.lt (by simp; omega)] at h
    have hend' := Lib.hid hend
    have hend2 : ∀ a, wr.cell? ⟨2, 0, none⟩ = some (.iface 191 (.pointer (some a))) → w.cell? ⟨2, 0, none⟩ = some (.iface 191 (.pointer (some a))) := fun a h => by
      have h1 := hA.g1; have h2 := hA.g2; have h3 := hA.g3; have h4 := hA.g4; have h5 := hA.g5
      unfold glN at h1 h2 h3 h4 h5
      rwa [hrel.2.2.2.2.2.cell 0 hgl.un.lt (by simp; omega)] at h
    have hend2' := Lib.hid hend2
    clear hend hend2
    obtain ⟨a1, hu⟩ := hglr.un
    rcases hd : l.drop k with _ | ⟨b, r⟩
    · have h0 : uvOf l = (0, 0) := by rw [hrel.2.2.2.1, hd]; rfl
      have hrc := hrel.2.2.2.2.1
      rw [hd] at hrc
      have hcall := Lib.hid (readByte_end hb cb rb bb zb db _ _ wr hA hglr hrc (by omega))
      have hrel' := Lib.hid hrel
      have hd' := Lib.hid hd
      have h0' := Lib.hid h0
      clear hrel hd h0 hrc hacc hglr hgl
      have hks : k = 0 ∨ k = 1 ∨ k = 2 ∨ k = 3 ∨ k = 4 ∨ k = 5 ∨ k = 6 ∨ k = 7 ∨ k = 8 ∨ k = 9 := by omega
      by_cases hk0 : k = 0
      · subst hk0
        go_wp2_with fail
        refine hcall.out.mono ?_
        rintro e w1 ⟨⟨a, rfl, ha⟩, hr1, hc1⟩
        have hr1' := Lib.hid hr1
        have hc1' := Lib.hid hc1
        have ha' := Lib.hid ha
        clear ha hc1 hr1
        go_wp2_with fail
        go_ret2
        exact .inr ⟨by rw [h0'.out], ⟨_, a, rfl, .inl (hend'.out a ha'.out)⟩, hrel'.out.2.2.2.2.2.trans hc1'.out⟩
      · have hk1 : (0 : Int) < (k : Int) := by omega
        go_wp2_with fail
        refine hcall.out.mono ?_
        rintro e w1 ⟨⟨a, rfl, ha⟩, hr1, hc1⟩
        have u1 : w1.cell? ⟨2, 0, none⟩ = some (.iface 191 (.pointer (some a1))) := by
          have h1 := hA.g1; have h2 := hA.g2; have h3 := hA.g3; have h4 := hA.g4; have h5 := hA.g5
          unfold glN at h1 h2 h3 h4 h5
          rw [hc1.cell 0 (block_lt_of_cell hu) (by simp; omega)]
          exact hu
        have e1 : w1.cell? ⟨1, 0, none⟩ = some (.iface 191 (.pointer (some a))) := by
          have h1 := hA.g1; have h2 := hA.g2; have h3 := hA.g3; have h4 := hA.g4; have h5 := hA.g5
          unfold glN at h1 h2 h3 h4 h5
          rw [hc1.cell 0 (block_lt_of_cell ha) (by simp; omega)]
          exact ha
        have hr1' := Lib.hid hr1
        have hc1' := Lib.hid hc1
        have ha' := Lib.hid ha
        clear ha hc1 hr1
        go_wp2_with fail
        go_ret2
        exact .inr ⟨by rw [h0'.out], ⟨_, a1, rfl, .inr (hend2'.out a1 hu)⟩, hrel'.out.2.2.2.2.2.trans hc1'.out⟩
    · have hrc := hrel.2.2.2.2.1
      rw [hd] at hrc
      have hov : uvOf l = uvGo k acc (b :: r) := by rw [hrel.2.2.2.1, hd]
      have ho9 : ¬ (k = 9 ∧ 1 < b.toNat) := fun h => by
        have h2 := ho'.out
        rw [hov, uvGo, if_pos h] at h2
        simp at h2
      have hcall := Lib.hid (readByte_some hb cb rb bb zb db _ _ b r wr hA hrc (by omega))
      have hrel' := Lib.hid hrel
      have hd' := Lib.hid hd
      have hov' := Lib.hid hov
      clear hrel hd hrc hov hglr hgl hu
      have hb256 : b.toNat < 256 := b.toNat_lt
      have hks : k = 0 ∨ k = 1 ∨ k = 2 ∨ k = 3 ∨ k = 4 ∨ k = 5 ∨ k = 6 ∨ k = 7 ∨ k = 8 ∨ k = 9 := by omega
      rcases hks with rfl | rfl | rfl | rfl | rfl | rfl | rfl | rfl | rfl | rfl
      · obtain rfl : acc = 0 := by simpa using hacc
        by_cases hb : b.toNat < 128
        · have hor : bits .or .u64 0 (b.toNat : Int) = ((b.toNat : Nat) : Int) := by
            rw [u64_orv0 _ _ (by omega) (by omega) (by omega) (by omega) (by omega)]
            omega
          have hF : uvGo 0 0 (b :: r) = (b.toNat, ((0 + 1 : Nat) : Int)) := by simp [uvGo, hb]
          have hF' := Lib.hid hF
          clear hF
          go_wp2_with fail
          refine hcall.out.mono ?_
          rintro e w1 ⟨rfl, hr1, hc1⟩
          have hr1' := Lib.hid hr1
          have hc1' := Lib.hid hc1
          clear hr1 hc1
          go_wp2_with fail
          go_ret2
          obtain ⟨q1, q2, q3, q4⟩ := uvRel_end hrel'.out hd'.out hx0 hr1'.out hc1'.out hF'.out
          exact .inl ⟨_, _, by omega, q1, q2, rfl, q3, q4⟩
        · have hv : bits .or .u64 0 (IntKind.u64.wrap (IntKind.u64.wrap (bits .and .u8 (b.toNat : Int) 127))) = ((b.toNat % 128 : Nat) : Int) := by
            simp (disch := omega) only [u8_and127, u64_wrap_id, u64_orv0]
            omega
          have hF : uvGo 0 0 (b :: r) = uvGo 1 (b.toNat % 128) r := by simp [uvGo, hb]
          have hF' := Lib.hid hF
          clear hF
          go_wp2_with fail
          refine hcall.out.mono ?_
          rintro e w1 ⟨rfl, hr1, hc1⟩
          have hr1' := Lib.hid hr1
          have hc1' := Lib.hid hc1
          clear hr1 hc1
          go_wp2_with fail
          refine ⟨⟨1, b.toNat % 128, rfl, rfl, (by first | rfl | (congr 1; omega)), uvRel_next hrel'.out hd'.out hx0 hr1'.out hc1'.out (by omega) ?_ rfl hF'.out⟩, by simp [intOf]⟩
          show b.toNat % 128 < 2 ^ 7
          have e2 : (2 : Nat) ^ 7 = 128 := by decide
          omega
      · have hacc' : acc < 128 := by simpa using hacc
        by_cases hb : b.toNat < 128
        · have hor : bits .or .u64 (acc : Int) ((b.toNat : Int) * 128) = ((acc + b.toNat * 128 : Nat) : Int) := by
            rw [u64_orv7 _ _ (by omega) (by omega) (by omega) (by omega) (by omega)]
            omega
          have hF : uvGo 1 acc (b :: r) = (acc + b.toNat * 128, ((1 + 1 : Nat) : Int)) := by simp [uvGo, hb]
          have hF' := Lib.hid hF
          clear hF
          go_wp2_with fail
          refine hcall.out.mono ?_
          rintro e w1 ⟨rfl, hr1, hc1⟩
          have hr1' := Lib.hid hr1
          have hc1' := Lib.hid hc1
          clear hr1 hc1
          go_wp2_with fail
          go_ret2
          obtain ⟨q1, q2, q3, q4⟩ := uvRel_end hrel'.out hd'.out hx0 hr1'.out hc1'.out hF'.out
          exact .inl ⟨_, _, by omega, q1, q2, rfl, q3, q4⟩
        · have hv : bits .or .u64 (acc : Int) (IntKind.u64.wrap (IntKind.u64.wrap (bits .and .u8 (b.toNat : Int) 127) * 128)) = ((acc + b.toNat % 128 * 128 : Nat) : Int) := by
            simp (disch := omega) only [u8_and127, u64_wrap_id, u64_orv7]
            omega
          have hF : uvGo 1 acc (b :: r) = uvGo 2 (acc + b.toNat % 128 * 128) r := by simp [uvGo, hb]
          have hF' := Lib.hid hF
          clear hF
          go_wp2_with fail
          refine hcall.out.mono ?_
          rintro e w1 ⟨rfl, hr1, hc1⟩
          have hr1' := Lib.hid hr1
          have hc1' := Lib.hid hc1
          clear hr1 hc1
          go_wp2_with fail
          refine ⟨⟨2, acc + b.toNat % 128 * 128, rfl, rfl, (by first | rfl | (congr 1; omega)), uvRel_next hrel'.out hd'.out hx0 hr1'.out hc1'.out (by omega) ?_ rfl hF'.out⟩, by simp [intOf]⟩
          show acc + b.toNat % 128 * 128 < 2 ^ 14
          have e2 : (2 : Nat) ^ 14 = 16384 := by decide
          omega
      · have hacc' : acc < 16384 := by simpa using hacc
        by_cases hb : b.toNat < 128
        · have hor : bits .or .u64 (acc : Int) ((b.toNat : Int) * 16384) = ((acc + b.toNat * 16384 : Nat) : Int) := by
            rw [u64_orv14 _ _ (by omega) (by omega) (by omega) (by omega) (by omega)]
            omega
          have hF : uvGo 2 acc (b :: r) = (acc + b.toNat * 16384, ((2 + 1 : Nat) : Int)) := by simp [uvGo, hb]
          have hF' := Lib.hid hF
          clear hF
          go_wp2_with fail
          refine hcall.out.mono ?_
          rintro e w1 ⟨rfl, hr1, hc1⟩
          have hr1' := Lib.hid hr1
          have hc1' := Lib.hid hc1
          clear hr1 hc1
          go_wp2_with fail
          go_ret2
          obtain ⟨q1, q2, q3, q4⟩ := uvRel_end hrel'.out hd'.out hx0 hr1'.out hc1'.out hF'.out
          exact .inl ⟨_, _, by omega, q1, q2, rfl, q3, q4⟩
        · have hv : bits .or .u64 (acc : Int) (IntKind.u64.wrap (IntKind.u64.wrap (bits .and .u8 (b.toNat : Int) 127) * 16384)) = ((acc + b.toNat % 128 * 16384 : Nat) : Int) := by
            simp (disch := omega) only [u8_and127, u64_wrap_id, u64_orv14]
            omega
          have hF : uvGo 2 acc (b :: r) = uvGo 3 (acc + b.toNat % 128 * 16384) r := by simp [uvGo, hb]
          have hF' := Lib.hid hF
          clear hF
          go_wp2_with fail
          refine hcall.out.mono ?_
          rintro e w1 ⟨rfl, hr1, hc1⟩
          have hr1' := Lib.hid hr1
          have hc1' := Lib.hid hc1
          clear hr1 hc1
          go_wp2_with fail
          refine ⟨⟨3, acc + b.toNat % 128 * 16384, rfl, rfl, (by first | rfl | (congr 1; omega)), uvRel_next hrel'.out hd'.out hx0 hr1'.out hc1'.out (by omega) ?_ rfl hF'.out⟩, by simp [intOf]⟩
          show acc + b.toNat % 128 * 16384 < 2 ^ 21
          have e2 : (2 : Nat) ^ 21 = 2097152 := by decide
          omega
      · have hacc' : acc < 2097152 := by simpa using hacc
        by_cases hb : b.toNat < 128
        · have hor : bits .or .u64 (acc : Int) ((b.toNat : Int) * 2097152) = ((acc + b.toNat * 2097152 : Nat) : Int) := by
            rw [u64_orv21 _ _ (by omega) (by omega) (by omega) (by omega) (by omega)]
            omega
          have hF : uvGo 3 acc (b :: r) = (acc + b.toNat * 2097152, ((3 + 1 : Nat) : Int)) := by simp [uvGo, hb]
          have hF' := Lib.hid hF
          clear hF
          go_wp2_with fail
          refine hcall.out.mono ?_
          rintro e w1 ⟨rfl, hr1, hc1⟩
          have hr1' := Lib.hid hr1
          have hc1' := Lib.hid hc1
          clear hr1 hc1
          go_wp2_with fail
          go_ret2
          obtain ⟨q1, q2, q3, q4⟩ := uvRel_end hrel'.out hd'.out hx0 hr1'.out hc1'.out hF'.out
          exact .inl ⟨_, _, by omega, q1, q2, rfl, q3, q4⟩
        · have hv : bits .or .u64 (acc : Int) (IntKind.u64.wrap (IntKind.u64.wrap (bits .and .u8 (b.toNat : Int) 127) * 2097152)) = ((acc + b.toNat % 128 * 2097152 : Nat) : Int) := by
            simp (disch := omega) only [u8_and127, u64_wrap_id, u64_orv21]
            omega
          have hF : uvGo 3 acc (b :: r) = uvGo 4 (acc + b.toNat % 128 * 2097152) r := by simp [uvGo, hb]
          have hF' := Lib.hid hF
          clear hF
          go_wp2_with fail
          refine hcall.out.mono ?_
          rintro e w1 ⟨rfl, hr1, hc1⟩
          have hr1' := Lib.hid hr1
          have hc1' := Lib.hid hc1
          clear hr1 hc1
          go_wp2_with fail
          refine ⟨⟨4, acc + b.toNat % 128 * 2097152, rfl, rfl, (by first | rfl | (congr 1; omega)), uvRel_next hrel'.out hd'.out hx0 hr1'.out hc1'.out (by omega) ?_ rfl hF'.out⟩, by simp [intOf]⟩
          show acc + b.toNat % 128 * 2097152 < 2 ^ 28
          have e2 : (2 : Nat) ^ 28 = 268435456 := by decide
          omega
      · have hacc' : acc < 268435456 := by simpa using hacc
        by_cases hb : b.toNat < 128
        · have hor : bits .or .u64 (acc : Int) ((b.toNat : Int) * 268435456) = ((acc + b.toNat * 268435456 : Nat) : Int) := by
            rw [u64_orv28 _ _ (by omega) (by omega) (by omega) (by omega) (by omega)]
            omega
          have hF : uvGo 4 acc (b :: r) = (acc + b.toNat * 268435456, ((4 + 1 : Nat) : Int)) := by simp [uvGo, hb]
          have hF' := Lib.hid hF
          clear hF
          go_wp2_with fail
          refine hcall.out.mono ?_
          rintro e w1 ⟨rfl, hr1, hc1⟩
          have hr1' := Lib.hid hr1
          have hc1' := Lib.hid hc1
          clear hr1 hc1
          go_wp2_with fail
          go_ret2
          obtain ⟨q1, q2, q3, q4⟩ := uvRel_end hrel'.out hd'.out hx0 hr1'.out hc1'.out hF'.out
          exact .inl ⟨_, _, by omega, q1, q2, rfl, q3, q4⟩
        · have hv : bits .or .u64 (acc : Int) (IntKind.u64.wrap (IntKind.u64.wrap (bits .and .u8 (b.toNat : Int) 127) * 268435456)) = ((acc + b.toNat % 128 * 268435456 : Nat) : Int) := by
            simp (disch := omega) only [u8_and127, u64_wrap_id, u64_orv28]
            omega
          have hF : uvGo 4 acc (b :: r) = uvGo 5 (acc + b.toNat % 128 * 268435456) r := by simp [uvGo, hb]
          have hF' := Lib.hid hF
          clear hF
          go_wp2_with fail
          refine hcall.out.mono ?_
          rintro e w1 ⟨rfl, hr1, hc1⟩
          have hr1' := Lib.hid hr1
          have hc1' := Lib.hid hc1
          clear hr1 hc1
          go_wp2_with fail
          refine ⟨⟨5, acc + b.toNat % 128 * 268435456, rfl, rfl, (by first | rfl | (congr 1; omega)), uvRel_next hrel'.out hd'.out hx0 hr1'.out hc1'.out (by omega) ?_ rfl hF'.out⟩, by simp [intOf]⟩
          show acc + b.toNat % 128 * 268435456 < 2 ^ 35
          have e2 : (2 : Nat) ^ 35 = 34359738368 := by decide
          omega
      · have hacc' : acc < 34359738368 := by simpa using hacc
        by_cases hb : b.toNat < 128
        · have hor : bits .or .u64 (acc : Int) ((b.toNat : Int) * 34359738368) = ((acc + b.toNat * 34359738368 : Nat) : Int) := by
            rw [u64_orv35 _ _ (by omega) (by omega) (by omega) (by omega) (by omega)]
            omega
          have hF : uvGo 5 acc (b :: r) = (acc + b.toNat * 34359738368, ((5 + 1 : Nat) : Int)) := by simp [uvGo, hb]
          have hF' := Lib.hid hF
          clear hF
          go_wp2_with fail
          refine hcall.out.mono ?_
          rintro e w1 ⟨rfl, hr1, hc1⟩
          have hr1' := Lib.hid hr1
          have hc1' := Lib.hid hc1
          clear hr1 hc1
          go_wp2_with fail
          go_ret2
          obtain ⟨q1, q2, q3, q4⟩ := uvRel_end hrel'.out hd'.out hx0 hr1'.out hc1'.out hF'.out
          exact .inl ⟨_, _, by omega, q1, q2, rfl, q3, q4⟩
        · have hv : bits .or .u64 (acc : Int) (IntKind.u64.wrap (IntKind.u64.wrap (bits .and .u8 (b.toNat : Int) 127) * 34359738368)) = ((acc + b.toNat % 128 * 34359738368 : Nat) : Int) := by
            simp (disch := omega) only [u8_and127, u64_wrap_id, u64_orv35]
            omega
          have hF : uvGo 5 acc (b :: r) = uvGo 6 (acc + b.toNat % 128 * 34359738368) r := by simp [uvGo, hb]
          have hF' := Lib.hid hF
          clear hF
          go_wp2_with fail
          refine hcall.out.mono ?_
          rintro e w1 ⟨rfl, hr1, hc1⟩
          have hr1' := Lib.hid hr1
          have hc1' := Lib.hid hc1
          clear hr1 hc1
          go_wp2_with fail
          refine ⟨⟨6, acc + b.toNat % 128 * 34359738368, rfl, rfl, (by first | rfl | (congr 1; omega)), uvRel_next hrel'.out hd'.out hx0 hr1'.out hc1'.out (by omega) ?_ rfl hF'.out⟩, by simp [intOf]⟩
          show acc + b.toNat % 128 * 34359738368 < 2 ^ 42
          have e2 : (2 : Nat) ^ 42 = 4398046511104 := by decide
          omega
      · have hacc' : acc < 4398046511104 := by simpa using hacc
        by_cases hb : b.toNat < 128
        · have hor : bits .or .u64 (acc : Int) ((b.toNat : Int) * 4398046511104) = ((acc + b.toNat * 4398046511104 : Nat) : Int) := by
            rw [u64_orv42 _ _ (by omega) (by omega) (by omega) (by omega) (by omega)]
            omega
          have hF : uvGo 6 acc (b :: r) = (acc + b.toNat * 4398046511104, ((6 + 1 : Nat) : Int)) := by simp [uvGo, hb]
          have hF' := Lib.hid hF
          clear hF
          go_wp2_with fail
          refine hcall.out.mono ?_
          rintro e w1 ⟨rfl, hr1, hc1⟩
          have hr1' := Lib.hid hr1
          have hc1' := Lib.hid hc1
          clear hr1 hc1
          go_wp2_with fail
          go_ret2
          obtain ⟨q1, q2, q3, q4⟩ := uvRel_end hrel'.out hd'.out hx0 hr1'.out hc1'.out hF'.out
          exact .inl ⟨_, _, by omega, q1, q2, rfl, q3, q4⟩
        · have hv : bits .or .u64 (acc : Int) (IntKind.u64.wrap (IntKind.u64.wrap (bits .and .u8 (b.toNat : Int) 127) * 4398046511104)) = ((acc + b.toNat % 128 * 4398046511104 : Nat) : Int) := by
            simp (disch := omega) only [u8_and127, u64_wrap_id, u64_orv42]
            omega
          have hF : uvGo 6 acc (b :: r) = uvGo 7 (acc + b.toNat % 128 * 4398046511104) r := by simp [uvGo, hb]
          have hF' := Lib.hid hF
          clear hF
          go_wp2_with fail
          refine hcall.out.mono ?_
          rintro e w1 ⟨rfl, hr1, hc1⟩
          have hr1' := Lib.hid hr1
          have hc1' := Lib.hid hc1
          clear hr1 hc1
          go_wp2_with fail
          refine ⟨⟨7, acc + b.toNat % 128 * 4398046511104, rfl, rfl, (by first | rfl | (congr 1; omega)), uvRel_next hrel'.out hd'.out hx0 hr1'.out hc1'.out (by omega) ?_ rfl hF'.out⟩, by simp [intOf]⟩
          show acc + b.toNat % 128 * 4398046511104 < 2 ^ 49
          have e2 : (2 : Nat) ^ 49 = 562949953421312 := by decide
          omega
      · have hacc' : acc < 562949953421312 := by simpa using hacc
        by_cases hb : b.toNat < 128
        · have hor : bits .or .u64 (acc : Int) ((b.toNat : Int) * 562949953421312) = ((acc + b.toNat * 562949953421312 : Nat) : Int) := by
            rw [u64_orv49 _ _ (by omega) (by omega) (by omega) (by omega) (by omega)]
            omega
          have hF : uvGo 7 acc (b :: r) = (acc + b.toNat * 562949953421312, ((7 + 1 : Nat) : Int)) := by simp [uvGo, hb]
          have hF' := Lib.hid hF
          clear hF
          go_wp2_with fail
          refine hcall.out.mono ?_
          rintro e w1 ⟨rfl, hr1, hc1⟩
          have hr1' := Lib.hid hr1
          have hc1' := Lib.hid hc1
          clear hr1 hc1
          go_wp2_with fail
          go_ret2
          obtain ⟨q1, q2, q3, q4⟩ := uvRel_end hrel'.out hd'.out hx0 hr1'.out hc1'.out hF'.out
          exact .inl ⟨_, _, by omega, q1, q2, rfl, q3, q4⟩
        · have hv : bits .or .u64 (acc : Int) (IntKind.u64.wrap (IntKind.u64.wrap (bits .and .u8 (b.toNat : Int) 127) * 562949953421312)) = ((acc + b.toNat % 128 * 562949953421312 : Nat) : Int) := by
            simp (disch := omega) only [u8_and127, u64_wrap_id, u64_orv49]
            omega
          have hF : uvGo 7 acc (b :: r) = uvGo 8 (acc + b.toNat % 128 * 562949953421312) r := by simp [uvGo, hb]
          have hF' := Lib.hid hF
          clear hF
          go_wp2_with fail
          refine hcall.out.mono ?_
          rintro e w1 ⟨rfl, hr1, hc1⟩
          have hr1' := Lib.hid hr1
          have hc1' := Lib.hid hc1
          clear hr1 hc1
          go_wp2_with fail
          refine ⟨⟨8, acc + b.toNat % 128 * 562949953421312, rfl, rfl, (by first | rfl | (congr 1; omega)), uvRel_next hrel'.out hd'.out hx0 hr1'.out hc1'.out (by omega) ?_ rfl hF'.out⟩, by simp [intOf]⟩
          show acc + b.toNat % 128 * 562949953421312 < 2 ^ 56
          have e2 : (2 : Nat) ^ 56 = 72057594037927936 := by decide
          omega
      · have hacc' : acc < 72057594037927936 := by simpa using hacc
        by_cases hb : b.toNat < 128
        · have hor : bits .or .u64 (acc : Int) ((b.toNat : Int) * 72057594037927936) = ((acc + b.toNat * 72057594037927936 : Nat) : Int) := by
            rw [u64_orv56 _ _ (by omega) (by omega) (by omega) (by omega) (by omega)]
            omega
          have hF : uvGo 8 acc (b :: r) = (acc + b.toNat * 72057594037927936, ((8 + 1 : Nat) : Int)) := by simp [uvGo, hb]
          have hF' := Lib.hid hF
          clear hF
          go_wp2_with fail
          refine hcall.out.mono ?_
          rintro e w1 ⟨rfl, hr1, hc1⟩
          have hr1' := Lib.hid hr1
          have hc1' := Lib.hid hc1
          clear hr1 hc1
          go_wp2_with fail
          go_ret2
          obtain ⟨q1, q2, q3, q4⟩ := uvRel_end hrel'.out hd'.out hx0 hr1'.out hc1'.out hF'.out
          exact .inl ⟨_, _, by omega, q1, q2, rfl, q3, q4⟩
        · have hv : bits .or .u64 (acc : Int) (IntKind.u64.wrap (IntKind.u64.wrap (bits .and .u8 (b.toNat : Int) 127) * 72057594037927936)) = ((acc + b.toNat % 128 * 72057594037927936 : Nat) : Int) := by
            simp (disch := omega) only [u8_and127, u64_wrap_id, u64_orv56]
            omega
          have hF : uvGo 8 acc (b :: r) = uvGo 9 (acc + b.toNat % 128 * 72057594037927936) r := by simp [uvGo, hb]
          have hF' := Lib.hid hF
          clear hF
          go_wp2_with fail
          refine hcall.out.mono ?_
          rintro e w1 ⟨rfl, hr1, hc1⟩
          have hr1' := Lib.hid hr1
          have hc1' := Lib.hid hc1
          clear hr1 hc1
          go_wp2_with fail
          refine ⟨⟨9, acc + b.toNat % 128 * 72057594037927936, rfl, rfl, (by first | rfl | (congr 1; omega)), uvRel_next hrel'.out hd'.out hx0 hr1'.out hc1'.out (by omega) ?_ rfl hF'.out⟩, by simp [intOf]⟩
          show acc + b.toNat % 128 * 72057594037927936 < 2 ^ 63
          have e2 : (2 : Nat) ^ 63 = 9223372036854775808 := by decide
          omega
      · have hacc' : acc < 9223372036854775808 := by simpa using hacc
        have hb1 : ¬ 1 < b.toNat := fun h => ho9 ⟨rfl, h⟩
        have hb : b.toNat < 128 := by omega
        have hor : bits .or .u64 (acc : Int) ((b.toNat : Int) * 9223372036854775808) = ((acc + b.toNat * 9223372036854775808 : Nat) : Int) := by
          rw [u64_orv63 _ _ (by omega) (by omega) (by omega) (by omega) (by omega)]
          omega
        have hF : uvGo 9 acc (b :: r) = (acc + b.toNat * 9223372036854775808, ((9 + 1 : Nat) : Int)) := by simp [uvGo, hb, hb1]
        have hF' := Lib.hid hF
        clear hF
        go_wp2_with fail
        refine hcall.out.mono ?_
        rintro e w1 ⟨rfl, hr1, hc1⟩
        have hr1' := Lib.hid hr1
        have hc1' := Lib.hid hc1
        clear hr1 hc1
        go_wp2_with fail
        go_ret2
        obtain ⟨q1, q2, q3, q4⟩ := uvRel_end hrel'.out hd'.out hx0 hr1'.out hc1'.out hF'.out
        exact .inl ⟨_, _, by omega, q1, q2, rfl, q3, q4⟩
end Go.Proofs.YtpndlcjilgcfkaaGreatDoor
