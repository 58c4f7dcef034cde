/-
  Contract of header.DecodeFrom: the head of an entry, read off the hash reader.
-/
import Derived.Test.YtpndlcjilgcfkaaGreatDoorUv
namespace Go.Proofs.YtpndlcjilgcfkaaGreatDoor
open Go Go.RowKit
open Go.Proofs

/-- A header as cells. -/
def hdC (k v x m u : Nat) : Array Value := #[.int .u32 (k : Int), .int .u32 (v : Int), .int .u64 (x : Int), .int .u8 (m : Int), .int .u8 (u : Int)]

/-- The head of an entry stands there whole. -/
def DecOk (l : List UInt8) (k v x m u n : Nat) : Prop :=
  ∃ a b c : Nat, 0 < a ∧ 0 < b ∧ 0 < c ∧ uvOf (l.drop 2) = (k, (a : Int)) ∧ uvOf (l.drop (2 + a)) = (v, (b : Int)) ∧ uvOf (l.drop (2 + a + b)) = (x, (c : Int)) ∧ n = 2 + a + b + c ∧ n ≤ l.length ∧ m = (l.getD 0 0).toNat ∧ u = (l.getD 1 0).toNat

theorem decOk_entry {l : List UInt8} {k v x m u n : Nat} (h : DecOk l k v x m u n) (o : Nat) : entryAt l o =
    if 4294967295 < k ∨ 1048576 < v then .bad else
    if 65536 < k ∨ l.length < n + k + v + 4 ∨ Lib.beNat ((l.drop (n + k + v)).take 4) ≠ crc32 (l.take (n + k + v)) then .stop else
    if k = 0 then .stop else .got ⟨(l.drop n).take k, (l.drop (n + k)).take v, m, u, x, o, n + k + v + 4⟩ := by
  obtain ⟨a, b, c, ha, hb, hc, h1, h2, h3, rfl, h4, rfl, rfl⟩ := h
  unfold entryAt
  rw [if_neg (by omega)]
  simp only [h1, h2, h3, Int.toNat_natCast]
  rw [if_neg (by omega), if_neg (by omega), if_neg (by omega)]

/-- The head of an entry does not stand there whole. -/
def DecNo (l : List UInt8) : Prop := ∀ o, entryAt l o = .stop

theorem decNo_short {l : List UInt8} (h : l.length < 2) : DecNo l := fun o => by unfold entryAt; rw [if_pos h]
theorem decNo_one {l : List UInt8} (h : 2 ≤ l.length) (h1 : (uvOf (l.drop 2)).2 = 0) : DecNo l := fun o => by
  unfold entryAt; rw [if_neg (by omega), if_pos (by omega), if_pos h1]
theorem decNo_two {l : List UInt8} {a k : Nat} (h : 2 ≤ l.length) (h1 : uvOf (l.drop 2) = (k, (a : Int))) (ha : 0 < a) (h2 : (uvOf (l.drop (2 + a))).2 = 0) : DecNo l := fun o => by
  unfold entryAt
  rw [if_neg (by omega)]
  simp only [h1, Int.toNat_natCast]
  rw [if_neg (by omega), if_pos (by omega), if_pos h2]
theorem decNo_three {l : List UInt8} {a k b v : Nat} (h : 2 ≤ l.length) (h1 : uvOf (l.drop 2) = (k, (a : Int))) (ha : 0 < a) (h2 : uvOf (l.drop (2 + a)) = (v, (b : Int))) (hb : 0 < b) (h3 : (uvOf (l.drop (2 + a + b))).2 = 0) : DecNo l := fun o => by
  unfold entryAt
  rw [if_neg (by omega)]
  simp only [h1, h2, Int.toNat_natCast]
  rw [if_neg (by omega), if_neg (by omega), if_pos (by omega), if_pos h3]
/-- What is not said of. -/
theorem notBad_one {l : List UInt8} {o : Nat} (hb : entryAt l o ≠ .bad) (h : 2 ≤ l.length) : 0 ≤ (uvOf (l.drop 2)).2 := by
  rcases Int.lt_or_le (uvOf (l.drop 2)).2 0 with h0 | h0
  · exfalso
    apply hb
    unfold entryAt
    rw [if_neg (by omega), if_pos (by omega), if_neg (by omega)]
  · exact h0
theorem notBad_two {l : List UInt8} {o a k : Nat} (hb : entryAt l o ≠ .bad) (h : 2 ≤ l.length) (h1 : uvOf (l.drop 2) = (k, (a : Int))) (ha : 0 < a) : 0 ≤ (uvOf (l.drop (2 + a))).2 := by
  rcases Int.lt_or_le (uvOf (l.drop (2 + a))).2 0 with h0 | h0
  · exfalso
    apply hb
    unfold entryAt
    rw [if_neg (by omega)]
    simp only [h1, Int.toNat_natCast]
    rw [if_neg (by omega), if_pos (by omega), if_neg (by omega)]
  · exact h0
theorem notBad_three {l : List UInt8} {o a k b v : Nat} (hbd : entryAt l o ≠ .bad) (h : 2 ≤ l.length) (h1 : uvOf (l.drop 2) = (k, (a : Int))) (ha : 0 < a) (h2 : uvOf (l.drop (2 + a)) = (v, (b : Int))) (hb : 0 < b) : 0 ≤ (uvOf (l.drop (2 + a + b))).2 := by
  rcases Int.lt_or_le (uvOf (l.drop (2 + a + b))).2 0 with h0 | h0
  · exfalso
    apply hbd
    unfold entryAt
    rw [if_neg (by omega)]
    simp only [h1, h2, Int.toNat_natCast]
    rw [if_neg (by omega), if_neg (by omega), if_pos (by omega), if_neg (by omega)]
  · exact h0

/-- What DecodeFrom leaves. -/
def DecPost (xb hb cb rb bb zb db : Nat) (l : List UInt8) (w : World) (e : Ending) (w' : World) : Prop :=
  (∃ k v x m u n : Nat, DecOk l k v x m u n ∧ e = .returned (.tuple #[.int .i64 (n : Int), .nilIface]) ∧ Bk w' xb 145 (hdC (k % 4294967296) (v % 4294967296) x m u) ∧ Hr hb cb rb bb zb db (crcMore 0 (l.take n)) n (l.drop n) w' ∧ Ch [xb, hb, cb, rb, bb, zb] w w') ∨
  (DecNo l ∧ (∃ (v : Value) (a : Addr), e = .returned (.tuple #[v, .iface 191 (.pointer (some a))]) ∧ EndErr w a) ∧ Ch [xb, hb, cb, rb, bb, zb] w w')

theorem EndErr.back {S : List Nat} {w w' : World} {a : Addr} (h : EndErr w' a) (hgl : Gl w) (hc : Ch S w w') (hS : ∀ k, k ∈ S → glN ≤ k) : EndErr w a := by
  have h1 : 1 ∉ S := fun hm => by have := hS _ hm; unfold glN at this; omega
  have h2 : 2 ∉ S := fun hm => by have := hS _ hm; unfold glN at this; omega
  rcases h with h | h
  · exact .inl (by rwa [hc.cell 0 hgl.eof.lt h1] at h)
  · exact .inr (by rwa [hc.cell 0 hgl.un.lt h2] at h)
theorem EndErr.eof {w : World} {a : Addr} (h : w.cell? ⟨1, 0, none⟩ = some (.iface 191 (.pointer (some a)))) : EndErr w a := .inl h


section
variable {xb hb cb rb bb zb db : Nat} {a b W : World}
theorem Ch.up6 (h : Ch [hb, cb, rb, bb, zb] a b) : Ch [xb, hb, cb, rb, bb, zb] a b := h.mono (fun _ hy => .inl (List.mem_cons_of_mem _ hy))
theorem Ch.at6 {i : Nat} {u : Value} : Ch [xb, hb, cb, rb, bb, zb] W (W.setCell ⟨xb, i, none⟩ u) := (Ch.refl _ W).setCell (p := ⟨xb, i, none⟩) (.inl (by simp)) u
theorem Hr.at6 {i : Nat} {u : Value} {x n : Nat} {r : List UInt8} (h : Hr hb cb rb bb zb db x n r W) (hxn : xb ∉ [hb, cb, rb, bb, zb]) (hxd : xb ≠ db) : Hr hb cb rb bb zb db x n r (W.setCell ⟨xb, i, none⟩ u) := by
  simp at hxn
  exact h.ch (S := [xb]) ((Ch.refl [xb] W).setCell (p := ⟨xb, i, none⟩) (.inl (by simp)) u) (by simp; omega) (by simp; omega) (by simp; omega) (by simp; omega) (by simp; omega) (by simp; omega)
theorem Hr.acc {l : List UInt8} {i j : Nat} (h : Hr hb cb rb bb zb db (crcMore (crcMore 0 (l.take i)) ((l.drop i).take j)) (i + j) ((l.drop i).drop j) W) : Hr hb cb rb bb zb db (crcMore 0 (l.take (i + j))) (i + j) (l.drop (i + j)) W := by
  rw [crcMore_append _ _ _ (by omega), ← List.take_add, List.drop_drop] at h
  exact h
end

theorem u32_wrap_mod (v : Nat) : IntKind.u32.wrap (v : Int) = ((v % 4294967296 : Nat) : Int) := by
  have h : IntKind.u32.wrap (v : Int) = (v : Int) % 4294967296 := rfl
  rw [h]
  omega

set_option maxHeartbeats 8000000 in
set_option maxRecDepth 100000 in
theorem decode_any (xb hb cb rb bb zb db o : Nat) (l : List UInt8) (w : World) (hA : Apart6 hb cb rb bb zb db) (hgl : Gl w) (hr : Hr hb cb rb bb zb db 0 0 l w) (hG : glN ≤ w.heap.size) (hX : Bk w xb 145 (hdC 0 0 0 0 0)) (hxg : glN ≤ xb)
    (hxn : xb ∉ [hb, cb, rb, bb, zb]) (hxd : xb ≠ db) (hbad : entryAt l o ≠ .bad) (hlen : l.length ≤ 1099511600000) :
    Calls Tryz.prog 75 #[.pointer (some ⟨xb, 0, none⟩), .pointer (some ⟨hb, 0, none⟩)] w (DecPost xb hb cb rb bb zb db l w) := by
  have hS6 : ∀ k, k ∈ [xb, hb, cb, rb, bb, zb] → glN ≤ k := by simp; exact ⟨hxg, hA.g4, hA.g5, hA.g1, hA.g2, hA.g3⟩
  rcases hl : l with _ | ⟨m, _ | ⟨u, r⟩⟩
  · subst hl
    have hcall := Lib.hid (readByte_end hb cb rb bb zb db 0 0 w hA hgl hr hG)
    have hr' := Lib.hid hr
    have hX' := Lib.hid hX
    clear hX hr
    go_enter Tryz.func75, Tryz.ntmps75
    go_wp2_with fail
    refine hcall.out.mono ?_
    rintro e w1 ⟨⟨a, rfl, ha⟩, hr1, hc1⟩
    have x1 := hX'.out.ch hc1 hxn
    have d3 := x1.cell 3
    have f3 := x1.free 3
    simp [hdC] at d3
    have hr1' := Lib.hid hr1
    have hc1' := Lib.hid hc1
    have ha' := Lib.hid ha
    have x1' := Lib.hid x1
    clear x1 ha hc1 hr1
    go_wp2_with fail
    go_ret2
    exact .inr ⟨decNo_short (by simp), ⟨_, a, rfl, .inl ha'.out⟩, hc1'.out.up6.trans Ch.at6⟩
  · subst hl
    have hcall := Lib.hid (readByte_some hb cb rb bb zb db 0 0 m [] w hA hr (by omega))
    have hr' := Lib.hid hr
    have hX' := Lib.hid hX
    clear hX hr
    go_enter Tryz.func75, Tryz.ntmps75
    go_wp2_with fail
    refine hcall.out.mono ?_
    rintro e w1 ⟨rfl, hr1, hc1⟩
    have x1 := hX'.out.ch hc1 hxn
    have d3 := x1.cell 3
    have f3 := x1.free 3
    simp [hdC] at d3
    have hcB : Ch [xb, hb, cb, rb, bb, zb] w (w1.setCell ⟨xb, 3, none⟩ (.int .u8 (m.toNat : Int))) := hc1.up6.trans Ch.at6
    have hcall2 := Lib.hid (readByte_end hb cb rb bb zb db _ _ (w1.setCell ⟨xb, 3, none⟩ (.int .u8 (m.toNat : Int))) hA (hgl.ch hcB hS6) (hr1.at6 hxn hxd) (by have := hcB.size; omega))
    have x1' := Lib.hid (x1.set 3 (.int .u8 (m.toNat : Int)))
    clear x1
    have hr1' := Lib.hid hr1
    have hc1' := Lib.hid hc1
    have hcB' := Lib.hid hcB
    clear hcB hc1 hr1
    go_wp2_with fail
    refine hcall2.out.mono ?_
    rintro e w2 ⟨⟨a, rfl, ha⟩, hr2, hc2⟩
    have x2 := x1'.out.ch hc2 hxn
    have d4 := x2.cell 4
    have f4 := x2.free 4
    simp [hdC] at d4
    have hr2' := Lib.hid hr2
    have hc2' := Lib.hid hc2
    have ha' := Lib.hid ha
    have x2' := Lib.hid x2
    clear x2 ha hc2 hr2
    go_wp2_with fail
    go_ret2
    exact .inr ⟨decNo_short (by simp), ⟨_, a, rfl, (EndErr.eof ha'.out).back hgl hcB'.out hS6⟩, (hcB'.out.trans hc2'.out.up6).trans Ch.at6⟩
  · have hl2 : 2 ≤ l.length := by rw [hl]; simp
    have hl' := Lib.hid hl
    rw [hl] at hr
    have hcall := Lib.hid (readByte_some hb cb rb bb zb db 0 0 m (u :: r) w hA hr (by omega))
    have hn1 := Lib.hid (notBad_one hbad hl2)
    have hbad' := Lib.hid hbad
    rw [← hl]
    clear hbad hl
    have hr' := Lib.hid hr
    have hX' := Lib.hid hX
    clear hX hr
    go_enter Tryz.func75, Tryz.ntmps75
    go_wp2_with fail
    refine hcall.out.mono ?_
    rintro e w1 ⟨rfl, hr1, hc1⟩
    have x1 := hX'.out.ch hc1 hxn
    have d3 := x1.cell 3
    have f3 := x1.free 3
    simp [hdC] at d3
    have hcB : Ch [xb, hb, cb, rb, bb, zb] w (w1.setCell ⟨xb, 3, none⟩ (.int .u8 (m.toNat : Int))) := hc1.up6.trans Ch.at6
    have hcall2 := Lib.hid (readByte_some hb cb rb bb zb db _ _ u r (w1.setCell ⟨xb, 3, none⟩ (.int .u8 (m.toNat : Int))) hA (hr1.at6 hxn hxd) (by omega))
    have x1' := Lib.hid (x1.set 3 (.int .u8 (m.toNat : Int)))
    clear x1
    have hr1' := Lib.hid hr1
    have hc1' := Lib.hid hc1
    have hcB' := Lib.hid hcB
    clear hcB hc1 hr1
    go_wp2_with fail
    refine hcall2.out.mono ?_
    rintro e w2 ⟨rfl, hr2, hc2⟩
    have x2 := x1'.out.ch hc2 hxn
    have d4 := x2.cell 4
    have f4 := x2.free 4
    simp [hdC] at d4
    have hcC : Ch [xb, hb, cb, rb, bb, zb] w (w2.setCell ⟨xb, 4, none⟩ (.int .u8 (u.toNat : Int))) := (hcB'.out.trans hc2.up6).trans Ch.at6
    have hr3 : Hr hb cb rb bb zb db (crcMore 0 (l.take 2)) 2 (l.drop 2) (w2.setCell ⟨xb, 4, none⟩ (.int .u8 (u.toNat : Int))) := by
      have h := hr2.at6 (i := 4) (u := .int .u8 (u.toNat : Int)) hxn hxd
      rw [crcMore_append _ _ _ (by omega)] at h
      rw [hl'.out]
      exact h
    have x3 : Bk (w2.setCell ⟨xb, 4, none⟩ (.int .u8 (u.toNat : Int))) xb 145 (hdC 0 0 0 m.toNat u.toNat) := by simpa [hdC] using x2.set 4 (.int .u8 (u.toNat : Int))
    have hcall3 := Lib.hid (readUvarint_any hb cb rb bb zb db _ _ _ _ hA (hgl.ch hcC hS6) hr3 (by omega) (by have := hcC.size; omega) hn1.out)
    have hm : (m.toNat) = (l.getD 0 0).toNat := by rw [hl'.out]; rfl
    have hu : (u.toNat) = (l.getD 1 0).toNat := by rw [hl'.out]; rfl
    clear x2 hr2 hc2 hr1' hc1' hr3
    have hcC' := Lib.hid hcC
    have x3' := Lib.hid x3
    have hm' := Lib.hid hm
    have hu' := Lib.hid hu
    clear hu hm x3 hcC
    go_wp2_with fail
    refine hcall3.out.mono ?_
    rintro e w3 (⟨k, a, ha, hk, hal, rfl, hr4, hc4⟩ | ⟨h0, ⟨v0, ae, rfl, hae⟩, hc4⟩)
    · obtain ⟨K, hK⟩ : ∃ K, k % 4294967296 = K := ⟨_, rfl⟩
      have wK : IntKind.u32.wrap (k : Int) = (K : Int) := by rw [u32_wrap_mod, hK]
      have x4 := x3'.out.ch hc4 hxn
      have d0 := x4.cell 0
      have f0 := x4.free 0
      simp [hdC] at d0
      have hcD : Ch [xb, hb, cb, rb, bb, zb] w (w3.setCell ⟨xb, 0, none⟩ (.int .u32 (K : Int))) := (hcC'.out.trans hc4.up6).trans Ch.at6
      have hr5 := hr4.acc.at6 (i := 0) (u := .int .u32 (K : Int)) hxn hxd
      have x5 : Bk (w3.setCell ⟨xb, 0, none⟩ (.int .u32 (K : Int))) xb 145 (hdC K 0 0 m.toNat u.toNat) := by simpa [hdC] using x4.set 0 (.int .u32 (K : Int))
      have hn2 := notBad_two hbad'.out hl2 hk ha
      simp at hal
      have hcall4 := Lib.hid (readUvarint_any hb cb rb bb zb db _ _ _ _ hA (hgl.ch hcD hS6) hr5 (by omega) (by have := hcD.size; omega) hn2)
      clear hr4 hc4 x4 hr5 hn2
      have hcD' := Lib.hid hcD
      have x5' := Lib.hid x5
      have hK' := Lib.hid hK
      have hk' := Lib.hid hk
      clear hk hK x5 hcD
      go_wp2_with fail
      refine hcall4.out.mono ?_
      rintro e w4 (⟨v, b, hb0, hv, hbl, rfl, hr6, hc6⟩ | ⟨h0, ⟨v0, ae, rfl, hae⟩, hc6⟩)
      · obtain ⟨V, hV⟩ : ∃ V, v % 4294967296 = V := ⟨_, rfl⟩
        have wV : IntKind.u32.wrap (v : Int) = (V : Int) := by rw [u32_wrap_mod, hV]
        have x6 := x5'.out.ch hc6 hxn
        have d1 := x6.cell 1
        have f1 := x6.free 1
        simp [hdC] at d1
        have hcE : Ch [xb, hb, cb, rb, bb, zb] w (w4.setCell ⟨xb, 1, none⟩ (.int .u32 (V : Int))) := (hcD'.out.trans hc6.up6).trans Ch.at6
        have hr7 := hr6.acc.at6 (i := 1) (u := .int .u32 (V : Int)) hxn hxd
        have x7 : Bk (w4.setCell ⟨xb, 1, none⟩ (.int .u32 (V : Int))) xb 145 (hdC K V 0 m.toNat u.toNat) := by simpa [hdC] using x6.set 1 (.int .u32 (V : Int))
        have hn3 := notBad_three hbad'.out hl2 hk'.out ha hv hb0
        simp at hbl
        have hcall5 := Lib.hid (readUvarint_any hb cb rb bb zb db _ _ _ _ hA (hgl.ch hcE hS6) hr7 (by omega) (by have := hcE.size; omega) hn3)
        clear hr6 hc6 x6 hr7 hn3
        have hcE' := Lib.hid hcE
        have x7' := Lib.hid x7
        have hV' := Lib.hid hV
        have hv' := Lib.hid hv
        clear hv hV x7 hcE
        go_wp2_with fail
        refine hcall5.out.mono ?_
        rintro e w5 (⟨x, c, hc0, hx, hcl, rfl, hr8, hc8⟩ | ⟨h0, ⟨v0, ae, rfl, hae⟩, hc8⟩)
        · have x8 := x7'.out.ch hc8 hxn
          have d2 := x8.cell 2
          have f2 := x8.free 2
          simp [hdC] at d2
          have hcF : Ch [xb, hb, cb, rb, bb, zb] w (w5.setCell ⟨xb, 2, none⟩ (.int .u64 (x : Int))) := (hcE'.out.trans hc8.up6).trans Ch.at6
          have hr9 := hr8.acc.at6 (i := 2) (u := .int .u64 (x : Int)) hxn hxd
          have x9 : Bk (w5.setCell ⟨xb, 2, none⟩ (.int .u64 (x : Int))) xb 145 (hdC K V x m.toNat u.toNat) := by simpa [hdC] using x8.set 2 (.int .u64 (x : Int))
          obtain ⟨n, hn⟩ : ∃ n, 2 + a + b + c = n := ⟨_, rfl⟩
          rw [hn] at hr9
          have e2 := hr9.h.cell 2
          simp at e2
          simp at hcl
          have hxhb : ¬ hb = xb := by simp at hxn; omega
          have hne : ¬ xb = hb := fun h => hxhb h.symm
          rw [World.cell?_setCell_other _ _ _ _ (fun h => by injection h; omega)] at e2
          clear hr8 hc8 x8
          have hcF' := Lib.hid hcF
          have x9' := Lib.hid x9
          have hx' := Lib.hid hx
          have hr9' := Lib.hid hr9
          have hn' := Lib.hid hn
          clear hn hr9 hx x9 hcF
          go_wp2_with fail
          go_ret2
          have hn := hn'.out
          refine .inl ⟨k, v, x, m.toNat, u.toNat, n, ⟨a, b, c, ha, hb0, hc0, hk'.out, hv'.out, hx'.out, hn.symm, by omega, hm'.out, hu'.out⟩, rfl, ?_, hr9'.out, hcF'.out⟩
          rw [hK'.out, hV'.out]
          exact x9'.out
        ·
          have x8 := x7'.out.ch hc8 hxn
          have d2 := x8.cell 2
          have f2 := x8.free 2
          simp [hdC] at d2
          clear x8
          have hae' := Lib.hid hae
          have hc8' := Lib.hid hc8
          have h0' := Lib.hid h0
          clear h0 hc8 hae
          go_wp2_with fail
          go_ret2
          exact .inr ⟨decNo_three hl2 hk'.out ha hv'.out hb0 h0'.out, ⟨_, ae, rfl, hae'.out.back hgl hcE'.out hS6⟩, (hcE'.out.trans hc8'.out.up6).trans Ch.at6⟩
      ·
        have hae' := Lib.hid hae
        have hc6' := Lib.hid hc6
        have h0' := Lib.hid h0
        clear h0 hc6 hae
        go_wp2_with fail
        go_ret2
        exact .inr ⟨decNo_two hl2 hk'.out ha h0'.out, ⟨_, ae, rfl, hae'.out.back hgl hcD'.out hS6⟩, hcD'.out.trans hc6'.out.up6⟩
    ·
      have hae' := Lib.hid hae
      have hc4' := Lib.hid hc4
      have h0' := Lib.hid h0
      clear h0 hc4 hae
      go_wp2_with fail
      go_ret2
      exact .inr ⟨decNo_one hl2 h0'.out, ⟨_, ae, rfl, hae'.out.back hgl hcC'.out hS6⟩, hcC'.out.trans hc4'.out.up6⟩
end Go.Proofs.YtpndlcjilgcfkaaGreatDoor
