/-
  io.ReadFull over the hash reader and over a bufio.Reader.
-/
import Derived.Test.YtpndlcjilgcfkaaGreatDoorRf
namespace Go.Proofs.YtpndlcjilgcfkaaGreatDoor
open Go Go.RowKit
open Go.Proofs

set_option maxHeartbeats 2000000 in
theorem rfHash_any (hb cb rb bb zb db x n g off len c : Nat) (t : TypeId) (P : List Value) (l : List UInt8) (w : World) (hA : Apart6 hb cb rb bb zb db) (hgl : Gl w) (hr : Hr hb cb rb bb zb db x n l w) (hn : n + l.length ≤ 1090000000000)
    (hg : Bk w g t P.toArray) (hfit : off + len ≤ P.length) (hlc : len ≤ c) (hlen2 : len ≤ 4294967296) (n1 : g ≠ rb) (n2 : g ≠ bb) (n3 : g ≠ zb) (n4 : g ≠ db) (n5 : g ≠ hb) (n6 : g ≠ cb) (hgG : glN ≤ g) :
    Calls Tryz.prog 76 #[.iface 173 (.pointer (some ⟨hb, 0, none⟩)), .slice (some ⟨g, off, none⟩) len c] w fun e w' =>
      (len ≤ l.length ∧ e = .returned (.tuple #[.int .i64 (len : Int), .nilIface]) ∧ Hr hb cb rb bb zb db (crcMore x (l.take len)) (n + len) (l.drop len) w' ∧ Bk w' g t (splice P off (Lib.byteCells (l.take len))).toArray ∧ Ch [hb, cb, rb, bb, zb, g] w w') ∨
      (l.length < len ∧ (∃ (v : Nat) (a : Addr), e = .returned (.tuple #[.int .i64 (v : Int), .iface 191 (.pointer (some a))]) ∧ EndErr w a) ∧ Ch [hb, cb, rb, bb, zb, g] w w') := by
  have hx := hr.hx
  have hcall := ralHash_any hb l g off len c t P (fun k W => k ≤ l.length ∧ Hr hb cb rb bb zb db (crcMore x (l.take k)) (n + k) (l.drop k) W) [hb, cb, rb, bb, zb, g] w hgl (by simp; exact ⟨hA.g4, hA.g5, hA.g1, hA.g2, hA.g3, hgG⟩)
    (fun k W h => ⟨h.1, h.2.ch ((Ch.refl [] W).drew) (by simp) (by simp) (by simp) (by simp) (by simp) (by simp)⟩)
    (fun k W off' len' c' P' h hk hg' hf hl0 hl1 hc' => (hrRead_some hb cb rb bb zb db _ _ g off' len' c' t P' (l.drop k) W hA h.2 (by rw [Ne, List.drop_eq_nil_iff]; omega) hg' hf hl0 hl1 hc' (by omega) n1 n2 n3 n4 n5 n6).mono fun e w' ⟨m, h1, h2, h3, h4, h5, h6, h7⟩ =>
      ⟨m, h1, h2, by simp at h3; omega, h4, ⟨by simp at h3; omega, by
        rw [crcMore_append _ _ _ hx, ← List.take_add, List.drop_drop, Nat.add_assoc] at h5
        exact h5⟩, h6, h7⟩)
    (fun W off' len' c' P' h hg1 hg' hf hl0 hl1 => by
      have h2 := h.2
      rw [List.drop_length] at h2
      refine (hrRead_end hb cb rb bb zb db _ _ g off' len' c' t P' W hA hg1 h2 hg' hf hl0 hl1 n1 n2 n3 n4 n5 n6 hgG).mono fun e w' ⟨h3, h4, h5, h6⟩ => ⟨h3, ⟨Nat.le_refl _, by rw [List.drop_length]; exact h4⟩, h5, h6.mono (fun y hy => .inl (by simp at hy ⊢; omega))⟩)
    ⟨Nat.zero_le _, by rw [List.take_zero, crcMore_nil _ hx]; exact hr⟩ hg hfit hlc hlen2
  have hcall' := Lib.hid hcall
  clear hcall
  have hr' := Lib.hid hr
  have hg' := Lib.hid hg
  have hgl' := Lib.hid hgl
  clear hgl hg hr
  go_enter Tryz.func76, Tryz.ntmps76
  go_wp2_with fail
  refine hcall'.out.mono ?_
  rintro e w1 (⟨h1, rfl, h2, h3, h4⟩ | ⟨h1, ⟨v, a, rfl, ha⟩, h4⟩)
  ·
    have h2' := Lib.hid h2
    have h3' := Lib.hid h3
    have h4' := Lib.hid h4
    clear h4 h3 h2
    go_wp2_with fail
    go_ret2
    exact .inl ⟨h1, rfl, h2'.out.2, h3'.out, h4'.out⟩
  ·
    have ha' := Lib.hid ha
    have h4' := Lib.hid h4
    clear h4 ha
    go_wp2_with fail
    go_ret2
    exact .inr ⟨h1, ⟨v, a, rfl, ha'.out⟩, h4'.out⟩

set_option maxHeartbeats 2000000 in
theorem rfBufio_any (rb bb zb db g off len c : Nat) (t : TypeId) (P : List Value) (l : List UInt8) (w : World) (hA : Apart4 rb bb zb db) (hgl : Gl w) (hr : Rd rb bb zb db l w)
    (hg : Bk w g t P.toArray) (hfit : off + len ≤ P.length) (hlc : len ≤ c) (hlen2 : len ≤ 4294967296) (n1 : g ≠ rb) (n2 : g ≠ bb) (n3 : g ≠ zb) (n4 : g ≠ db) (hgG : glN ≤ g) :
    Calls Tryz.prog 76 #[.iface 128 (.pointer (some ⟨rb, 0, none⟩)), .slice (some ⟨g, off, none⟩) len c] w fun e w' =>
      (len ≤ l.length ∧ e = .returned (.tuple #[.int .i64 (len : Int), .nilIface]) ∧ Rd rb bb zb db (l.drop len) w' ∧ Bk w' g t (splice P off (Lib.byteCells (l.take len))).toArray ∧ Ch [rb, bb, zb, g] w w') ∨
      (l.length < len ∧ (∃ (v : Nat) (a : Addr), e = .returned (.tuple #[.int .i64 (v : Int), .iface 191 (.pointer (some a))]) ∧ EndErr w a) ∧ Ch [rb, bb, zb, g] w w') := by
  have hcall := ralBufio_any rb l g off len c t P (fun k W => Rd rb bb zb db (l.drop k) W) [rb, bb, zb, g] w hgl (by simp; exact ⟨hA.g1, hA.g2, hA.g3, hgG⟩)
    (fun k W h => h.ch ((Ch.refl [] W).drew) (by simp) (by simp) (by simp) (by simp))
    (fun k W off' len' c' P' h hk hg' hf hl0 hl1 hc' => (rdRead_some rb bb zb db g off' len' c' t P' (l.drop k) W hA h (by rw [Ne, List.drop_eq_nil_iff]; omega) hg' hf hl0 (by omega) n1 n2 n3 n4).mono fun e w' ⟨m, h1, h2, h3, h4, h5, h6, h7⟩ =>
      ⟨m, h1, h2, by simp at h3; omega, h4, by rw [List.drop_drop] at h5; exact h5, h6, h7⟩)
    (fun W off' len' c' P' h hg1 hg' hf hl0 hl1 => by
      rw [List.drop_length] at h
      refine (rdRead_end rb bb zb db g off' len' c' t P' W hA hg1 h hg' hf hl0 (by omega) n1 n2 n3 n4 hgG).mono fun e w' ⟨h3, h4, h5, h6⟩ => ⟨h3, by rw [List.drop_length]; exact h4, h5, h6⟩)
    hr hg hfit hlc hlen2
  have hcall' := Lib.hid hcall
  clear hcall
  have hr' := Lib.hid hr
  have hg' := Lib.hid hg
  have hgl' := Lib.hid hgl
  clear hgl hg hr
  go_enter Tryz.func76, Tryz.ntmps76
  go_wp2_with fail
  refine hcall'.out.mono ?_
  rintro e w1 (⟨h1, rfl, h2, h3, h4⟩ | ⟨h1, ⟨v, a, rfl, ha⟩, h4⟩)
  ·
    have h2' := Lib.hid h2
    have h3' := Lib.hid h3
    have h4' := Lib.hid h4
    clear h4 h3 h2
    go_wp2_with fail
    go_ret2
    exact .inl ⟨h1, rfl, h2'.out, h3'.out, h4'.out⟩
  ·
    have ha' := Lib.hid ha
    have h4' := Lib.hid h4
    clear h4 ha
    go_wp2_with fail
    go_ret2
    exact .inr ⟨h1, ⟨v, a, rfl, ha'.out⟩, h4'.out⟩
end Go.Proofs.YtpndlcjilgcfkaaGreatDoor
