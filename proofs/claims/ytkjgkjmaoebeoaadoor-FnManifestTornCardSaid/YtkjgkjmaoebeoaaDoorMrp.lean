/-
  ReplayManifestFile over whole sets of changes and what stands behind them.
-/
import Derived.Test.YtkjgkjmaoebeoaaDoorMsm
import Derived.Test.YtkjgkjmaoebeoaaDoorMfm
import Derived.Test.YtkjgkjmaoebeoaaDoorMun
import Derived.Test.YtkjgkjmaoebeoaaDoorCrc
import Derived.Test.YtkjgkjmaoebeoaaDoorMgs
import Derived.Deep.DeepCutAuto
import Derived.Deep.CutBlock
namespace Go.Proofs.YtkjgkjmaoebeoaaDoor
open Go Go.RowKit
open Go.Proofs

def zero8 : List Value := [.int .u8 0, .int .u8 0, .int .u8 0, .int .u8 0, .int .u8 0, .int .u8 0, .int .u8 0, .int .u8 0]



set_option maxHeartbeats 4000000 in
set_option maxRecDepth 20000 in
theorem replayMg_any (zb nb db N c m mg : Nat) (data rest : List UInt8) (nm sy md : Value) (O : Array Value) (w : World) (hf : Fr zb nb db data w) (hno : Bk w nb 73 #[nm, .slice (some ⟨db, 0, none⟩) N c, sy, md]) (hgl : Gl w) (hG : glN ≤ zb)
    (hd : data = headB m ++ rest) (hm : m < 65536) (hne : m ≠ mg) (hN : data.length ≤ 1000000) (hO : O.size = 43) (hzn : zb ≠ nb) (hzd : zb ≠ db) (hnd : nb ≠ db) :
    Calls Tryd.prog 23 #[.pointer (some ⟨zb, 0, none⟩), .int .u16 (mg : Int), .agg O] w fun e w' => (∃ a, e = .returned (.tuple #[.agg #[.slice none 0 0, .map none, .int .i64 0, .int .i64 0], .int .i64 0, .iface 119 (.pointer (some a))])) ∧ Ch [zb] w w' := by
  --<
  have hneI : ¬ ((m : Int) = (mg : Int)) := by omega
  have hzl := hno.lt
  have hzb : zb < w.heap.size := by obtain ⟨_, _, _, _, _, _, _, hz, _⟩ := hf; exact hz.lt
  have hdb : db < w.heap.size := by obtain ⟨_, _, _, _, _, _, _, _, _, _, _, _, _, _, _, _, h⟩ := hf; exact h
  obtain ⟨W0, hW0⟩ : ∃ W, w.alloc (.cells O 81) = W := ⟨_, rfl⟩
  have hC0 : Ch [] w W0 := by rw [← hW0]; exact (Ch.refl [] w).alloc _
  have hob : Bk W0 w.heap.size 81 O := by rw [← hW0]; exact Bk.new _ _ _
  have hoc : (Value.agg O).cells = O := rfl
  have hoi : (Tryd.prog.info? 81).map (·.size) = some O.size := by rw [hO]; exact optInfo
  have hsz0 : W0.heap.size = w.heap.size + 1 := by rw [← hW0]; simp
  have hf' := Lib.hid hf
  have hno' := Lib.hid hno
  have hgl' := Lib.hid hgl
  have hC0' := Lib.hid hC0
  have hob' := Lib.hid hob
  have hd' := Lib.hid hd
  have hsz0' := Lib.hid hsz0
  clear hsz0 hd hob hC0 hgl hno hf
  go_enter Tryd.func23, Tryd.ntmps23
  go_wp2_with fail
  obtain ⟨W1, hW1⟩ : ∃ W, W0.alloc (.cells #[.slice none 0 0, .map none, .int .i64 0, .int .i64 0] 57) = W := ⟨_, rfl⟩
  have hC1 : Ch [] w W1 := by rw [← hW1]; exact hC0'.out.alloc _
  have hob1 : Bk W1 w.heap.size 81 O := by rw [← hW1]; exact hob'.out.alloc _
  have hrs1 : Bk W1 W0.heap.size 57 #[.slice none 0 0, .map none, .int .i64 0, .int .i64 0] := by rw [← hW1]; exact Bk.new _ _ _
  have hsz1 : W1.heap.size = w.heap.size + 2 := by rw [← hW1]; have := hsz0'.out; simp; omega
  rw [hW1]
  refine (bufioNew_any zb W1).mono ?_
  rintro e w1 ⟨rfl, hrb, hbb, hc1⟩
  have hz1 := hc1.size
  have hC1' := Lib.hid hC1
  have hob1' := Lib.hid hob1
  have hrs1' := Lib.hid hrs1
  have hsz1' := Lib.hid hsz1
  have hrb' := Lib.hid hrb
  have hbb' := Lib.hid hbb
  have hc1' := Lib.hid hc1
  clear hc1 hbb hrb hsz1 hrs1 hob1 hC1
  go_wp2_with fail
  obtain ⟨W2, hW2⟩ : ∃ W, (w1.alloc (.cells #[.pointer (some ⟨W1.heap.size, 0, none⟩), .int .i64 0] 90)).alloc (.cells #[.int .u8 0, .int .u8 0, .int .u8 0, .int .u8 0, .int .u8 0, .int .u8 0, .int .u8 0, .int .u8 0] 91) = W := ⟨_, rfl⟩
  have hC2 : Ch [] w W2 := by rw [← hW2]; exact ((hC1'.out.trans_nil hc1'.out).alloc _).alloc _
  have hob2 : Bk W2 w.heap.size 81 O := by rw [← hW2]; exact ((hob1'.out.ch hc1'.out (by simp)).alloc _).alloc _
  have hrs2 : Bk W2 W0.heap.size 57 #[.slice none 0 0, .map none, .int .i64 0, .int .i64 0] := by rw [← hW2]; exact ((hrs1'.out.ch hc1'.out (by simp)).alloc _).alloc _
  have hk2 : Bk W2 (w1.heap.size + 1) 91 zero8.toArray := by rw [← hW2]; exact Bk.at_ _ _ _ _ (by simp)
  have hsz2 : W2.heap.size = w1.heap.size + 2 := by rw [← hW2]; simp
  have hs1 := hsz1'.out
  have hs0 := hsz0'.out
  have hbl := hbb'.out.lt
  have hCr2 : Cr w1.heap.size W1.heap.size (W1.heap.size + 1) zb nb db 0 data W2 := by
    refine ⟨by rw [← hW2]; exact (Bk.new _ _ _).alloc _, ⟨0, 0, -1, -1, zeros4096, [], data, ?_, ?_, zeros4096_length, Nat.le_refl _, by omega, rfl, Bs.nil, hf'.out.ch hC2 (by simp) (by simp) (by simp), rfl⟩, by omega⟩
    · rw [← hW2]; exact (hrb'.out.alloc _).alloc _
    · rw [← hW2]; exact (hbb'.out.alloc _).alloc _
  have hgW := hgl'.out.eof.lt
  have hgU := hgl'.out.un.lt
  have hgT := hgl'.out.tr.lt
  have hwG : glN ≤ w.heap.size := Nat.le_trans hG (Nat.le_of_lt hzb)
  have hz1' := hz1
  have hsz2' := hsz2
  have hA : Apart6 w1.heap.size W1.heap.size (W1.heap.size + 1) zb nb db := ⟨⟨by omega, by omega, by omega, by omega, by omega, by omega, by omega, Nat.le_trans hwG (by omega), Nat.le_trans hwG (by omega), hG⟩, by omega, by omega, by omega, by omega, by omega, Nat.le_trans hwG (by omega)⟩
  have hgl2 := hgl'.out.ch hC2 (by simp)
  rw [hW2]
  refine (rfCr_any w1.heap.size W1.heap.size (W1.heap.size + 1) zb nb db 0 (w1.heap.size + 1) 0 8 8 91 zero8 data W2 hA hgl2 hCr2 (by omega) hk2 (by decide) (by omega) (by omega) (by omega) (by omega) (by omega) (by omega) (by omega) (by omega) (Nat.le_trans hwG (by omega))).mono ?_
  rintro e w2 (⟨hl8, rfl, hCr3, hk3, hc3⟩ | ⟨hl8, _⟩)
  case inr => exact absurd hl8 (by rw [hd'.out]; simp [headB_length])
  have hk4 : Bs w2 (w1.heap.size + 1) 0 (headB m) := by
    have h0 := bs_splice hk3 (Nat.zero_le _)
    rw [hd'.out, List.take_left' (headB_length m)] at h0
    exact h0
  rw [show data.drop 8 = rest by rw [hd'.out, List.drop_left' (headB_length m)]] at hCr3
  have hb1 : Bs w2 (w1.heap.size + 1) 0 [66, 100, 103, 114] := hk4.take 4
  have hb2 : Bs w2 (w1.heap.size + 1) 4 (Lib.beBytes 2 m) := by
    have h0 := (hk4.drop 4).take 2
    have h1 : (headB m).drop 4 = Lib.beBytes 2 m ++ [0, 8] := rfl
    rw [h1, List.take_left' (Lib.beBytes_length 2 m)] at h0
    simpa using h0
  have hb3 : Bs w2 (w1.heap.size + 1) 6 [0, 8] := by
    have h0 := hk4.drop 6
    have h1 : (headB m).drop 4 = Lib.beBytes 2 m ++ [0, 8] := rfl
    have h2 : (headB m).drop 6 = [0, 8] := by rw [show 6 = 4 + 2 from rfl, ← List.drop_drop, h1, List.drop_left' (Lib.beBytes_length 2 m)]
    rw [h2] at h0
    simpa using h0
  have hC3 : Ch [zb] w w2 := (hC2.mono (by simp)).trans' hc3 (fun k hk => by simp at hk ⊢; omega)
  have hob3 := hob2.ch hc3 (by simp; omega)
  have hrs3 := hrs2.ch hc3 (by simp; omega)
  have hsz3 := hc3.size
  have hC2' := Lib.hid hC2
  have hob2' := Lib.hid hob2
  have hrs2' := Lib.hid hrs2
  have hk2' := Lib.hid hk2
  have hsz2' := Lib.hid hsz2
  have hs1' := Lib.hid hs1
  have hs0' := Lib.hid hs0
  have hCr2' := Lib.hid hCr2
  have hgl2' := Lib.hid hgl2
  have hCr3' := Lib.hid hCr3
  have hk3' := Lib.hid hk3
  have hc3' := Lib.hid hc3
  have hk4' := Lib.hid hk4
  have hb1' := Lib.hid hb1
  have hb2' := Lib.hid hb2
  have hb3' := Lib.hid hb3
  have hC3' := Lib.hid hC3
  have hob3' := Lib.hid hob3
  have hrs3' := Lib.hid hrs3
  have hsz3' := Lib.hid hsz3
  clear hsz3 hrs3 hob3 hC3 hb3 hb2 hb1 hk4 hc3 hk3 hCr3 hgl2 hCr2 hs0 hs1 hsz2 hk2 hrs2 hob2 hC2
  go_wp2_with (refine wpList_b2s rfl 42 9 5 _ rfl Tryd.underlying42 Tryd.underlying5 Tryd.underlying9 (w1.heap.size + 1) 0 4 _ rfl [66, 100, 103, 114] rfl hb1'.out ?_)
  refine (bytesToU16_any (w1.heap.size + 1) 4 _ (Lib.beBytes 2 m) w2 hb2'.out (Lib.beBytes_length 2 m)).mono ?_
  rintro e w3 ⟨rfl, hB3⟩
  rw [Lib.beNat_beBytes 2 m (by omega)]
  have hC4 : Ch [] w2 w3 := Ch.of_below hB3
  have hb4 := hb3'.out.ch (S := []) hC4 (by simp)
  have hsz4 := hC4.size
  have hB3' := Lib.hid hB3
  have hC4' := Lib.hid hC4
  have hb4' := Lib.hid hb4
  have hsz4' := Lib.hid hsz4
  clear hsz4 hb4 hC4 hB3
  go_wp2_with fail
  refine (bytesToU16_any (w1.heap.size + 1) 6 _ [0, 8] w3 hb4'.out rfl).mono ?_
  rintro e w4 ⟨rfl, hB4⟩
  have hC5 : Ch [] w2 w4 := hC4'.out.trans' (S' := []) (Ch.of_below hB4) (by simp)
  have hsz5 := hC5.size
  have h08 : Lib.beNat [0, 8] = 8 := by decide
  rw [h08]
  have hB4' := Lib.hid hB4
  have hC5' := Lib.hid hC5
  have hsz5' := Lib.hid hsz5
  clear hsz5 hC5 hB4
  go_wp2_with fail
  refine (errNew_any _ w4).mono ?_
  rintro e w5 ⟨rfl, hc6⟩
  have hC6 := hC5'.out.trans_nil hc6
  have hrs6 := hrs3'.out.ch hC6 (by simp)
  have r0 := hrs6.cell 0
  have r1 := hrs6.cell 1
  have r2 := hrs6.cell 2
  have r3 := hrs6.cell 3
  have f0 := hrs6.free 0
  have f1 := hrs6.free 1
  have f2 := hrs6.free 2
  have f3 := hrs6.free 3
  simp at r0 r1 r2 r3
  have hc6' := Lib.hid hc6
  have hC6' := Lib.hid hC6
  have hrs6' := Lib.hid hrs6
  clear hrs6 hC6 hc6
  go_wp2_with fail
  obtain ⟨WE, hWE⟩ : ∃ WW, (((w5.setCell ⟨W0.heap.size, 0, none⟩ (.slice none 0 0)).setCell ⟨W0.heap.size, 1, none⟩ (.map none)).setCell ⟨W0.heap.size, 2, none⟩ (.int .i64 0)).setCell ⟨W0.heap.size, 3, none⟩ (.int .i64 0) = WW := ⟨_, rfl⟩
  have hE : Bk WE W0.heap.size 57 #[.slice none 0 0, .map none, .int .i64 0, .int .i64 0] := by rw [← hWE]; simpa using (((hrs6'.out.set 0 (.slice none 0 0)).set 1 (.map none)).set 2 (.int .i64 0)).set 3 (.int .i64 0)
  have e0 := hE.cell 0
  have e1 := hE.cell 1
  have e2 := hE.cell 2
  have e3 := hE.cell 3
  simp at e0 e1 e2 e3
  rw [hWE]
  refine bodyPost_ret (v := .tuple #[.agg #[.slice none 0 0, .map none, .int .i64 0, .int .i64 0], .int .i64 0, .iface 119 (.pointer (some ⟨w4.heap.size, 0, none⟩))]) (by simp [results, Tryd.results23, go_sem, e0, e1, e2, e3]) rfl ?_
  have hCE : Ch [W0.heap.size] w5 WE := by rw [← hWE]; exact (((((Ch.refl [W0.heap.size] w5).setCell (p := ⟨W0.heap.size, 0, none⟩) (.inl (by simp)) _).setCell (p := ⟨W0.heap.size, 1, none⟩) (.inl (by simp)) _).setCell (p := ⟨W0.heap.size, 2, none⟩) (.inl (by simp)) _).setCell (p := ⟨W0.heap.size, 3, none⟩) (.inl (by simp)) _)
  have hs0 := hs0'.out
  exact ⟨⟨_, rfl⟩, (hC3'.out.trans_nil hC6'.out).trans' hCE (by simp; omega)⟩
  -->

theorem Man.low {B mb tb k : Nat} {f : Nat → Option Nat} {n m made dropped : Nat} {w w' : World} {S : List Nat} (h : Man B mb tb k f n m made dropped w) (hc : Ch S w w') (hS : ∀ b, b ∈ S → b < B) : Man B mb tb k f n m made dropped w' := by
  obtain ⟨⟨lv, h1, bs, h2, h3⟩, h4, h5, h6, h7, h8⟩ := h
  exact ⟨⟨lv, h1.ch hc (fun hm => by have := hS _ hm; omega), bs, own_ch h2 hc (fun g hg hm => by have h0 := hS _ hm; have h9 := (h2.lt g hg).1; omega), fun b hb => ⟨(h3 b hb).1, (h3 b hb).2.1, (h3 b hb).2.2.ch hc (fun hm => by have h0 := hS _ hm; have h9 := (h3 b hb).2.1; omega)⟩⟩, h4.ch hc (fun hm => by have := hS _ hm; omega), h5, h6, h7, h8⟩

theorem manInfo : (Tryd.prog.info? 57).map (·.size) = some 4 := by kernel_rfl


set_option maxHeartbeats 8000000 in
set_option maxRecDepth 20000 in
theorem replay_any (bad : Bool) (zb nb db N c m : Nat) (data tail : List UInt8) (Ls : List (List Chg)) (nm sy md : Value) (O : Array Value) (w : World) (hf : Fr zb nb db data w) (hno : Bk w nb 73 #[nm, .slice (some ⟨db, 0, none⟩) N c, sy, md]) (hgs : Gs zb w)
    (hd : data = headB m ++ (setsB Ls ++ tail)) (hm : m < 65536) (hN : data.length ≤ 1000000) (hN2 : N = data.length) (hO : O.size = 43) (hzn : zb ≠ nb) (hzd : zb ≠ db) (hnd : nb ≠ db)
    (hok : ∀ j (h : j < Ls.length), (bok0.run (Ls.take j).flatten).oks Ls[j]) (hlim : ∀ L, L ∈ Ls → L.length ≤ 1000 ∧ ∀ x, x ∈ L → 1 ≤ x.id ∧ x.id < 1000000 ∧ x.lev ≤ 6) (hLs : Ls.length ≤ 100)
    (htl : (bad = true ∧ BadT tail N) ∨ (bad = false ∧ CutT tail N)) :
    Calls Tryd.prog 23 #[.pointer (some ⟨zb, 0, none⟩), .int .u16 (m : Int), .agg O] w fun e w' =>
      ((bad = true ∧ ∃ a, e = .returned (.tuple #[.agg #[.slice none 0 0, .map none, .int .i64 0, .int .i64 0], .int .i64 0, .iface 119 (.pointer (some a))])) ∨
       (bad = false ∧ ∃ A k cv tb, e = .returned (.tuple #[.agg #[.slice A k cv, .map (some tb), .int .i64 ((bok0.run Ls.flatten).made : Int), .int .i64 ((bok0.run Ls.flatten).dropped : Int)], .int .i64 ((8 + (setsB Ls).length : Nat) : Int), .nilIface]) ∧
         TabAt w' tb (bok0.run Ls.flatten).f 1000000)) ∧ Ch [zb] w w' := by
  have hgl := hgs.gl
  have hG := hgs.hB
  have hgs' := Lib.hid hgs
  clear hgs
  have hzl := hno.lt
  have hzb : zb < w.heap.size := by obtain ⟨_, _, _, _, _, _, _, hz, _⟩ := hf; exact hz.lt
  have hdb : db < w.heap.size := by obtain ⟨_, _, _, _, _, _, _, _, _, _, _, _, _, _, _, _, h⟩ := hf; exact h
  obtain ⟨W0, hW0⟩ : ∃ W, w.alloc (.cells O 81) = W := ⟨_, rfl⟩
  have hC0 : Ch [] w W0 := by rw [← hW0]; exact (Ch.refl [] w).alloc _
  have hob : Bk W0 w.heap.size 81 O := by rw [← hW0]; exact Bk.new _ _ _
  have hoc : (Value.agg O).cells = O := rfl
  have hoi : (Tryd.prog.info? 81).map (·.size) = some O.size := by rw [hO]; exact optInfo
  have hsz0 : W0.heap.size = w.heap.size + 1 := by rw [← hW0]; simp
  have hf' := Lib.hid hf
  have hno' := Lib.hid hno
  have hgl' := Lib.hid hgl
  have hC0' := Lib.hid hC0
  have hob' := Lib.hid hob
  have hd' := Lib.hid hd
  have hsz0' := Lib.hid hsz0
  clear hsz0 hd hob hC0 hgl hno hf
  go_enter Tryd.func23, Tryd.ntmps23
  go_wp2_with fail
  obtain ⟨W1, hW1⟩ : ∃ W, W0.alloc (.cells #[.slice none 0 0, .map none, .int .i64 0, .int .i64 0] 57) = W := ⟨_, rfl⟩
  have hC1 : Ch [] w W1 := by rw [← hW1]; exact hC0'.out.alloc _
  have hob1 : Bk W1 w.heap.size 81 O := by rw [← hW1]; exact hob'.out.alloc _
  have hrs1 : Bk W1 W0.heap.size 57 #[.slice none 0 0, .map none, .int .i64 0, .int .i64 0] := by rw [← hW1]; exact Bk.new _ _ _
  have hsz1 : W1.heap.size = w.heap.size + 2 := by rw [← hW1]; have := hsz0'.out; simp; omega
  rw [hW1]
  refine (bufioNew_any zb W1).mono ?_
  rintro e w1 ⟨rfl, hrb, hbb, hc1⟩
  have hz1 := hc1.size
  have hC1' := Lib.hid hC1
  have hob1' := Lib.hid hob1
  have hrs1' := Lib.hid hrs1
  have hsz1' := Lib.hid hsz1
  have hrb' := Lib.hid hrb
  have hbb' := Lib.hid hbb
  have hc1' := Lib.hid hc1
  clear hc1 hbb hrb hsz1 hrs1 hob1 hC1
  go_wp2_with fail
  obtain ⟨W2, hW2⟩ : ∃ W, (w1.alloc (.cells #[.pointer (some ⟨W1.heap.size, 0, none⟩), .int .i64 0] 90)).alloc (.cells #[.int .u8 0, .int .u8 0, .int .u8 0, .int .u8 0, .int .u8 0, .int .u8 0, .int .u8 0, .int .u8 0] 91) = W := ⟨_, rfl⟩
  have hC2 : Ch [] w W2 := by rw [← hW2]; exact ((hC1'.out.trans_nil hc1'.out).alloc _).alloc _
  have hob2 : Bk W2 w.heap.size 81 O := by rw [← hW2]; exact ((hob1'.out.ch hc1'.out (by simp)).alloc _).alloc _
  have hrs2 : Bk W2 W0.heap.size 57 #[.slice none 0 0, .map none, .int .i64 0, .int .i64 0] := by rw [← hW2]; exact ((hrs1'.out.ch hc1'.out (by simp)).alloc _).alloc _
  have hk2 : Bk W2 (w1.heap.size + 1) 91 zero8.toArray := by rw [← hW2]; exact Bk.at_ _ _ _ _ (by simp)
  have hsz2 : W2.heap.size = w1.heap.size + 2 := by rw [← hW2]; simp
  have hs1 := hsz1'.out
  have hs0 := hsz0'.out
  have hbl := hbb'.out.lt
  have hCr2 : Cr w1.heap.size W1.heap.size (W1.heap.size + 1) zb nb db 0 data W2 := by
    refine ⟨by rw [← hW2]; exact (Bk.new _ _ _).alloc _, ⟨0, 0, -1, -1, zeros4096, [], data, ?_, ?_, zeros4096_length, Nat.le_refl _, by omega, rfl, Bs.nil, hf'.out.ch hC2 (by simp) (by simp) (by simp), rfl⟩, by omega⟩
    · rw [← hW2]; exact (hrb'.out.alloc _).alloc _
    · rw [← hW2]; exact (hbb'.out.alloc _).alloc _
  have hgW := hgl'.out.eof.lt
  have hgU := hgl'.out.un.lt
  have hgT := hgl'.out.tr.lt
  have hwG : glN ≤ w.heap.size := Nat.le_trans hG (Nat.le_of_lt hzb)
  have hz1' := hz1
  have hsz2' := hsz2
  have hA : Apart6 w1.heap.size W1.heap.size (W1.heap.size + 1) zb nb db := ⟨⟨by omega, by omega, by omega, by omega, by omega, by omega, by omega, Nat.le_trans hwG (by omega), Nat.le_trans hwG (by omega), hG⟩, by omega, by omega, by omega, by omega, by omega, Nat.le_trans hwG (by omega)⟩
  have hgl2 := hgl'.out.ch hC2 (by simp)
  rw [hW2]
  refine (rfCr_any w1.heap.size W1.heap.size (W1.heap.size + 1) zb nb db 0 (w1.heap.size + 1) 0 8 8 91 zero8 data W2 hA hgl2 hCr2 (by omega) hk2 (by decide) (by omega) (by omega) (by omega) (by omega) (by omega) (by omega) (by omega) (by omega) (Nat.le_trans hwG (by omega))).mono ?_
  rintro e w2 (⟨hl8, rfl, hCr3, hk3, hc3⟩ | ⟨hl8, _⟩)
  case inr => exact absurd hl8 (by rw [hd'.out]; simp [headB_length])
  have hk4 : Bs w2 (w1.heap.size + 1) 0 (headB m) := by
    have h0 := bs_splice hk3 (Nat.zero_le _)
    rw [hd'.out, List.take_left' (headB_length m)] at h0
    exact h0
  rw [show data.drop 8 = setsB Ls ++ tail by rw [hd'.out, List.drop_left' (headB_length m)]] at hCr3
  have hb1 : Bs w2 (w1.heap.size + 1) 0 [66, 100, 103, 114] := hk4.take 4
  have hb2 : Bs w2 (w1.heap.size + 1) 4 (Lib.beBytes 2 m) := by
    have h0 := (hk4.drop 4).take 2
    have h1 : (headB m).drop 4 = Lib.beBytes 2 m ++ [0, 8] := rfl
    rw [h1, List.take_left' (Lib.beBytes_length 2 m)] at h0
    simpa using h0
  have hb3 : Bs w2 (w1.heap.size + 1) 6 [0, 8] := by
    have h0 := hk4.drop 6
    have h1 : (headB m).drop 4 = Lib.beBytes 2 m ++ [0, 8] := rfl
    have h2 : (headB m).drop 6 = [0, 8] := by rw [show 6 = 4 + 2 from rfl, ← List.drop_drop, h1, List.drop_left' (Lib.beBytes_length 2 m)]
    rw [h2] at h0
    simpa using h0
  have hC3 : Ch [zb] w w2 := (hC2.mono (by simp)).trans' hc3 (fun k hk => by simp at hk ⊢; omega)
  have hob3 := hob2.ch hc3 (by simp; omega)
  have hrs3 := hrs2.ch hc3 (by simp; omega)
  have hsz3 := hc3.size
  have hC2' := Lib.hid hC2
  have hob2' := Lib.hid hob2
  have hrs2' := Lib.hid hrs2
  have hk2' := Lib.hid hk2
  have hsz2' := Lib.hid hsz2
  have hs1' := Lib.hid hs1
  have hs0' := Lib.hid hs0
  have hCr2' := Lib.hid hCr2
  have hgl2' := Lib.hid hgl2
  have hCr3' := Lib.hid hCr3
  have hk3' := Lib.hid hk3
  have hc3' := Lib.hid hc3
  have hk4' := Lib.hid hk4
  have hb1' := Lib.hid hb1
  have hb2' := Lib.hid hb2
  have hb3' := Lib.hid hb3
  have hC3' := Lib.hid hC3
  have hob3' := Lib.hid hob3
  have hrs3' := Lib.hid hrs3
  have hsz3' := Lib.hid hsz3
  clear hsz3 hrs3 hob3 hC3 hb3 hb2 hb1 hk4 hc3 hk3 hCr3 hgl2 hCr2 hs0 hs1 hsz2 hk2 hrs2 hob2 hC2
  go_wp2_with (refine wpList_b2s rfl 42 9 5 _ rfl Tryd.underlying42 Tryd.underlying5 Tryd.underlying9 (w1.heap.size + 1) 0 4 _ rfl [66, 100, 103, 114] rfl hb1'.out ?_)
  refine (bytesToU16_any (w1.heap.size + 1) 4 _ (Lib.beBytes 2 m) w2 hb2'.out (Lib.beBytes_length 2 m)).mono ?_
  rintro e w3 ⟨rfl, hB3⟩
  rw [Lib.beNat_beBytes 2 m (by omega)]
  have hC4 : Ch [] w2 w3 := Ch.of_below hB3
  have hb4 := hb3'.out.ch (S := []) hC4 (by simp)
  have hsz4 := hC4.size
  have hB3' := Lib.hid hB3
  have hC4' := Lib.hid hC4
  have hb4' := Lib.hid hb4
  have hsz4' := Lib.hid hsz4
  clear hsz4 hb4 hC4 hB3
  go_wp2_with fail
  refine (bytesToU16_any (w1.heap.size + 1) 6 _ [0, 8] w3 hb4'.out rfl).mono ?_
  rintro e w4 ⟨rfl, hB4⟩
  have hC5 : Ch [] w2 w4 := hC4'.out.trans' (S' := []) (Ch.of_below hB4) (by simp)
  have hsz5 := hC5.size
  have h08 : Lib.beNat [0, 8] = 8 := by decide
  rw [h08]
  have hB4' := Lib.hid hB4
  have hC5' := Lib.hid hC5
  have hsz5' := Lib.hid hsz5
  clear hsz5 hC5 hB4
  go_wp2_with fail
  obtain ⟨dk, pp, hfd⟩ : ∃ D P, Bk w4 zb 86 #[D, .pointer (some ⟨nb, 0, none⟩), P] := by
    obtain ⟨_, _, _, _, _, _, _, _, _, _, _, _, _, _, hF, _⟩ := hCr3'.out.r
    obtain ⟨_, _, _, _, _, _, _, hz, _⟩ := hF
    exact ⟨_, _, hz.ch hC5'.out (by simp)⟩
  refine (stat_any zb nb _ _ w4 hfd).mono ?_
  rintro e w5 ⟨rfl, hc6⟩
  have hc6' := Lib.hid hc6
  have hfd' := Lib.hid hfd
  clear hfd hc6
  go_wp2_with fail
  obtain ⟨w6, hw6⟩ : ∃ W, w5.alloc (.cells #[.pointer (some ⟨nb, 0, none⟩)] 98) = W := ⟨_, rfl⟩
  have hC6 : Ch [] w2 w6 := by rw [← hw6]; exact (hC5'.out.trans_nil hc6'.out).alloc _
  have hst6 : Bk w6 w5.heap.size 98 #[.pointer (some ⟨nb, 0, none⟩)] := by rw [← hw6]; exact Bk.new _ _ _
  have hsz6 : w6.heap.size = w5.heap.size + 1 := by rw [← hw6]; simp
  have hsz65 := hc6'.out.size
  rw [hw6]
  refine (created_any w6).mono ?_
  rintro e w7 ⟨lb, tb, rfl, hlb, htb, hlB, htB, hc8⟩
  have hC6' := Lib.hid hC6
  have hst6' := Lib.hid hst6
  have hlb' := Lib.hid hlb
  have htb' := Lib.hid htb
  have hc8' := Lib.hid hc8
  clear hc8 htb hlb hst6 hC6
  go_upto_block 0 with fail
  obtain ⟨W8, hW8⟩ : ∃ W, w7.alloc (.cells #[.slice (some ⟨lb, 0, none⟩) 0 0, .map (some tb), .int .i64 0, .int .i64 0] 57) = W := ⟨_, rfl⟩
  have hC68 : Ch [] w6 W8 := by rw [← hW8]; exact hc8'.out.alloc _
  have hM8 : Man w6.heap.size w7.heap.size tb 0 (fun _ => none) 0 0 0 0 W8 := by
    rw [← hW8]
    exact ⟨⟨_, Bk.new _ _ _, [], ⟨rfl, .inr ⟨lb, 0, #[], rfl, hlB, hlb'.out.alloc _, by omega, by decide, rfl, rfl⟩⟩, fun b hb => by cases hb⟩, htb'.out.ch ((Ch.refl [] w7).alloc _) (by simp), fun g l h => (by cases h), by omega, hc8'.out.size, htB⟩
  rw [hW8]
  have n0 : W0.heap.size ≤ w.heap.size + 1 ∧ w.heap.size + 1 ≤ W0.heap.size := by have := hs0'.out; omega
  have n1 : W1.heap.size ≤ w.heap.size + 2 ∧ w.heap.size + 2 ≤ W1.heap.size := by have := hs1'.out; omega
  have n2 := hsz2'.out
  have n3 := hsz3'.out
  have n5 := hsz5'.out
  have hCr6 : Cr w1.heap.size W1.heap.size (W1.heap.size + 1) zb nb db 8 (setsB Ls ++ tail) w6 := hCr3'.out.ch hC6'.out (by simp) (by simp) (by simp) (by simp) (by simp) (by simp)
  have hCW6 : Ch [zb] w w6 := hC3'.out.trans_nil hC6'.out
  have hno6 := hno'.out.ch hCW6 (by simp; exact fun h => hzn h.symm)
  have hgs6 := hgs'.out.ch hCW6 (fun k hk => by simp at hk; omega)
  have hob6 := hob3'.out.ch hC6'.out (by simp)
  have hrs6 := hrs3'.out.ch hC6'.out (by simp)
  have hbB : w1.heap.size < w6.heap.size := by omega
  clear hf' hno' hgl' hC0' hob' hC1' hob1' hrs1' hrb' hbb' hc1' hC2' hob2' hrs2' hk2' hCr2' hgl2' hCr3' hk3' hc3' hk4' hb1' hb2' hb3' hob3' hrs3' hB3' hC4' hb4' hB4' hC5' hc6' hfd' hlb' htb' hc8' hC3' hgs' hC6'
  have n7 : w1.heap.size < w5.heap.size := by omega
  have n6 : w5.heap.size + 1 ≤ w6.heap.size := by omega
  clear hsz6 hW0 hW1 hW2 hw6 hW8 hgW hgU hgT h08 hl8 n2 n3 hsz2' hsz3' hsz4' hsz5'
  have hC68' := Lib.hid hC68
  have hM8' := Lib.hid hM8
  have hCr6' := Lib.hid hCr6
  have hCW6' := Lib.hid hCW6
  have hno6' := Lib.hid hno6
  have hgs6' := Lib.hid hgs6
  have hob6' := Lib.hid hob6
  have hrs6' := Lib.hid hrs6
  have hok' := Lib.hid hok
  have hlim' := Lib.hid hlim
  have htl' := Lib.hid htl
  clear htl hlim hok hrs6 hob6 hgs6 hno6 hCW6 hCr6 hM8 hC68
  go_cut [18] (fun s18 wx => bad = false ∧ s18 = .int .i64 ((8 + (setsB Ls).length : Nat) : Int) ∧ (∃ k, Man w6.heap.size w7.heap.size tb k (bok0.run Ls.flatten).f (1000 * Ls.length) (1000 * Ls.length) (bok0.run Ls.flatten).made (bok0.run Ls.flatten).dropped wx) ∧ Ch [w1.heap.size, W1.heap.size, W1.heap.size + 1, zb] w6 wx)
  case rest =>
    obtain ⟨hbad, rfl, ⟨k', hMe⟩, hCh⟩ := hcut
    obtain ⟨⟨lv, hmbE, bsE, hownE, _⟩, htabE, _⟩ := hMe
    obtain ⟨Av, cv, rfl⟩ := own_form hownE
    clear hownE
    have hrsE := hrs6'.out.ch hCh (by simp; omega)
    have r0 := hrsE.cell 0
    have r1 := hrsE.cell 1
    have r2 := hrsE.cell 2
    have r3 := hrsE.cell 3
    have f0 := hrsE.free 0
    have f1 := hrsE.free 1
    have f2 := hrsE.free 2
    have f3 := hrsE.free 3
    simp at r0 r1 r2 r3
    have hmbE' := Lib.hid hmbE
    have htabE' := Lib.hid htabE
    have hrsE' := Lib.hid hrsE
    have hCh' := Lib.hid hCh
    clear hCh hrsE htabE hmbE
    go_wp2_with (refine wpList_load_row rfl 57 (.tmp 17) rfl w7.heap.size rfl 57 _ (0, 0) _ hmbE'.out Tryd.underlying57 rfl manInfo ?_)
    obtain ⟨WE, hWE⟩ : ∃ WW, (((wc.setCell ⟨W0.heap.size, 0, none⟩ (.slice Av k' cv)).setCell ⟨W0.heap.size, 1, none⟩ (.map (some tb))).setCell ⟨W0.heap.size, 2, none⟩ (.int .i64 ((bok0.run Ls.flatten).made : Int))).setCell ⟨W0.heap.size, 3, none⟩ (.int .i64 ((bok0.run Ls.flatten).dropped : Int)) = WW := ⟨_, rfl⟩
    have hE : Bk WE W0.heap.size 57 #[.slice Av k' cv, .map (some tb), .int .i64 ((bok0.run Ls.flatten).made : Int), .int .i64 ((bok0.run Ls.flatten).dropped : Int)] := by rw [← hWE]; simpa using (((hrsE'.out.set 0 (.slice Av k' cv)).set 1 (.map (some tb))).set 2 (.int .i64 ((bok0.run Ls.flatten).made : Int))).set 3 (.int .i64 ((bok0.run Ls.flatten).dropped : Int))
    have e0 := hE.cell 0
    have e1 := hE.cell 1
    have e2 := hE.cell 2
    have e3 := hE.cell 3
    simp at e0 e1 e2 e3
    rw [hWE]
    refine bodyPost_ret (v := .tuple #[.agg #[.slice Av k' cv, .map (some tb), .int .i64 ((bok0.run Ls.flatten).made : Int), .int .i64 ((bok0.run Ls.flatten).dropped : Int)], .int .i64 ((8 + (setsB Ls).length : Nat) : Int), .nilIface]) (by simp [results, Tryd.results23, go_sem, e0, e1, e2, e3]) rfl ?_
    have hCE : Ch [W0.heap.size] wc WE := by rw [← hWE]; exact (((((Ch.refl [W0.heap.size] wc).setCell (p := ⟨W0.heap.size, 0, none⟩) (.inl (by simp)) _).setCell (p := ⟨W0.heap.size, 1, none⟩) (.inl (by simp)) _).setCell (p := ⟨W0.heap.size, 2, none⟩) (.inl (by simp)) _).setCell (p := ⟨W0.heap.size, 3, none⟩) (.inl (by simp)) _)
    refine ⟨.inr ⟨hbad, _, _, _, tb, rfl, (htabE'.out.ch hCE (by simp; exact fun h => by omega)).more (by omega)⟩, ?_⟩
    exact (hCW6'.out.trans' hCh'.out (fun k hk => by simp at hk ⊢; omega)).trans' hCE (fun k hk => by simp at hk ⊢; omega)
  case first =>
  go_wp2_with fail
  go_loopw [18, 19, 20, 21, 22, 23, 24, 25, 26, 27, 28] (fun s18 s19 s20 s21 s22 s23 s24 s25 s26 s27 s28 wx => ∃ j : Nat, j ≤ Ls.length ∧ Cr w1.heap.size W1.heap.size (W1.heap.size + 1) zb nb db (8 + (setsB (Ls.take j)).length) (setsB (Ls.drop j) ++ tail) wx ∧
      (∃ k, Man w6.heap.size w7.heap.size tb k (bok0.run (Ls.take j).flatten).f (1000 * j) (1000 * j) (bok0.run (Ls.take j).flatten).made (bok0.run (Ls.take j).flatten).dropped wx) ∧ (bok0.run (Ls.take j).flatten).made + (bok0.run (Ls.take j).flatten).dropped ≤ 1000 * j ∧ Ch [w1.heap.size, W1.heap.size, W1.heap.size + 1, zb] w6 wx)
    (fun s18 s19 s20 s21 s22 s23 s24 s25 s26 s27 s28 wx => match wx.cell? ⟨w1.heap.size, 1, none⟩ with
      | some (.int _ z) => data.length - z.toNat
      | _ => 0)
  case atStart =>
    exact ⟨0, Nat.zero_le _, by simpa [setsB] using hCr6'.out.ch hC68'.out (by simp) (by simp) (by simp) (by simp) (by simp) (by simp), ⟨0, hM8'.out⟩, Nat.zero_le _, hC68'.out.mono (by simp)⟩
  case round =>
    obtain ⟨j, hj, hCrr, ⟨k', hMr⟩, hsum, hCh⟩ := hrel
    obtain ⟨l, hl⟩ : ∃ l, setsB (Ls.drop j) ++ tail = l := ⟨_, rfl⟩
    obtain ⟨p, hp⟩ : ∃ p, (setsB (Ls.take j)).length = p := ⟨_, rfl⟩
    obtain ⟨q, hq⟩ : ∃ q, 8 + p = q := ⟨_, rfl⟩
    have hpl : q + l.length = data.length := by
      rw [hd'.out, ← hl, ← hq, ← hp, setsB_split Ls j]
      simp [headB_length]
      omega
    rw [hl, hp, hq] at hCrr
    have hstep := file_step hj hl.symm (by omega) (by omega) htl'.out
    have hc1 := hCrr.h.cell 1
    simp at hc1
    have hszr := hCh.size
    obtain ⟨wa, hwa⟩ : ∃ W, wr.alloc (.cells #[.int .u8 0, .int .u8 0, .int .u8 0, .int .u8 0, .int .u8 0, .int .u8 0, .int .u8 0, .int .u8 0] 91) = W := ⟨_, rfl⟩
    have hCa : Ch [] wr wa := by rw [← hwa]; exact (Ch.refl [] wr).alloc _
    have hka : Bk wa wr.heap.size 91 zero8.toArray := by rw [← hwa]; exact Bk.new _ _ _
    have hCra := hCrr.ch hCa (by simp) (by simp) (by simp) (by simp) (by simp) (by simp)
    have hgsa : Gs zb wa := hgs6'.out.ch (hCh.trans_nil hCa) (fun k hk => by simp at hk; omega)
    have hrf := rfCr_any w1.heap.size W1.heap.size (W1.heap.size + 1) zb nb db q wr.heap.size 0 8 8 91 zero8 l wa hA hgsa.gl hCra (by omega) hka (by decide) (by omega) (by omega) (by omega) (by omega) (by omega) (by omega) (by omega) (by omega) (Nat.le_trans hwG (by omega))
    have hCrr' := Lib.hid hCrr
    have hMr' := Lib.hid hMr
    have hsum' := Lib.hid hsum
    have hCh' := Lib.hid hCh
    have hl' := Lib.hid hl
    have hp' := Lib.hid hp
    have hq' := Lib.hid hq
    have hstep' := Lib.hid hstep
    have hCa' := Lib.hid hCa
    have hka' := Lib.hid hka
    have hCra' := Lib.hid hCra
    have hgsa' := Lib.hid hgsa
    have hrf' := Lib.hid hrf
    clear hrf hgsa hCra hka hCa hstep hq hp hl hCh hsum hMr hCrr
    go_wp2_with fail
    try rw [hwa]
    refine hrf'.out.mono ?_
    rintro e wb (⟨h8, rfl, hCrb, hkb, hcb⟩ | ⟨h8, ⟨v, a, rfl, ha⟩, hcb⟩)
    case inr =>
      obtain ⟨hbad, hjl⟩ := hstep'.out.2.1 (.inl h8)
      have hcE : Ch [w1.heap.size, W1.heap.size, W1.heap.size + 1, zb] wr wb := (hCa'.out.mono (by simp)).trans' hcb (fun k hk => by have hs := hCa'.out.size; simp at hk ⊢; omega)
      obtain ⟨a1, a2, r1, r2, e1, e2, q1, q2, hr12⟩ := end_tests (ha.fwd hgsa'.out.gl hcb (fun k hk => by have := hgsa'.out.hB; simp at hk; omega)) (hgsa'.out.ch hcb (fun k hk => by simp at hk; omega))
      have hcb' := Lib.hid hcb
      have ha' := Lib.hid ha
      have hcE' := Lib.hid hcE
      clear hcE ha hcb
      cases r1 with
      | true =>
        --<
        have htk : Ls.take j = Ls := by rw [hjl, List.take_length]
        have hqe : (q : Int) = ((8 + (setsB Ls).length : Nat) : Int) := by rw [← hq'.out, ← hp'.out, htk]
        have hMe := hMr'.out.low hcE'.out (by intro b hb; simp at hb; omega)
        rw [htk] at hMe
        have hjle := Nat.le_of_eq hjl
        have hChE := hCh'.out.trans hcE'.out
        have hMe' := Lib.hid hMe
        have hqe' := Lib.hid hqe
        have hChE' := Lib.hid hChE
        have htk' := Lib.hid htk
        clear htk hChE hqe hMe
        clear hjl
        go_wp2_with fail
        go_meet
        exact ⟨hbad, by rw [hqe'.out], ⟨k', hMe'.out.more (Nat.mul_le_mul_left _ hjle) (Nat.mul_le_mul_left _ hjle)⟩, hChE'.out⟩
        -->
      | false =>
        obtain rfl := hr12 rfl
        --<
        have htk : Ls.take j = Ls := by rw [hjl, List.take_length]
        have hqe : (q : Int) = ((8 + (setsB Ls).length : Nat) : Int) := by rw [← hq'.out, ← hp'.out, htk]
        have hMe := hMr'.out.low hcE'.out (by intro b hb; simp at hb; omega)
        rw [htk] at hMe
        have hjle := Nat.le_of_eq hjl
        have hChE := hCh'.out.trans hcE'.out
        have hMe' := Lib.hid hMe
        have hqe' := Lib.hid hqe
        have hChE' := Lib.hid hChE
        have htk' := Lib.hid htk
        clear htk hChE hqe hMe
        clear hjl
        go_wp2_with fail
        go_meet
        exact ⟨hbad, by rw [hqe'.out], ⟨k', hMe'.out.more (Nat.mul_le_mul_left _ hjle) (Nat.mul_le_mul_left _ hjle)⟩, hChE'.out⟩
        -->
    have hs8 : List.take 4 (List.take 8 l) = l.take 4 := by rw [List.take_take]; rfl
    have hs9 : List.drop 4 (List.take 8 l) = (l.drop 4).take 4 := by rw [List.drop_take]
    have hB0 : Bs wb wr.heap.size 0 (l.take 8) := bs_splice hkb (Nat.zero_le _)
    have hB1 : Bs wb wr.heap.size 0 (l.take 4) := by rw [← hs8]; exact hB0.take 4
    have hB2 : Bs wb wr.heap.size 4 ((l.drop 4).take 4) := by rw [← hs9]; simpa using hB0.drop 4
    have hcB : Ch [w1.heap.size, W1.heap.size, W1.heap.size + 1, zb] wr wb := (hCa'.out.mono (by simp)).trans' hcb (fun k hk => by have hs := hCa'.out.size; simp at hk ⊢; omega)
    have hgsb : Gs zb wb := hgsa'.out.ch hcb (fun k hk => by simp at hk; omega)
    have hBu := bytesToU32_any wr.heap.size 0 8 (l.take 4) wb hB1 (by simp; omega)
    have h4a := hstep'.out.1 h8
    obtain ⟨L, hL⟩ : ∃ L, Lib.beNat (l.take 4) = L := ⟨_, rfl⟩
    rw [hL] at hBu h4a
    have hszb := hcB.size
    have hwb : wr.heap.size < wb.heap.size := Nat.lt_of_lt_of_le hka'.out.lt hcb.size
    have hcb' := Lib.hid hcb
    have hkb' := Lib.hid hkb
    have hCrb' := Lib.hid hCrb
    have hB0' := Lib.hid hB0
    have hB1' := Lib.hid hB1
    have hB2' := Lib.hid hB2
    have hcB' := Lib.hid hcB
    have hgsb' := Lib.hid hgsb
    have hBu' := Lib.hid hBu
    have hL' := Lib.hid hL
    have hs8' := Lib.hid hs8
    have hs9' := Lib.hid hs9
    clear hs9 hs8 hL hBu hgsb hcB hB2 hB1 hB0 hCrb hkb hcb
    go_wp2_with fail
    refine hBu'.out.mono ?_
    rintro e wv ⟨rfl, hBc⟩
    have hCc : Ch [] wb wv := Ch.of_below hBc
    have hsW := (hst6'.out.ch hCh'.out (by simp; omega)).ch (hcB'.out.trans_nil hCc) (by simp; omega)
    have i0 := hsW.cell 0
    simp at i0
    have hnc := (hno6'.out.ch hCh'.out (by simp; omega)).ch (hcB'.out.trans_nil hCc) (by simp; omega)
    have hszc := size_any nb N c _ _ _ _ wv hnc
    have uN : IntKind.u32.wrap (N : Int) = (N : Int) := IntWalk.u32_in _ (by omega)
    have nLN : ¬ (N : Int) < (L : Int) := by omega
    have hBc' := Lib.hid hBc
    have hCc' := Lib.hid hCc
    have hsW' := Lib.hid hsW
    have hnc' := Lib.hid hnc
    have hszc' := Lib.hid hszc
    clear hszc hnc hsW hCc hBc
    go_wp2_with fail
    refine hszc'.out.mono ?_
    rintro e wd ⟨rfl, hCd⟩
    have hCbd : Ch [] wb wd := hCc'.out.trans_nil hCd
    have hszd := hCbd.size
    have hmk := run_mkB .u32 .u32 L (L : Int) rfl (by omega)
    obtain ⟨wn, hwn⟩ : ∃ W, wd.alloc (.cells (Array.replicate L (Value.int .u8 0)) 5) = W := ⟨_, rfl⟩
    have hCn : Ch [] wb wn := by rw [← hwn]; exact hCbd.alloc _
    have hkn : Bk wn wd.heap.size 5 (List.replicate L (Value.int .u8 0)).toArray := by rw [← hwn]; rw [show (List.replicate L (Value.int .u8 0)).toArray = Array.replicate L (Value.int .u8 0) from by simp]; exact Bk.new _ _ _
    have hCrn := hCrb'.out.ch hCn (by simp) (by simp) (by simp) (by simp) (by simp) (by simp)
    have hgsn := hgsb'.out.ch hCn (by simp)
    have hszn := hCn.size
    have hkdn : wd.heap.size < wn.heap.size := hkn.lt
    have hrf2 := rfCr_any w1.heap.size W1.heap.size (W1.heap.size + 1) zb nb db (q + 8) wd.heap.size 0 L L 5 (List.replicate L (Value.int .u8 0)) (l.drop 8) wn hA hgsn.gl hCrn (by simp; omega) hkn (by simp) (Nat.le_refl _) (by omega) (by omega) (by omega) (by omega) (by omega) (by omega) (by omega) (Nat.le_trans hwG (by omega))
    have hCd' := Lib.hid hCd
    have hCbd' := Lib.hid hCbd
    have hCn' := Lib.hid hCn
    have hkn' := Lib.hid hkn
    have hCrn' := Lib.hid hCrn
    have hgsn' := Lib.hid hgsn
    have hrf2' := Lib.hid hrf2
    clear hrf2 hgsn hCrn hkn hCn hCbd hCd
    go_wp2_with fail
    try rw [hwn]
    refine hrf2'.out.mono ?_
    rintro e we (⟨hnl, rfl, hCre, hke, hce⟩ | ⟨hnl, ⟨v, a, rfl, ha⟩, hce⟩)
    case inr =>
      obtain ⟨hbad, hjl⟩ := hstep'.out.2.1 (.inr (by rw [hL'.out]; exact hnl))
      have hcE : Ch [w1.heap.size, W1.heap.size, W1.heap.size + 1, zb] wr we := (hcB'.out.trans_nil hCn'.out).trans' hce (fun k hk => by simp at hk ⊢; omega)
      obtain ⟨a1, a2, r1, r2, e1, e2, q1, q2, hr12⟩ := end_tests (ha.fwd hgsn'.out.gl hce (fun k hk => by have := hgsn'.out.hB; simp at hk; omega)) (hgsn'.out.ch hce (fun k hk => by simp at hk; omega))
      have hce' := Lib.hid hce
      have ha' := Lib.hid ha
      have hcE' := Lib.hid hcE
      clear hcE ha hce
      cases r1 with
      | true =>
        --<
        have htk : Ls.take j = Ls := by rw [hjl, List.take_length]
        have hqe : (q : Int) = ((8 + (setsB Ls).length : Nat) : Int) := by rw [← hq'.out, ← hp'.out, htk]
        have hMe := hMr'.out.low hcE'.out (by intro b hb; simp at hb; omega)
        rw [htk] at hMe
        have hjle := Nat.le_of_eq hjl
        have hChE := hCh'.out.trans hcE'.out
        have hMe' := Lib.hid hMe
        have hqe' := Lib.hid hqe
        have hChE' := Lib.hid hChE
        have htk' := Lib.hid htk
        clear htk hChE hqe hMe
        clear hjl
        go_wp2_with fail
        go_meet
        exact ⟨hbad, by rw [hqe'.out], ⟨k', hMe'.out.more (Nat.mul_le_mul_left _ hjle) (Nat.mul_le_mul_left _ hjle)⟩, hChE'.out⟩
        -->
      | false =>
        obtain rfl := hr12 rfl
        --<
        have htk : Ls.take j = Ls := by rw [hjl, List.take_length]
        have hqe : (q : Int) = ((8 + (setsB Ls).length : Nat) : Int) := by rw [← hq'.out, ← hp'.out, htk]
        have hMe := hMr'.out.low hcE'.out (by intro b hb; simp at hb; omega)
        rw [htk] at hMe
        have hjle := Nat.le_of_eq hjl
        have hChE := hCh'.out.trans hcE'.out
        have hMe' := Lib.hid hMe
        have hqe' := Lib.hid hqe
        have hChE' := Lib.hid hChE
        have htk' := Lib.hid htk
        clear htk hChE hqe hMe
        clear hjl
        go_wp2_with fail
        go_meet
        exact ⟨hbad, by rw [hqe'.out], ⟨k', hMe'.out.more (Nat.mul_le_mul_left _ hjle) (Nat.mul_le_mul_left _ hjle)⟩, hChE'.out⟩
        -->
    clear uN nLN i0 hmk
    obtain ⟨body, hbody⟩ : ∃ b, (l.drop 8).take L = b := ⟨_, rfl⟩
    rw [hbody] at hke
    have hbl2 : body.length = L := by rw [← hbody, List.length_take]; omega
    have hBb : Bs we wd.heap.size 0 body := bs_splice hke (Nat.zero_le _)
    have hB2e : Bs we wr.heap.size 4 ((l.drop 4).take 4) := (hB2'.out.ch hCn'.out (by simp)).ch hce (by simp; omega)
    have hcE : Ch [w1.heap.size, W1.heap.size, W1.heap.size + 1, zb] wr we := (hcB'.out.trans_nil hCn'.out).trans' hce (fun k hk => by simp at hk ⊢; omega)
    obtain ⟨chk, hchk⟩ : ∃ k, Lib.beNat ((l.drop 4).take 4) = k := ⟨_, rfl⟩
    obtain ⟨cr, hcr⟩ : ∃ k, crc32 body = k := ⟨_, rfl⟩
    have hck1 : ∀ W, Ch [] we W → Hid (Calls Tryd.prog 36 #[.slice (some ⟨wd.heap.size, 0, none⟩) L L] W fun e w' => e = .returned (.int .u32 (cr : Int)) ∧ Below W.heap.size W w') := fun W hC => Lib.hid (by
      have h0 := zzChecksum_any (some ⟨wd.heap.size, 0, none⟩) L L body W ⟨hbl2, fun _ => ⟨_, _, rfl, hBb.ch hC (by simp)⟩⟩ (by omega)
      rw [hcr] at h0
      exact h0)
    have hck2 : ∀ W, Ch [] we W → Hid (Calls Tryd.prog 34 #[.slice (some ⟨wr.heap.size, 4, none⟩) 4 4] W fun e w' => e = .returned (.int .u32 (chk : Int)) ∧ Below W.heap.size W w') := fun W hC => Lib.hid (by
      have h0 := bytesToU32_any wr.heap.size 4 4 _ W (hB2e.ch hC (by simp)) (by simp; omega)
      rw [hchk] at h0
      exact h0)
    have hsze := hce.size
    have hCre' := Lib.hid hCre
    have hke' := Lib.hid hke
    have hce' := Lib.hid hce
    have hbody' := Lib.hid hbody
    have hBb' := Lib.hid hBb
    have hB2e' := Lib.hid hB2e
    have hcE' := Lib.hid hcE
    have hchk' := Lib.hid hchk
    have hcr' := Lib.hid hcr
    have hck1' := Lib.hid hck1
    have hck2' := Lib.hid hck2
    clear hck2 hck1 hcr hchk hcE hB2e hBb hbody hce hke hCre
    by_cases hcc : cr = chk
    · obtain ⟨hjl, hLb, hbd, hrest⟩ := hstep'.out.2.2.1 h8 (by rw [hL'.out]; exact hnl) (by rw [hL'.out, hbody'.out, hcr'.out, hchk'.out]; exact hcc)
      rw [hL'.out] at hLb hbd hrest
      rw [hbody'.out] at hbd
      subst hcc
      have hxl := hlim'.out _ (List.getElem_mem hjl)
      have hokj := hok'.out j hjl
      have hq2 : 8 + (setsB (Ls.take (j + 1))).length = q + 8 + L := by rw [setsB_take hjl, List.length_append, setB_length, hp'.out, ← hLb, ← hq'.out]; omega
      have hLb' := Lib.hid hLb
      have hbd' := Lib.hid hbd
      have hrest' := Lib.hid hrest
      have hxl' := Lib.hid hxl
      have hokj' := Lib.hid hokj
      have hq2' := Lib.hid hq2
      clear hq2 hokj hxl hrest hbd hLb
      go_upto_region 33 with fail
      go_cut [124] (fun s124 wx => s124 = .bool false ∧ Ch [] we wx)
      case first =>
        go_region_with (first | (go_at_call 36; with_reducible refine (hck1'.out _ (by first | exact (Ch.refl [] we).drew | exact ((Ch.refl [] we).drew).trans_nil (Ch.of_below (by assumption)))).out.mono ?_; rintro e wx1 ⟨rfl, hbx1⟩) | (go_at_call 34; with_reducible refine (hck2'.out _ (by first | exact (Ch.refl [] we).drew | exact ((Ch.refl [] we).drew).trans_nil (Ch.of_below (by assumption)))).out.mono ?_; rintro e wx2 ⟨rfl, hbx2⟩))
        all_goals
          go_wp2_with fail
          go_meet
          exact ⟨rfl, by first | exact (((Ch.refl [] we).drew).trans_nil (Ch.of_below hbx1)).trans_nil (Ch.of_below hbx2) | exact (((Ch.refl [] we).drew).trans_nil (Ch.of_below hbx2)).trans_nil (Ch.of_below hbx1)⟩
      case rest =>
      obtain ⟨rfl, hC7⟩ := hcut
      obtain ⟨ws, hws⟩ : ∃ W, wc.alloc (.cells #[.slice none 0 0] 106) = W := ⟨_, rfl⟩
      have hCs : Ch [] we ws := by rw [← hws]; exact hC7.alloc _
      have hset : Bk ws wc.heap.size 106 #[.slice none 0 0] := by rw [← hws]; exact Bk.new _ _ _
      have hszs := hC7.size
      have hstl := hset.lt
      have hun := unmarshal_any wc.heap.size wd.heap.size 0 L L (.slice none 0 0) Ls[j] ws hset (by rw [← hbd'.out]; exact hBb'.out.ch hCs (by simp)) hLb'.out.symm (Nat.le_refl _) (by omega) (by omega) (by omega) hxl'.out.2 (by have := hxl'.out.1; omega)
      have hC7' := Lib.hid hC7
      have hCs' := Lib.hid hCs
      have hset' := Lib.hid hset
      have hun' := Lib.hid hun
      clear hun hset hCs hC7
      go_wp2_with fail
      try rw [hws]
      refine hun'.out.mono ?_
      rintro e wg ⟨rfl, A, c', hset2, hChs, hcg⟩
      have hCg : Ch [w1.heap.size, W1.heap.size, W1.heap.size + 1, zb] wr wg := (hcE'.out.trans_nil hCs'.out).trans' hcg (fun k hk => by simp at hk; omega)
      have hMg := hMr'.out.low hCg (by intro b hb; simp at hb; omega)
      have hCrg := (hCre'.out.ch hCs'.out (by simp) (by simp) (by simp) (by simp) (by simp) (by simp)).ch hcg (by simp; omega) (by simp; omega) (by simp; omega) (by simp; omega) (by simp; omega) (by simp; omega)
      have hobg := (hob6'.out.ch hCh'.out (by simp; omega)).ch hCg (by simp; omega)
      have hap := applySet_any w6.heap.size w7.heap.size tb k' wc.heap.size _ (1000 * j) (1000 * j) c' A Ls[j] O wg hMg hset2 hChs hO hokj'.out (fun x hx => (hxl'.out.2 x hx).2) (by have := hxl'.out.1; omega) (by have := hxl'.out.1; omega) (by have := hxl'.out.1; have := hsum'.out; omega)
      have hszg := hCg.size
      have hset2' := Lib.hid hset2
      have hChs' := Lib.hid hChs
      have hcg' := Lib.hid hcg
      have hCg' := Lib.hid hCg
      have hMg' := Lib.hid hMg
      have hCrg' := Lib.hid hCrg
      have hobg' := Lib.hid hobg
      have hap' := Lib.hid hap
      clear hap hobg hCrg hMg hCg hcg hChs hset2
      go_wp2_with (refine wpList_load_row rfl 81 (.tmp 5) rfl w.heap.size rfl 81 O (0, 0) _ hobg'.out Tryd.underlying81 rfl hoi ?_)
      refine hap'.out.mono ?_
      rintro e wh ⟨rfl, k2, hMh, S, hCS, hSS⟩
      have hnS : ∀ x, x < w6.heap.size → x ∉ S := fun x hx hm => by have := hSS.1 _ hm; omega
      have hCrh := hCrg'.out.ch hCS (hnS _ (by omega)) (hnS _ (by omega)) (hnS _ (by omega)) (hnS _ (by omega)) (hnS _ (by omega)) (hnS _ (by omega))
      have hmc := hCrh.h.cell 1
      replace hmc : wh.cell? ⟨w1.heap.size, 1, none⟩ = some (.int .i64 ((q + 8 + L : Nat) : Int)) := hmc
      have hMh' := Lib.hid hMh
      have hCS' := Lib.hid hCS
      have hSS' := Lib.hid hSS
      have hnS' := Lib.hid hnS
      have hCrh' := Lib.hid hCrh
      have hmc' := Lib.hid hmc
      clear hmc hCrh hnS hSS hCS hMh
      go_wp2_with fail
      go_roundw
      case rel =>
        refine ⟨j + 1, hjl, by rw [hq2'.out, ← hrest'.out]; exact hCrh'.out, ⟨k2, by rw [run_sets _ hjl]; exact hMh'.out.more (by have := hxl'.out.1; omega) (by have := hxl'.out.1; omega)⟩, ?_, ?_⟩
        · rw [run_sets bok0 hjl, Bok.run_sum]
          have := hxl'.out.1
          have := hsum'.out
          omega
        · exact (hCh'.out.trans hCg'.out).trans' hCS'.out (fun k hk => .inr (hSS'.out.1 k hk))
      case measure =>
        rw [hmc'.out, hc1]
        show data.length - ((q + 8 + L : Nat) : Int).toNat < data.length - ((q : Nat) : Int).toNat
        rw [Int.toNat_natCast, Int.toNat_natCast]
        omega
    · have hccI : ¬ ((cr : Int) = (chk : Int)) := by omega
      have hbad := hstep'.out.2.2.2 h8 (by rw [hL'.out]; exact hnl) (by rw [hL'.out, hbody'.out, hcr'.out, hchk'.out]; exact hcc)
      go_upto_region 33 with fail
      go_cut [124] (fun s124 wx => s124 = .bool true ∧ Ch [] we wx)
      case first =>
        go_region_with (first | (go_at_call 36; with_reducible refine (hck1'.out _ (by first | exact (Ch.refl [] we).drew | exact ((Ch.refl [] we).drew).trans_nil (Ch.of_below (by assumption)))).out.mono ?_; rintro e wx1 ⟨rfl, hbx1⟩) | (go_at_call 34; with_reducible refine (hck2'.out _ (by first | exact (Ch.refl [] we).drew | exact ((Ch.refl [] we).drew).trans_nil (Ch.of_below (by assumption)))).out.mono ?_; rintro e wx2 ⟨rfl, hbx2⟩))
        all_goals
          go_wp2_with fail
          go_meet
          exact ⟨by first | rfl | (simp; exact hccI), by first | exact (((Ch.refl [] we).drew).trans_nil (Ch.of_below hbx1)).trans_nil (Ch.of_below hbx2) | exact (((Ch.refl [] we).drew).trans_nil (Ch.of_below hbx2)).trans_nil (Ch.of_below hbx1)⟩
      case rest =>
      obtain ⟨rfl, hC7⟩ := hcut
      have hgs7 := hgsn'.out.ch (hce'.out.trans_nil hC7) (fun k hk => by simp at hk; omega)
      obtain ⟨a5, e5, _⟩ := hgs7.tr
      have hC7w : Ch [zb] w wc := (hCW6'.out.trans' (hCh'.out.trans (hcE'.out.trans_nil hC7)) (fun k hk => by simp at hk ⊢; omega))
      have hrsE := (((hrs6'.out.ch hCh'.out (by simp; omega)).ch hcE'.out (by simp; omega)).ch hC7 (by simp))
      have r0 := hrsE.cell 0
      have r1 := hrsE.cell 1
      have r2 := hrsE.cell 2
      have r3 := hrsE.cell 3
      have f0 := hrsE.free 0
      have f1 := hrsE.free 1
      have f2 := hrsE.free 2
      have f3 := hrsE.free 3
      simp at r0 r1 r2 r3
      have hrsE' := Lib.hid hrsE
      have hC7' := Lib.hid hC7
      have hC7w' := Lib.hid hC7w
      have hgs7' := Lib.hid hgs7
      clear hgs7 hC7w hC7 hrsE
      have g5 : ¬ (5 : Nat) = W0.heap.size := by have hwG' := hwG; unfold glN at hwG'; omega
      have g5' : ¬ W0.heap.size = (5 : Nat) := fun h => g5 h.symm
      go_upto_region 34 with fail
      go_cut [7, 8] (fun s7 s8 wx => s7 = .int .i64 0 ∧ s8 = .iface 119 (.pointer (some a5)) ∧ Bk wx W0.heap.size 57 #[.slice none 0 0, .map none, .int .i64 0, .int .i64 0] ∧ Ch [W0.heap.size] wc wx)
      case first =>
        go_region
        all_goals
          go_wp2_with fail
          go_meet
          refine ⟨rfl, rfl, ?_, ?_⟩
          · exact Bk.drew (by simpa using (((hrsE'.out.set 0 (.slice none 0 0)).set 1 (.map none)).set 2 (.int .i64 0)).set 3 (.int .i64 0))
          · exact (((((Ch.refl [W0.heap.size] wc).setCell (p := ⟨W0.heap.size, 0, none⟩) (.inl (by simp)) _).setCell (p := ⟨W0.heap.size, 1, none⟩) (.inl (by simp)) _).setCell (p := ⟨W0.heap.size, 2, none⟩) (.inl (by simp)) _).setCell (p := ⟨W0.heap.size, 3, none⟩) (.inl (by simp)) _).drew
      case rest =>
      obtain ⟨rfl, rfl, hE, hCE⟩ := hcut
      have e0 := hE.cell 0
      have e1 := hE.cell 1
      have e2 := hE.cell 2
      have e3 := hE.cell 3
      simp at e0 e1 e2 e3
      clear r0 r1 r2 r3 f0 f1 f2 f3 e5
      have hE' := Lib.hid hE
      have hCE' := Lib.hid hCE
      clear hCE hE
      go_wp2_with fail
      refine bodyPost_ret (v := .tuple #[.agg #[.slice none 0 0, .map none, .int .i64 0, .int .i64 0], .int .i64 0, .iface 119 (.pointer (some a5))]) (by simp [results, Tryd.results23, go_sem, e0, e1, e2, e3]) rfl ?_
      exact ⟨.inl ⟨hbad, _, rfl⟩, hC7w'.out.trans' hCE'.out (by simp; omega)⟩
end Go.Proofs.YtkjgkjmaoebeoaaDoor
