/-
  Contracts of the functions that read a pointer back.
-/
import Derived.Test.YtakpiopiboipnaaPtr
import Derived.Deep.RegionWith
namespace Go.Proofs.Ytakpiopiboipnaa
open Go Go.RowKit
open Go.Proofs

set_option maxHeartbeats 1000000 in
theorem u32LE_any (g o n c : Nat) (l : List UInt8) (w : World) (h : Bs w g o l) (hl : 4 ≤ l.length) (hn : 4 ≤ n) :
    Calls Try.prog 47 #[.agg #[], .slice (some ⟨g, o, none⟩) n c] w fun e w' => e = .returned (.int .u32 (Lib.leNat (l.take 4) : Nat)) ∧ Below w.heap.size w w' := by
  match l, hl, h with
  | b0 :: b1 :: b2 :: b3 :: r, _, h =>
    exact Try.binary_LE_Uint32 g o n c b0 b1 b2 b3 w hn (h 0 (by simp)) (h 1 (by simp)) (h 2 (by simp)) (h 3 (by simp))

set_option maxHeartbeats 1000000 in
theorem decode_any (bp g c : Nat) (x0 x1 x2 : Value) (l : List UInt8) (w : World) (hp : Bk w bp 62 #[x0, x1, x2]) (h : Bs w g 0 l) (hl : 12 ≤ l.length) (hc : l.length ≤ c) (hne : g ≠ bp) :
    Calls Try.prog 38 #[.pointer (some ⟨bp, 0, none⟩), .slice (some ⟨g, 0, none⟩) l.length c] w fun e w' => e = .returned (.tuple #[]) ∧
      Bk w' bp 62 #[.int .u32 (Lib.leNat (l.take 4) : Nat), .int .u32 (Lib.leNat ((l.drop 4).take 4) : Nat), .int .u32 (Lib.leNat ((l.drop 8).take 4) : Nat)] ∧ w.grownBy w' (some bp) := by
  have c0 := hp.cell 0
  have f0 := hp.free 0
  simp at c0
  go_enter Try.func38, Try.ntmps38
  go_wp2_with fail
  refine (u32LE_any g 0 _ _ l w h (by omega) (by omega)).mono ?_
  rintro e w1 ⟨rfl, hb1⟩
  have hp1 := Lib.hid (hp.below hb1 hp.lt)
  have c1 := hp1.out.cell 0
  have f1 := hp1.out.free 0
  simp at c1
  have hlt : g < w.heap.size := h.lt (by omega)
  have h1 := Lib.hid (h.below hb1 hlt)
  go_wp2_with fail
  have hc4 : ¬ c = 4 := by omega
  have h2 := Lib.hid ((h1.out.far (p := ⟨bp, 0, none⟩) hne (Value.int IntKind.u32 ↑(Lib.leNat (List.take 4 l)))).drew.drop 4)
  have hp2 := Lib.hid ((hp1.out.set 0 (Value.int IntKind.u32 ↑(Lib.leNat (List.take 4 l)))).drew)
  go_region_with (go_at_call 47; refine (u32LE_any g 4 _ _ (l.drop 4) _ h2.out (by simp; omega) (by omega)).mono ?_; rintro e w2 ⟨rfl, hb2⟩; have hp3 := Lib.hid (hp2.out.below hb2 hp2.out.lt); have c2 := hp3.out.cell 1; have f2 := hp3.out.free 1; simp at c2)
  go_wp2_with fail
  have hc8 : ¬ c = 8 := by omega
  have h3 := Lib.hid (((h2.out.below hb2 (h2.out.lt (by simp; omega))).far (p := ⟨bp, 1, none⟩) hne (Value.int IntKind.u32 ↑(Lib.leNat (List.take 4 (List.drop 4 l))))).drew.drop 4)
  have hp4 := Lib.hid ((hp3.out.set 1 (Value.int IntKind.u32 ↑(Lib.leNat (List.take 4 (List.drop 4 l))))).drew)
  go_region_with (go_at_call 47; refine (u32LE_any g 8 _ _ ((l.drop 4).drop 4) _ h3.out (by simp; omega) (by omega)).mono ?_; rintro e w3 ⟨rfl, hb3⟩; have hp5 := Lib.hid (hp4.out.below hb3 hp4.out.lt); have c3 := hp5.out.cell 2; have f3 := hp5.out.free 2; simp at c3)
  go_wp2_with fail
  go_end0
  refine ⟨rfl, ?_, ?_⟩
  · have := hp5.out.set 2 (Value.int IntKind.u32 ↑(Lib.leNat (List.take 4 (List.drop 4 (List.drop 4 l)))))
    simpa [List.drop_drop] using this
  · have g1 := grown_setCell (grown_of_below hb1 (some bp)) (p := ⟨bp, 0, none⟩) (.inl rfl) (Value.int IntKind.u32 ↑(Lib.leNat (List.take 4 l)))
    have g2 := grown_setCell (grown_trans (grown_drew g1) (grown_of_below hb2 (some bp))) (p := ⟨bp, 1, none⟩) (.inl rfl) (Value.int IntKind.u32 ↑(Lib.leNat (List.take 4 (List.drop 4 l))))
    exact grown_setCell (grown_trans (grown_drew g2) (grown_of_below hb3 (some bp))) (p := ⟨bp, 2, none⟩) (.inl rfl) _

set_option maxHeartbeats 1000000 in
theorem zzBack_any (g c : Nat) (l : List UInt8) (w : World) (h : Bs w g 0 l) (hl : 12 ≤ l.length) (hc : l.length ≤ c) :
    Calls Try.prog 25 #[.slice (some ⟨g, 0, none⟩) l.length c] w fun e w' => e = .returned (.tuple #[.int .u32 (Lib.leNat (l.take 4) : Nat), .int .u32 (Lib.leNat ((l.drop 4).take 4) : Nat), .int .u32 (Lib.leNat ((l.drop 8).take 4) : Nat)]) ∧ Below w.heap.size w w' := by
  have hg := h.lt (by omega)
  go_enter Try.func25, Try.ntmps25
  go_wp2_with fail
  refine (decode_any w.heap.size g c _ _ _ l _ (Bk.at_ _ _ _ _ rfl) (h.alloc _) hl hc (by omega)).mono ?_
  rintro e w1 ⟨rfl, hp, hgr⟩
  have hbl : Below w.heap.size w w1 := ((Below.refl _ _).alloc (Nat.le_refl _) _).grown hgr (by simp) (by simp)
  have c0 := hp.cell 0
  have c1 := hp.cell 1
  have c2 := hp.cell 2
  simp at c0 c1 c2
  have hp' := Lib.hid hp
  clear hp
  go_wp2_with fail
  go_quiet (fail)
  go_wp2_with fail
  go_ret3
  exact ⟨rfl, ⟨hbl.os, hbl.tape, hbl.output, hbl.size, hbl.block⟩⟩

set_option maxHeartbeats 1000000 in
theorem implBack_any (s : ByteArray) (w : World) (hl : 12 ≤ s.data.toList.length) :
    Calls Try.prog 9 #[.string s] w fun e w' => e = .returned (.tuple #[.int .u32 (Lib.leNat (s.data.toList.take 4) : Nat), .int .u32 (Lib.leNat ((s.data.toList.drop 4).take 4) : Nat), .int .u32 (Lib.leNat ((s.data.toList.drop 8).take 4) : Nat), .bool true]) ∧ Below w.heap.size w w' := by
  have hsz : s.data.toList.length = s.size := Array.length_toList
  go_enter Try.func9, Try.ntmps9
  go_wp2_with (refine wpList_s2b rfl 9 46 5 _ rfl Try.underlying9 Try.underlying46 Try.underlying5 s rfl ?_)
  intro w1 c hb1 hs1 hbs hsc
  have hz := zzBack_any w.heap.size c s.data.toList w1 hbs hl (by omega)
  rw [hsz] at hz
  have hz' := Lib.hid hz
  have hsz' := Lib.hid hsz
  clear hz hsz hs1
  go_wp2_with fail
  refine hz'.out.mono ?_
  rintro e w2 ⟨rfl, hb2⟩
  go_wp2_with fail
  refine bodyPost_ret (res_tmp4 rfl _ _ _) rfl ?_
  exact ⟨rfl, below_step hb1 hb1.size hb2⟩

theorem leNat4 (n : Nat) (hn : n < 4294967296) (r : List UInt8) : Lib.leNat ((Lib.leBytes 4 n ++ r).take 4) = n := by
  rw [List.take_append_of_le_length (by rw [Lib.leBytes_length]; omega), List.take_of_length_le (by rw [Lib.leBytes_length]; omega)]
  exact Lib.leNat_leBytes 4 n (by omega)

theorem drop4 (n : Nat) (r : List UInt8) : (Lib.leBytes 4 n ++ r).drop 4 = r := by
  rw [List.drop_append_of_le_length (by rw [Lib.leBytes_length]; omega), List.drop_of_length_le (by rw [Lib.leBytes_length]; omega)]
  rfl

set_option maxHeartbeats 1000000 in
/-- THE WALK of FnPointer: it returns true. -/
theorem fnPointer_walk (a b c : Nat) (ha : a < 4294967296) (hb : b < 4294967296) (hc : c < 4294967296) (s : ByteArray) (w : World) :
    Calls Try.prog 3 #[.int .u32 (a : Int), .int .u32 (b : Int), .int .u32 (c : Int), .string s] w fun e w' => e = .returned (.bool true) ∧ Below w.heap.size w w' := by
  by_cases h1 : 100 < s.size
  · go_enter Try.func3, Try.ntmps3
    by_cases h2 : 2147483647 < s.size
    all_goals
      go_wp2_with fail
      go_ret
      exact ⟨rfl, Below.refl _ _⟩
  · have hd : (ByteArray.mk (ptrBytes a b c).toArray ++ s).data.toList = Lib.leBytes 4 a ++ (Lib.leBytes 4 b ++ (Lib.leBytes 4 c ++ s.data.toList)) := by
      simp [ByteArray.data_append, ptrBytes]
    have hB := fun W => Lib.hid (implBack_any (ByteArray.mk (ptrBytes a b c).toArray ++ s) W (by rw [hd]; simp [Lib.leBytes_length]; omega))
    rw [hd] at hB
    have e8 : (Lib.leBytes 4 a ++ (Lib.leBytes 4 b ++ (Lib.leBytes 4 c ++ s.data.toList))).drop 8 = Lib.leBytes 4 c ++ s.data.toList := by
      rw [show 8 = 4 + 4 from rfl, ← List.drop_drop, drop4, drop4]
    rw [drop4, e8, leNat4 a ha, leNat4 b hb, leNat4 c hc] at hB
    have hp12 := ptrBytes_length a b c
    clear hd e8
    go_enter Try.func3, Try.ntmps3
    go_wp2_with fail
    refine (implPointer_any a b c ha hb hc _).mono ?_
    rintro e w1 ⟨rfl, hb1⟩
    go_wp2_with fail
    refine (hB _).out.mono ?_
    rintro e w2 ⟨rfl, hb2⟩
    go_wp2_with fail
    refine (specPointer_any a b c ha hb hc _).mono ?_
    rintro e w3 ⟨rfl, hb3⟩
    go_wp2_with fail
    go_ret
    exact ⟨rfl, below_step (below_step hb1 hb1.size hb2) (Nat.le_trans hb1.size hb2.size) hb3⟩
end Go.Proofs.Ytakpiopiboipnaa
