/-
  Contracts of the functions that FnPointer reaches.
-/
import Derived.Test.YtakpiopiboipnaaRows
import Derived.Test.YtakpiopiboipnaaShelf
import Derived.Test.YtakpiopiboipnaaMem
namespace Go.Proofs.Ytakpiopiboipnaa
open Go Go.RowKit
open Go.Proofs

theorem u8info : (Try.prog.info? 5).map (fun i => (i.zero, i.size, i.bytes)) = some (some (.int .u8 0), 1, 1) := by kernel_rfl

theorem le4_cells (n : Nat) (hn : n < 4294967296) : Lib.byteCells (Lib.leBytes 4 n) = [Value.int .u8 ((n : Int) % 256), Value.int .u8 ((n : Int) / 256 % 256), Value.int .u8 ((n : Int) / 65536 % 256), Value.int .u8 ((n : Int) / 16777216)] := by
  have e0 : ((n % 256 : Nat) : Int) = (n : Int) % 256 := by omega
  have e1 : ((n / 256 % 256 : Nat) : Int) = (n : Int) / 256 % 256 := by omega
  have e2 : ((n / 256 / 256 % 256 : Nat) : Int) = (n : Int) / 65536 % 256 := by omega
  have e3 : ((n / 256 / 256 / 256 % 256 : Nat) : Int) = (n : Int) / 16777216 := by omega
  simp only [Lib.byteCells, Lib.leBytes, List.map, Lib.toUInt8_mod, e0, e1, e2, e3]

theorem bs_of_cells {w : World} {b o : Nat} {l : List UInt8} (h : ∀ j u, (Lib.byteCells l)[j]? = some u → w.cell? ⟨b, o + j, none⟩ = some u) : Bs w b o l := by
  intro j hj
  exact h j _ (by simp [Lib.byteCells, hj])

set_option maxHeartbeats 400000 in
theorem little_any (n : Nat) (hn : n < 4294967296) (w : World) :
    Calls Try.prog 26 #[.int .u32 (n : Int)] w fun e w' => e = .returned (.string ⟨(Lib.leBytes 4 n).toArray⟩) ∧ Below w.heap.size w w' := by
  have hc := Lib.hid (le4_cells n hn)
  go_enter Try.func26, Try.ntmps26
  go_wp2_with (refine wpList_b2s rfl 46 9 5 _ rfl Try.underlying46 Try.underlying5 Try.underlying9 w.heap.size 0 4 4 rfl (Lib.leBytes 4 n) (Lib.leBytes_length 4 n) ?hc ?_)
  case hc =>
    apply bs_of_cells
    rw [hc.out]
    intro j u hj
    match j, hj with
    | 0, hj => simp at hj; subst hj; simp
    | 1, hj => simp at hj; subst hj; simp
    | 2, hj => simp at hj; subst hj; simp
    | 3, hj => simp at hj; subst hj; simp
  go_ret
  exact ⟨rfl, (Below.refl _ _).alloc (Nat.le_refl _) _⟩

theorem size_mk (l : List UInt8) : (ByteArray.mk l.toArray).size = l.length := by simp [ByteArray.size]
theorem app_mk (l m : List UInt8) : (ByteArray.mk l.toArray) ++ (ByteArray.mk m.toArray) = ByteArray.mk (l ++ m).toArray := by
  apply ByteArray.ext
  simp [ByteArray.data_append]

def ptrBytes (a b c : Nat) : List UInt8 := Lib.leBytes 4 a ++ Lib.leBytes 4 b ++ Lib.leBytes 4 c
theorem ptrBytes_length (a b c : Nat) : (ptrBytes a b c).length = 12 := by simp [ptrBytes, Lib.leBytes_length]

set_option maxHeartbeats 400000 in
theorem specPointer_any (a b c : Nat) (ha : a < 4294967296) (hb : b < 4294967296) (hc : c < 4294967296) (w : World) :
    Calls Try.prog 10 #[.int .u32 (a : Int), .int .u32 (b : Int), .int .u32 (c : Int)] w fun e w' => e = .returned (.string ⟨(ptrBytes a b c).toArray⟩) ∧ Below w.heap.size w w' := by
  go_enter Try.func10, Try.ntmps10
  go_wp2_with fail
  refine (little_any a ha _).mono ?_
  rintro e w1 ⟨rfl, hb1⟩
  go_wp2_with fail
  refine (little_any b hb _).mono ?_
  rintro e w2 ⟨rfl, hb2⟩
  go_wp2_with fail
  refine (little_any c hc _).mono ?_
  rintro e w3 ⟨rfl, hb3⟩
  go_wp2_with fail
  go_ret
  refine ⟨?_, below_step (below_step (below_step (Below.refl _ _) (Nat.le_refl _) hb1) hb1.size hb2) (Nat.le_trans hb1.size hb2.size) hb3⟩
  rw [app_mk, app_mk]
  rfl

set_option maxHeartbeats 1000000 in
theorem appendLE4_any (n : Nat) (hn : n < 4294967296) (base : Nat) (v : Value) (l r : List UInt8) (w : World) (hown : OwnB w base 5 v l) (hbase : base ≤ w.heap.size) (hlen : l.length ≤ 4294967296) (hr : l ++ Lib.leBytes 4 n = r) :
    Calls Try.prog 46 #[.agg #[], v, .int .u32 (n : Int)] w fun e w' => ∃ v', e = .returned v' ∧
      OwnB w' base 5 v' r ∧ w.grownBy w' v.ownBlock := by
  obtain ⟨i0, hi, hz0, hz1, hz2⟩ := info_parts u8info
  have hc := Lib.hid (le4_cells n hn)
  have hr' := Lib.hid hr
  clear hr
  have hl4 := Lib.leBytes_length 4 n
  go_enter Try.func46, Try.ntmps46
  go_wp2_with (first | (at_builtin; refine wpList_appendB rfl _ _ 46 rfl 5 i0 Try.underlying46 hi hz0 hz1 hz2 base v l rfl ((hown.alloc _).alloc _) _ _ _ rfl (Lib.leBytes 4 n) ?hsrc ?hlen ?hb r hr'.out ?_) | fail)
  case hsrc =>
    refine ⟨hl4, fun _ => ⟨_, _, rfl, bs_of_cells ?_⟩⟩
    rw [hc.out]
    intro j u hj
    match j, hj with
    | 0, hj => simp at hj; subst hj; simp
    | 1, hj => simp at hj; subst hj; simp
    | 2, hj => simp at hj; subst hj; simp
    | 3, hj => simp at hj; subst hj; simp
  case hlen => rw [hl4]; omega
  case hb => simp; omega
  intro v' w' h1 h2 _
  go_wp2_with fail
  go_ret
  exact ⟨v', rfl, h1, grown_trans (grown_alloc (grown_alloc (World.grownBy.refl _ _) _) _) h2⟩

def ptrNth (a b c : Nat) : Nat → Nat | 0 => a | 1 => b | _ => c
theorem ptrTake (a b c k : Nat) (hk : k < 3) : (ptrBytes a b c).take (4 * (k + 1)) = (ptrBytes a b c).take (4 * k) ++ Lib.leBytes 4 (ptrNth a b c k) := by
  match k, hk with
  | 0, _ => simp [ptrBytes, ptrNth, Lib.leBytes]
  | 1, _ => simp [ptrBytes, ptrNth, Lib.leBytes]
  | 2, _ => simp [ptrBytes, ptrNth, Lib.leBytes]

set_option maxHeartbeats 1000000 in
theorem encode_any (a b c : Nat) (ha : a < 4294967296) (hb : b < 4294967296) (hc : c < 4294967296) (w : World) :
    Calls Try.prog 37 #[.agg #[.int .u32 (a : Int), .int .u32 (b : Int), .int .u32 (c : Int)]] w fun e w' => ∃ v, e = .returned v ∧
      w'.ownsRow w.heap.size 5 1 v 12 (Lib.byteCells (ptrBytes a b c)) ∧ Below w.heap.size w w' := by
  obtain ⟨i0, hi, hz0, hz1, hz2⟩ := info_parts u8info
  have hmk : ∀ W : World, (Instr.makeSlice 46 (.int .i64 0) (.int .i64 12)).run Try.prog W = .ok (.slice (some ⟨W.heap.size, 0, none⟩) 0 12) (W.alloc (.cells (madeCells #[.int .u8 0] (12 * i0.size)) 5)) :=
    fun W => run_make_rowN (P := Try.prog) 46 5 i0 (.int .u8 0) Try.underlying46 hi hz0 .i64 .i64 0 12 (by omega) (by omega) (by omega) W
  go_enter Try.func37, Try.ntmps37
  go_wp2_with fail
  go_loopw [3, 15] (fun v i wr => ∃ k : Nat, k ≤ 3 ∧ i = .int .i64 k ∧ OwnB wr w.heap.size 5 v ((ptrBytes a b c).take (4 * k)) ∧
      Bk wr (w.heap.size + 1 + 1) 22 #[.int .u32 (a : Int), .int .u32 (b : Int), .int .u32 (c : Int)] ∧ Below w.heap.size w wr)
    (fun _ i _ => 3 - (intOf i).toNat)
  case atStart =>
    refine ⟨0, by omega, rfl, ?_, Bk.at_ _ _ _ _ (by simp), ((((Below.refl _ _).alloc (Nat.le_refl _) _).alloc (by simp) _).alloc (by simp; omega) _)⟩
    have h1 := (World.ownsRow_made (w.alloc (Obj.cells #[Value.int IntKind.u32 ↑a, Value.int IntKind.u32 ↑b, Value.int IntKind.u32 ↑c] 62)) (base := w.heap.size) (e := 5) (size := 1) (madeCells #[.int .u8 0] 12) 12 (by simp) (by unfold maxLen; omega) (by simp [madeCells])).alloc
      (Obj.cells #[Value.int IntKind.u32 ↑a, Value.int IntKind.u32 ↑b, Value.int IntKind.u32 ↑c] 22)
    simpa [OwnB, Lib.byteCells] using h1
  case round =>
    obtain ⟨k, hk, rfl, hown, hbk, hbl⟩ := hrel
    have hl12 := ptrBytes_length a b c
    by_cases hlt : k < 3
    · have hcell : wr.cell? ⟨w.heap.size + 1 + 1, k, none⟩ = some (.int .u32 (ptrNth a b c k : Nat)) := by
        rw [hbk.cell]
        match k, hlt with
        | 0, _ => rfl
        | 1, _ => rfl
        | 2, _ => rfl
      have hn : ptrNth a b c k < 4294967296 := by
        match k, hlt with
        | 0, _ => exact ha
        | 1, _ => exact hb
        | 2, _ => exact hc
      have hT := Lib.hid (ptrTake a b c k hlt)
      have hpl : ((ptrBytes a b c).take (4 * k)).length ≤ 12 := by simp; omega
      go_wp2_with fail
      refine (appendLE4_any _ hn w.heap.size _ _ _ wr hown hbl.size (by omega) hT.out.symm).mono ?_
      rintro e w1 ⟨v', rfl, hown1, hg1⟩
      have hbk1 := Lib.hid (hbk.grown hg1 (hown.apart hbk (by decide)).symm)
      have hbl1 := Lib.hid (hbl.grown hg1 hbl.size (fun g hg => (hown.lt g hg).1))
      have hown1' := Lib.hid hown1
      clear hown1 hown
      go_wp2_with fail
      go_roundw
      case rel =>
        exact ⟨k + 1, by omega, by go_num, hown1'.out, hbk1.out, hbl1.out⟩
      case measure => simp [intOf]; omega
    · obtain rfl : k = 3 := by omega
      have h12 : (ptrBytes a b c).take 12 = ptrBytes a b c := List.take_of_length_le (by omega)
      have hown' := Lib.hid hown
      clear hown
      go_wp2_with fail
      go_ret
      refine ⟨_, rfl, ?_, hbl⟩
      have := hown'.out
      rw [h12] at this
      unfold OwnB at this
      rw [hl12] at this
      exact this

set_option maxHeartbeats 1000000 in
theorem zzPointer_any (a b c : Nat) (ha : a < 4294967296) (hb : b < 4294967296) (hc : c < 4294967296) (w : World) :
    Calls Try.prog 24 #[.int .u32 (a : Int), .int .u32 (b : Int), .int .u32 (c : Int)] w fun e w' => ∃ v, e = .returned v ∧
      w'.ownsRow w.heap.size 5 1 v 12 (Lib.byteCells (ptrBytes a b c)) ∧ Below w.heap.size w w' := by
  go_enter Try.func24, Try.ntmps24
  go_wp2_with fail
  refine (encode_any a b c ha hb hc _).mono ?_
  rintro e w1 ⟨v, rfl, hown, hbl⟩
  go_wp2_with fail
  go_ret
  exact ⟨v, rfl, hown, hbl⟩

theorem own_form {w : World} {base e n : Nat} {v : Value} {xs : List Value} (h : w.ownsRow base e 1 v n xs) (hn : 0 < n) : ∃ g cap, v = .slice (some ⟨g, 0, none⟩) n cap := by
  rcases h.2 with ⟨_, h0⟩ | ⟨g, cap, cur, rfl, _⟩
  · omega
  · exact ⟨g, cap, rfl⟩

set_option maxHeartbeats 1000000 in
theorem implPointer_any (a b c : Nat) (ha : a < 4294967296) (hb : b < 4294967296) (hc : c < 4294967296) (w : World) :
    Calls Try.prog 8 #[.int .u32 (a : Int), .int .u32 (b : Int), .int .u32 (c : Int)] w fun e w' => e = .returned (.string ⟨(ptrBytes a b c).toArray⟩) ∧ Below w.heap.size w w' := by
  go_enter Try.func8, Try.ntmps8
  go_wp2_with fail
  refine (zzPointer_any a b c ha hb hc _).mono ?_
  rintro e w1 ⟨v, rfl, hown, hbl⟩
  obtain ⟨g, cap, rfl⟩ := own_form hown (by omega)
  have hbs := Bs.of_own hown
  clear hown
  go_wp2_with (refine wpList_b2s rfl 46 9 5 _ rfl Try.underlying46 Try.underlying5 Try.underlying9 g 0 12 _ rfl (ptrBytes a b c) (ptrBytes_length a b c) hbs ?_)
  go_ret
  exact ⟨rfl, hbl⟩

end Go.Proofs.Ytakpiopiboipnaa
