/-
  Contracts of impl.KeyOf, impl.TsOf, spec.KeyTs; the walk of FnKeyTs.
-/
import Derived.Test.YtakpiopiboipnaaKey
import Derived.Test.YtakpiopiboipnaaBits
namespace Go.Proofs.Ytakpiopiboipnaa
open Go Go.RowKit
open Go.Proofs

theorem be8_cells (n : Nat) (hn : n < 18446744073709551616) : Lib.byteCells (Lib.beBytes 8 n) = [Value.int .u8 ((n : Int) / 72057594037927936), Value.int .u8 ((n : Int) / 281474976710656 % 256), Value.int .u8 ((n : Int) / 1099511627776 % 256), Value.int .u8 ((n : Int) / 4294967296 % 256), Value.int .u8 ((n : Int) / 16777216 % 256), Value.int .u8 ((n : Int) / 65536 % 256), Value.int .u8 ((n : Int) / 256 % 256), Value.int .u8 ((n : Int) % 256)] := by
  have e0 : ((n % 256 : Nat) : Int) = (n : Int) % 256 := by omega
  have e1 : ((n / 256 % 256 : Nat) : Int) = (n : Int) / 256 % 256 := by omega
  have e2 : ((n / 256 / 256 % 256 : Nat) : Int) = (n : Int) / 65536 % 256 := by omega
  have e3 : ((n / 256 / 256 / 256 % 256 : Nat) : Int) = (n : Int) / 16777216 % 256 := by omega
  have e4 : ((n / 256 / 256 / 256 / 256 % 256 : Nat) : Int) = (n : Int) / 4294967296 % 256 := by omega
  have e5 : ((n / 256 / 256 / 256 / 256 / 256 % 256 : Nat) : Int) = (n : Int) / 1099511627776 % 256 := by omega
  have e6 : ((n / 256 / 256 / 256 / 256 / 256 / 256 % 256 : Nat) : Int) = (n : Int) / 281474976710656 % 256 := by omega
  have e7 : ((n / 256 / 256 / 256 / 256 / 256 / 256 / 256 % 256 : Nat) : Int) = (n : Int) / 72057594037927936 := by omega
  simp only [Lib.byteCells, Lib.beBytes, Lib.leBytes, List.reverse_cons, List.reverse_nil, List.nil_append, List.cons_append, List.map_cons, List.map_nil, Lib.toUInt8_mod, e0, e1, e2, e3, e4, e5, e6, e7]

set_option maxHeartbeats 1000000 in
theorem specBig8_any (n : Nat) (hn : n < 18446744073709551616) (w : World) :
    Calls Try.prog 29 #[.int .u64 (n : Int)] w fun e w' => e = .returned (.string ⟨(Lib.beBytes 8 n).toArray⟩) ∧ Below w.heap.size w w' := by
  have hmk : ∀ W : World, (Instr.makeSlice 46 (.int .i64 8) (.int .i64 8)).run Try.prog W = .ok (.slice (some ⟨W.heap.size, 0, none⟩) 8 8) (W.alloc (.cells #[.int .u8 0, .int .u8 0, .int .u8 0, .int .u8 0, .int .u8 0, .int .u8 0, .int .u8 0, .int .u8 0] 5)) := fun _ => by kernel_rfl
  go_enter Try.func29, Try.ntmps29
  go_wp2_with fail
  refine wp_loop_rounds 9 ?_
  iterate 8 (rw [rounds_succ]; go_wp2_with fail)
  rw [rounds_succ]
  have hc := Lib.hid (be8_cells n hn)
  go_wp2_with (refine wpList_b2s rfl 46 9 5 _ rfl Try.underlying46 Try.underlying5 Try.underlying9 w.heap.size 0 8 8 rfl (Lib.beBytes 8 n) (Lib.beBytes_length 8 n) ?hc ?_)
  case hc =>
    apply bs_of_bk
    rw [hc.out]
    exact Bk.at_ _ _ _ _ rfl
  go_ret
  exact ⟨rfl, (Below.refl _ _).alloc (Nat.le_refl _) _⟩

theorem str_eta (s : ByteArray) : ByteArray.mk s.data.toList.toArray = s := by
  apply ByteArray.ext
  simp

theorem str_app (s : ByteArray) (l : List UInt8) : s ++ ByteArray.mk l.toArray = ByteArray.mk (s.data.toList ++ l).toArray := by
  apply ByteArray.ext
  simp [ByteArray.data_append]

set_option maxHeartbeats 1000000 in
theorem specKeyTs_any (s : ByteArray) (ts : Nat) (w : World) (hn : s.size ≤ 4294967296) (hts : ts < 18446744073709551616) :
    Calls Try.prog 13 #[.string s, .int .u64 (ts : Int)] w fun e w' => e = .returned (.string ⟨(keyTs s.data.toList ts).toArray⟩) ∧ Below w.heap.size w w' := by
  have hsg : IntKind.u64.signed = false := rfl
  have hx := u64_not ts hts
  have hl8 := Lib.beBytes_length 8 (18446744073709551615 - ts)
  go_enter Try.func13, Try.ntmps13
  go_wp2_with fail
  refine (specBig8_any _ (by omega) _).mono ?_
  rintro e w1 ⟨rfl, hb1⟩
  go_wp2_with fail
  go_ret
  refine ⟨?_, hb1⟩
  rw [str_app]
  rfl

set_option maxHeartbeats 1000000 in
theorem implKeyOf_any (l : List UInt8) (m : Nat) (w : World) (hl : l.length = m + 8) (hn : m ≤ 4294967288) :
    Calls Try.prog 12 #[.string ⟨l.toArray⟩] w fun e w' => e = .returned (.tuple #[.string ⟨(l.take m).toArray⟩, .bool true]) ∧ Below w.heap.size w w' := by
  have hl' := Lib.hid hl
  have hsz : (ByteArray.mk l.toArray).size = m + 8 := by rw [← hl]; simp [ByteArray.size]
  go_enter Try.func12, Try.ntmps12
  clear hl
  go_wp2_with (refine wpList_s2b rfl 9 46 5 _ rfl Try.underlying9 Try.underlying46 Try.underlying5 ⟨l.toArray⟩ rfl ?_)
  intro w1 c hb1 hs1 hbs hsc
  have hs1' := Lib.hid hs1
  have hsz' := Lib.hid hsz
  clear hs1 hsz
  go_wp2_with fail
  refine (parseKey_any _ m c _ (by omega) (by omega)).mono ?_
  rintro e w2 ⟨rfl, rfl⟩
  have hbt := hbs.take m
  go_wp2_with (refine wpList_b2s rfl 46 9 5 _ rfl Try.underlying46 Try.underlying5 Try.underlying9 _ 0 _ _ rfl (l.take m) ?hlen hbt ?_)
  case hlen =>
    rw [List.length_take, hl'.out]; omega
  go_ret2
  exact ⟨rfl, hb1⟩

set_option maxHeartbeats 1000000 in
theorem implTsOf_any (l : List UInt8) (w : World) (hn : l.length ≤ 4294967296) :
    Calls Try.prog 14 #[.string ⟨l.toArray⟩] w fun e w' => e = .returned (.int .u64 (tsOf l : Nat)) ∧ Below w.heap.size w w' := by
  go_enter Try.func14, Try.ntmps14
  go_wp2_with (refine wpList_s2b rfl 9 46 5 _ rfl Try.underlying9 Try.underlying46 Try.underlying5 ⟨l.toArray⟩ rfl ?_)
  intro w1 c hb1 hs1 hbs hsc
  have hs1' := Lib.hid hs1
  clear hs1
  go_wp2_with fail
  refine (parseTs_any _ 0 l.length c l _ hbs rfl hsc hn).mono ?_
  rintro e w2 ⟨rfl, hb2⟩
  go_wp2_with fail
  go_ret
  exact ⟨rfl, below_step hb1 hb1.size hb2⟩

set_option maxHeartbeats 1000000 in
/-- THE WALK of FnKeyTs: it returns true. -/
theorem fnKeyTs_walk (s : ByteArray) (ts : Nat) (hts : ts < 18446744073709551616) (w : World) :
    Calls Try.prog 4 #[.string s, .int .u64 (ts : Int)] w fun e w' => e = .returned (.bool true) ∧ Below w.heap.size w w' := by
  by_cases h1 : 1000 < s.size
  · go_enter Try.func4, Try.ntmps4
    by_cases h2 : 2147483647 < s.size
    all_goals
      go_wp2_with fail
      go_ret
      exact ⟨rfl, Below.refl _ _⟩
  · have hsz : s.data.toList.length = s.size := Array.length_toList
    have hkl := Lib.hid (keyTs_length s.data.toList ts)
    have hkt := keyTs_take s.data.toList ts
    have hB := fun W => implKeyOf_any (keyTs s.data.toList ts) s.data.toList.length W hkl.out (by omega)
    rw [hkt, str_eta] at hB
    have hB' := Lib.hid hB
    have hsz' := Lib.hid hsz
    clear hB hkt hsz
    by_cases he : s.data.toList = []
    · have hs0 : s = ByteArray.empty := by
        apply ByteArray.ext
        apply Array.ext'
        rw [he]
        rfl
      subst hs0
      go_enter Try.func4, Try.ntmps4
      go_wp2_with fail
      refine (implKeyTs_any _ ts _ (by omega) hts).mono ?_
      rintro e w1 ⟨rfl, hb1⟩
      go_wp2_with fail
      refine (hB'.out _).mono ?_
      rintro e w2 ⟨rfl, hb2⟩
      go_wp2_with fail
      refine (specKeyTs_any _ ts _ (by omega) hts).mono ?_
      rintro e w3 ⟨rfl, hb3⟩
      go_wp2_with fail
      go_ret
      exact ⟨rfl, below_step (below_step hb1 hb1.size hb2) (Nat.le_trans hb1.size hb2.size) hb3⟩
    · go_enter Try.func4, Try.ntmps4
      have hts2 := Lib.hid (tsOf_keyTs s.data.toList ts hts he)
      have he2 : s.toList.isEmpty = false := by
        rw [Lib.toList_data]
        simpa using he
      go_wp2_with fail
      refine (implKeyTs_any _ ts _ (by omega) hts).mono ?_
      rintro e w1 ⟨rfl, hb1⟩
      go_wp2_with fail
      refine (hB'.out _).mono ?_
      rintro e w2 ⟨rfl, hb2⟩
      go_wp2_with fail
      refine (specKeyTs_any _ ts _ (by omega) hts).mono ?_
      rintro e w3 ⟨rfl, hb3⟩
      go_wp2_with fail
      refine (implTsOf_any _ _ (by rw [hkl.out, hsz'.out]; omega)).mono ?_
      rw [hts2.out]
      rintro e w4 ⟨rfl, hb4⟩
      go_wp2_with fail
      go_ret
      exact ⟨rfl, below_step (below_step (below_step hb1 hb1.size hb2) (Nat.le_trans hb1.size hb2.size) hb3) (Nat.le_trans (Nat.le_trans hb1.size hb2.size) hb3.size) hb4⟩
end Go.Proofs.Ytakpiopiboipnaa
