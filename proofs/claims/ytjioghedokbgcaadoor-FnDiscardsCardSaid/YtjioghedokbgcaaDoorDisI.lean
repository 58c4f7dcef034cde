/-
  discardStats.Iterate over the rows, with the two closures that are handed to it.
-/
import Derived.Test.YtjioghedokbgcaaDoorDisV
namespace Go.Proofs.YtjioghedokbgcaaDoor
open Go Go.RowKit
open Go.Proofs

set_option maxHeartbeats 2000000 in
set_option maxRecDepth 20000 in
theorem iterMax_any (sb mb fb kb nb db s : Nat) (cs : Array Value) (nodes now name synced md at_ : Value) (rest : List UInt8) (d : Array (Nat × Nat)) (W : World) (vb ib : Nat) (R : Nat → World → Prop)
    (hR : ∀ i w, R i w → StatAt sb mb fb kb nb db s cs nodes now name synced md at_ rest d w)
    (hB : ∀ i w w', R i w → Below w.heap.size w w' → R i w')
    (hstep : ∀ i w, i < d.size → R i w → Calls Tryd.prog 25 #[.int .u64 ((d[i]!.1 : Nat) : Int), .int .u64 ((d[i]!.2 : Nat) : Int), .pointer (some ⟨vb, 0, none⟩), .pointer (some ⟨ib, 0, none⟩)] w fun e w' => e = .returned (.tuple #[]) ∧ R (i + 1) w')
    (h0 : R 0 W) :
    Calls Tryd.prog 10 #[.pointer (some ⟨sb, 0, none⟩), .func (.func 25) #[] #[.pointer (some ⟨vb, 0, none⟩), .pointer (some ⟨ib, 0, none⟩)]] W fun e w' => e = .returned (.tuple #[]) ∧ R d.size w' := by
  obtain ⟨n, hn⟩ : ∃ n, d.size = n := ⟨_, rfl⟩
  have hn101 : n ≤ 101 := hn ▸ (hR _ _ h0).few
  rw [hn]
  have hR' := Lib.hid hR
  have hB' := Lib.hid hB
  have hstep' := Lib.hid hstep
  have h0' := Lib.hid h0
  have hn' := Lib.hid hn
  clear hn h0 hstep hB hR
  go_enter Tryd.func10, Tryd.ntmps10
  go_wp2_with fail
  go_loopw [4] (fun s4 wx => ∃ i : Nat, s4 = .int .i64 (i : Int) ∧ i ≤ n ∧ R i wx) (fun s4 _ => n - (intOf s4).toNat)
  case atStart => exact ⟨0, rfl, Nat.zero_le _, h0'.out⟩
  case round =>
    obtain ⟨i, rfl, hin, hRi⟩ := hrel
    have hS := hR'.out _ _ hRi
    have c44 := hS.mem.mem.fn
    rw [hn'.out] at c44
    by_cases hlt : i < n
    · have hltI : (i : Int) < (n : Int) := by omega
      have hid : i < d.size := by rw [hn'.out]; exact hlt
      have hfid := hS.fid hid
      obtain ⟨p, hp⟩ : ∃ p, 16 * i = p := ⟨_, rfl⟩
      have w16 : IntKind.i64.wrap (16 * (i : Int)) = (p : Int) := (IntWalk.i64_in _ (by omega)).trans (by omega)
      have w8 : IntKind.i64.wrap ((p : Int) + 8) = ((p + 8 : Nat) : Int) := (IntWalk.i64_in _ (by omega)).trans (by omega)
      have w1 : IntKind.i64.wrap ((i : Int) + 1) = ((i + 1 : Nat) : Int) := (IntWalk.i64_in _ (by omega)).trans (by omega)
      rw [hp] at hfid
      have hRi' := Lib.hid hRi
      have hS' := Lib.hid hS
      have hfid' := Lib.hid hfid
      have hp' := Lib.hid hp
      have hid' := Lib.hid hid
      clear hid hp hfid hS hRi
      go_wp2_with fail
      refine hfid'.out.mono ?_
      rintro e wA ⟨rfl, hb1⟩
      have hRA := hB'.out _ _ _ hRi'.out hb1
      have hval := (hR'.out _ _ hRA).val hid'.out
      rw [hp'.out] at hval
      have hRA' := Lib.hid hRA
      have hval' := Lib.hid hval
      have hb1' := Lib.hid hb1
      clear hb1 hval hRA
      go_wp2_with fail
      refine hval'.out.mono ?_
      rintro e wB ⟨rfl, hb2⟩
      have hRB := hB'.out _ _ _ hRA'.out hb2
      have hcl := hstep'.out _ _ hid'.out hRB
      have hRB' := Lib.hid hRB
      have hcl' := Lib.hid hcl
      have hb2' := Lib.hid hb2
      clear hb2 hcl hRB
      go_wp2_with fail
      refine hcl'.out.mono ?_
      rintro e wC ⟨rfl, hRC⟩
      have hRC' := Lib.hid hRC
      clear hRC
      go_wp2_with fail
      go_roundw
      case rel => exact ⟨i + 1, by go_num, by omega, hRC'.out⟩
      case measure => simp [intOf]; omega
    · obtain rfl : i = n := by omega
      have hRi' := Lib.hid hRi
      have hS' := Lib.hid hS
      clear hS hRi
      go_wp2_with fail
      go_end0
      exact ⟨rfl, hRi'.out⟩
set_option maxHeartbeats 2000000 in
set_option maxRecDepth 20000 in
theorem iterAll_any (sb mb fb kb nb db s : Nat) (cs : Array Value) (nodes now name synced md at_ : Value) (rest : List UInt8) (d : Array (Nat × Nat)) (W : World) (ab : Nat) (R : Nat → World → Prop)
    (hR : ∀ i w, R i w → StatAt sb mb fb kb nb db s cs nodes now name synced md at_ rest d w)
    (hB : ∀ i w w', R i w → Below w.heap.size w w' → R i w')
    (hstep : ∀ i w, i < d.size → R i w → Calls Tryd.prog 11 #[.int .u64 ((d[i]!.1 : Nat) : Int), .int .u64 ((d[i]!.2 : Nat) : Int), .pointer (some ⟨ab, 0, none⟩)] w fun e w' => e = .returned (.tuple #[]) ∧ R (i + 1) w')
    (h0 : R 0 W) :
    Calls Tryd.prog 10 #[.pointer (some ⟨sb, 0, none⟩), .func (.func 11) #[] #[.pointer (some ⟨ab, 0, none⟩)]] W fun e w' => e = .returned (.tuple #[]) ∧ R d.size w' := by
  obtain ⟨n, hn⟩ : ∃ n, d.size = n := ⟨_, rfl⟩
  have hn101 : n ≤ 101 := hn ▸ (hR _ _ h0).few
  rw [hn]
  have hR' := Lib.hid hR
  have hB' := Lib.hid hB
  have hstep' := Lib.hid hstep
  have h0' := Lib.hid h0
  have hn' := Lib.hid hn
  clear hn h0 hstep hB hR
  go_enter Tryd.func10, Tryd.ntmps10
  go_wp2_with fail
  go_loopw [4] (fun s4 wx => ∃ i : Nat, s4 = .int .i64 (i : Int) ∧ i ≤ n ∧ R i wx) (fun s4 _ => n - (intOf s4).toNat)
  case atStart => exact ⟨0, rfl, Nat.zero_le _, h0'.out⟩
  case round =>
    obtain ⟨i, rfl, hin, hRi⟩ := hrel
    have hS := hR'.out _ _ hRi
    have c44 := hS.mem.mem.fn
    rw [hn'.out] at c44
    by_cases hlt : i < n
    · have hltI : (i : Int) < (n : Int) := by omega
      have hid : i < d.size := by rw [hn'.out]; exact hlt
      have hfid := hS.fid hid
      obtain ⟨p, hp⟩ : ∃ p, 16 * i = p := ⟨_, rfl⟩
      have w16 : IntKind.i64.wrap (16 * (i : Int)) = (p : Int) := (IntWalk.i64_in _ (by omega)).trans (by omega)
      have w8 : IntKind.i64.wrap ((p : Int) + 8) = ((p + 8 : Nat) : Int) := (IntWalk.i64_in _ (by omega)).trans (by omega)
      have w1 : IntKind.i64.wrap ((i : Int) + 1) = ((i + 1 : Nat) : Int) := (IntWalk.i64_in _ (by omega)).trans (by omega)
      rw [hp] at hfid
      have hRi' := Lib.hid hRi
      have hS' := Lib.hid hS
      have hfid' := Lib.hid hfid
      have hp' := Lib.hid hp
      have hid' := Lib.hid hid
      clear hid hp hfid hS hRi
      go_wp2_with fail
      refine hfid'.out.mono ?_
      rintro e wA ⟨rfl, hb1⟩
      have hRA := hB'.out _ _ _ hRi'.out hb1
      have hval := (hR'.out _ _ hRA).val hid'.out
      rw [hp'.out] at hval
      have hRA' := Lib.hid hRA
      have hval' := Lib.hid hval
      have hb1' := Lib.hid hb1
      clear hb1 hval hRA
      go_wp2_with fail
      refine hval'.out.mono ?_
      rintro e wB ⟨rfl, hb2⟩
      have hRB := hB'.out _ _ _ hRA'.out hb2
      have hcl := hstep'.out _ _ hid'.out hRB
      have hRB' := Lib.hid hRB
      have hcl' := Lib.hid hcl
      have hb2' := Lib.hid hb2
      clear hb2 hcl hRB
      go_wp2_with fail
      refine hcl'.out.mono ?_
      rintro e wC ⟨rfl, hRC⟩
      have hRC' := Lib.hid hRC
      clear hRC
      go_wp2_with fail
      go_roundw
      case rel => exact ⟨i + 1, by go_num, by omega, hRC'.out⟩
      case measure => simp [intOf]; omega
    · obtain rfl : i = n := by omega
      have hRi' := Lib.hid hRi
      have hS' := Lib.hid hS
      clear hS hRi
      go_wp2_with fail
      go_end0
      exact ⟨rfl, hRi'.out⟩
end Go.Proofs.YtjioghedokbgcaaDoor
