/-
  The file in memory beneath discard stats: MmapFile.Sync, MmapFile.Truncate; zeroOut.
-/
import Derived.Test.YtjioghedokbgcaaDoorDis5
import Derived.Test.YtjioghedokbgcaaDoorDis8
namespace Go.Proofs.YtjioghedokbgcaaDoor
open Go Go.RowKit
open Go.Proofs

/-- Discard stats as they stand. -/
structure StatMem (sb mb fb kb nb db cap n s : Nat) (cs : Array Value) (nodes now name synced md at_ : Value) (L : List UInt8) (W : World) : Prop where
  file : FileMem fb kb nb db cap s nodes now name synced md at_ L W
  map : Bk W mb 77 #[.slice (some ⟨db, 0, none⟩) L.length cap, .pointer (some ⟨fb, 0, none⟩)]
  stat : Bk W sb 64 cs
  c0 : cs[0]? = some (.pointer (some ⟨mb, 0, none⟩))
  c44 : cs[44]? = some (.int .i64 (n : Int))

theorem StatMem.mem {sb mb fb kb nb db cap n s : Nat} {cs : Array Value} {nodes now name synced md at_ : Value} {L : List UInt8} {W : World} (h : StatMem sb mb fb kb nb db cap n s cs nodes now name synced md at_ L W) : DisMem sb mb db L.length cap n W :=
  ⟨(h.stat.cell 0).trans h.c0, (h.stat.cell 44).trans h.c44, h.map.cell 0⟩

set_option maxHeartbeats 2000000 in
set_option maxRecDepth 20000 in
theorem mmapSync_any (mb fb kb nb db cap s len : Nat) (nodes now name synced md at_ : Value) (L : List UInt8) (W : World) (h : FileMem fb kb nb db cap s nodes now name synced md at_ L W) (hm : Bk W mb 77 #[.slice (some ⟨db, 0, none⟩) len cap, .pointer (some ⟨fb, 0, none⟩)]) (hs : s < 4611686018427387904) (hL0 : 0 < L.length) (hL : L.length ≤ 4294967296) :
    Calls Tryd.prog 33 #[.pointer (some ⟨mb, 0, none⟩)] W fun e w' => e = .returned .nilIface ∧
      (∃ synced', FileMem fb kb nb db cap (s + 1) nodes now name synced' md at_ L w') ∧ Ch [nb, kb] W w' := by
  have hsync := fileSync_any fb kb nb db cap s nodes now name synced md at_ L W h hs hL0 hL
  have c1 := hm.cell 1
  simp at c1
  clear h hm
  have hsync' := Lib.hid hsync
  clear hsync
  go_enter Tryd.func33, Tryd.ntmps33
  go_wp2_with fail
  with_reducible refine hsync'.out.mono ?_
  rintro e w1 ⟨rfl, hF1, hC1⟩
  go_wp2_with fail
  go_ret
  exact ⟨rfl, hF1, hC1⟩

set_option maxHeartbeats 2000000 in
set_option maxRecDepth 20000 in
theorem mmapTruncate_any (mb fb kb nb db cap s S : Nat) (nodes now name synced md at_ : Value) (L : List UInt8) (W : World) (h : FileMem fb kb nb db cap s nodes now name synced md at_ L W) (hm : Bk W mb 77 #[.slice (some ⟨db, 0, none⟩) L.length cap, .pointer (some ⟨fb, 0, none⟩)]) (hs : s < 4611686018427387900) (hL0 : 0 < L.length) (hS : L.length ≤ S) (hS2 : S ≤ 4294967296) :
    Calls Tryd.prog 24 #[.pointer (some ⟨mb, 0, none⟩), .int .i64 (S : Int)] W fun e w' => e = .returned .nilIface ∧
      (∃ db' synced', W.heap.size ≤ db' ∧ FileMem fb kb nb db' S (s + 2) nodes now name synced' md at_ (L ++ List.replicate (S - L.length) 0) w' ∧ Bk w' mb 77 #[.slice (some ⟨db', 0, none⟩) S S, .pointer (some ⟨fb, 0, none⟩)]) ∧ Ch [mb, nb, kb] W w' := by
  have hsync := mmapSync_any mb fb kb nb db cap s L.length nodes now name synced md at_ L W h hm (by omega) hL0 (by omega)
  have mn : mb ≠ nb := hm.apart h.node (by decide)
  have mk : mb ≠ kb := hm.apart h.disk (by decide)
  have mf : mb ≠ fb := hm.apart h.file (by decide)
  have hml := hm.lt
  have hsync' := Lib.hid hsync
  have hm' := Lib.hid hm
  have h' := Lib.hid h
  clear h hm hsync
  go_enter Tryd.func24, Tryd.ntmps24
  go_wp2_with fail
  with_reducible refine hsync'.out.mono ?_
  rintro e w1 ⟨rfl, ⟨sy, hF1⟩, hC1⟩
  have hm1 := hm'.out.ch hC1 (by simp; exact ⟨mn, mk⟩)
  have c1 := hm1.cell 1
  simp at c1
  have htr := fileTruncate_any fb kb nb db cap (s + 1) S nodes now name sy md at_ L w1 hF1 (by omega) hS hS2
  have hF1' := Lib.hid hF1
  have hC1' := Lib.hid hC1
  have hm1' := Lib.hid hm1
  have htr' := Lib.hid htr
  clear htr hm1 hC1 hF1
  go_wp2_with fail
  with_reducible refine htr'.out.mono ?_
  rintro e w2 ⟨rfl, hF2, hsz, hk, ho, ht, hou⟩
  have hC2 : Ch [nb, kb] w1 w2 := ⟨ho, ht, hou, hsz, fun k hk1 hn => by simp at hn; exact hk k hk1 hn.1 hn.2⟩
  have hm2 := hm1'.out.ch hC2 (by simp; exact ⟨mn, mk⟩)
  have d1 := hm2.cell 1
  have d0 := hm2.cell 0
  have z0 := hm2.free 0
  have e1 := hF2.file.cell 1
  have e2 := hF2.node.cell 1
  have hlen : (L ++ List.replicate (S - L.length) (0 : UInt8)).length = S := by simp; omega
  rw [hlen] at e2
  simp at d1 d0 e1 e2
  clear hk
  have hF2' := Lib.hid hF2
  have hC2' := Lib.hid hC2
  have hm2' := Lib.hid hm2
  have hlen' := Lib.hid hlen
  clear hlen hm2 hC2 hF2
  go_wp2_with fail
  go_ret
  have hl1 : W.heap.size ≤ w1.heap.size := hC1'.out.size
  have hd : mb ≠ w1.heap.size := by omega
  refine ⟨rfl, ⟨w1.heap.size, sy, hl1, ⟨hF2'.out.disk.far (p := ⟨mb, 0, none⟩) (Ne.symm mk) _, hF2'.out.file.far (p := ⟨mb, 0, none⟩) (Ne.symm mf) _, hF2'.out.node.far (p := ⟨mb, 0, none⟩) (Ne.symm mn) _, hF2'.out.data.far (p := ⟨mb, 0, none⟩) (Ne.symm hd) _⟩, ?_⟩, ?_⟩
  · simpa using hm2'.out.set 0 (.slice (some ⟨w1.heap.size, 0, none⟩) S S)
  · exact ((hC1'.out.trans hC2'.out).mono fun k hk => .inl (by simp at hk ⊢; exact .inr hk)).setCell (p := ⟨mb, 0, none⟩) (.inl (by simp)) _

set_option maxHeartbeats 2000000 in
set_option maxRecDepth 20000 in
theorem zeroOut_any (sb mb db len cap n : Nat) (L : List UInt8) (W : World) (h : DisMem sb mb db len cap n W) (hd : sb ≠ db) (hmd : mb ≠ db) (hB : Bk W db 5 (Lib.byteCells L).toArray) (hL : L.length = len) (hlc : len ≤ cap) (ho : 16 * n + 16 ≤ len) (hcap : cap ≤ 4294967296) :
    Calls Tryd.prog 13 #[.pointer (some ⟨sb, 0, none⟩)] W fun e w' => e = .returned (.tuple #[]) ∧ Bk w' db 5 (Lib.byteCells (splice (splice L (16 * n) (Lib.beBytes 8 0)) (16 * n + 8) (Lib.beBytes 8 0))).toArray ∧ W.grownBy w' (some db) := by
  have hset := disSet_any sb mb db len cap n (16 * n) 0 L W h hB hL hlc (by omega) hcap (by omega)
  rw [show ((0 : Nat) : Int) = 0 from rfl] at hset
  have c44 := h.fn
  have w1 : IntKind.i64.wrap ((n : Int) * 16) = ((16 * n : Nat) : Int) := (IntWalk.i64_in _ (by omega)).trans (by omega)
  have w2 : IntKind.i64.wrap (((16 * n : Nat) : Int) + 8) = ((16 * n + 8 : Nat) : Int) := (IntWalk.i64_in _ (by omega)).trans (by omega)
  obtain ⟨p, hp⟩ : ∃ p, 16 * n = p := ⟨_, rfl⟩
  rw [hp] at hset w1 w2 ho
  rw [hp]
  have h' := Lib.hid h
  have hset' := Lib.hid hset
  have hp' := Lib.hid hp
  clear hp hset h
  go_enter Tryd.func13, Tryd.ntmps13
  go_wp2_with fail
  with_reducible refine hset'.out.mono ?_
  rintro e wA ⟨rfl, hB1, hg1⟩
  have f1 : wA.cell? ⟨sb, 0, none⟩ = _ := hg1.cell h'.out.fp (by simpa using hd)
  have f2 : wA.cell? ⟨sb, 44, none⟩ = _ := hg1.cell h'.out.fn (by simpa using hd)
  have f3 : wA.cell? ⟨mb, 0, none⟩ = _ := hg1.cell h'.out.fd (by simpa using hmd)
  have hl2 : (splice L p (Lib.beBytes 8 0)).length = len := by rw [splice_len _ _ _ (by simp [Lib.beBytes_length]; omega)]; exact hL
  have hset2 := disSet_any sb mb db len cap n (p + 8) 0 _ wA ⟨f1, f2, f3⟩ hB1 hl2 hlc (by omega) hcap (by omega)
  rw [show ((0 : Nat) : Int) = 0 from rfl, show ((p + 8 : Nat) : Int) = (p : Int) + 8 from by omega] at hset2
  have hg1' := Lib.hid hg1
  have hset2' := Lib.hid hset2
  have hB1' := Lib.hid hB1
  have f1' := Lib.hid f1
  have f3' := Lib.hid f3
  clear f3 f1 hB1 hset2 hg1
  go_wp2_with fail
  with_reducible refine hset2'.out.mono ?_
  rintro e wB ⟨rfl, hB2, hg2⟩
  have hB2' := Lib.hid hB2
  have hg2' := Lib.hid hg2
  clear hg2 hB2
  go_wp2_with fail
  go_end0
  exact ⟨rfl, hB2'.out, grown_trans hg1'.out hg2'.out⟩
end Go.Proofs.YtjioghedokbgcaaDoor
