/-
  Contracts of ZZEncode and impl.LogEntry; the walk of FnLogEntry.
-/
import Derived.Test.YtpndlcjilgcfkaaGreatDoorEnc
import Derived.Lib.ConvBytes
import Derived.Lib.AtoiErrMem
namespace Go.Proofs.YtpndlcjilgcfkaaGreatDoor
open Go Go.RowKit
open Go.Proofs

theorem IsBuffer_mono_ {T e : TypeId} {B b : Nat} {w : World} (h : Lib.IsBuffer T e B b [] w) : Lib.IsBuffer T e B b (Lib.byteCells []) w := h

set_option maxHeartbeats 4000000 in
set_option maxRecDepth 20000 in
theorem zzEncode_any (eb kb ko kn kc vb vo vn vc x ver off um m0 m : Nat) (k v : List UInt8) (w : World)
    (he : Bk w eb 64 (bentCells (.slice (some ⟨kb, ko, none⟩) kn kc) (.slice (some ⟨vb, vo, none⟩) vn vc) x ver off um m0))
    (hk : Bs w kb ko k) (hv : Bs w vb vo v) (hkn : k.length = kn) (hvn : v.length = vn) (hk1 : kn ≤ 1000000) (hv1 : vn ≤ 1000000)
    (hx : x < 18446744073709551616) (hm : m < 256) (hum : um < 256) (hkl : kb < w.heap.size) (hvl : vb < w.heap.size) (hke : kb ≠ eb) (hve : vb ≠ eb) :
    Calls Tryz.prog 29 #[.pointer (some ⟨eb, 0, none⟩), .int .u8 (m : Int)] w fun e w' => ∃ s, e = .returned (.tuple #[s, .nilIface]) ∧
      w'.ownsRow w.heap.size 5 1 s (entBytes k v m um x).length (Lib.byteCells (entBytes k v m um x)) ∧ (∀ B, B ≤ eb → B ≤ w.heap.size → Below B w w') := by
  have c6 := he.cell 6
  have f6 := he.free 6
  simp [bentCells] at c6
  have hlt := he.lt
  have hne : ¬ w.heap.size = eb := by omega
  have he' := Lib.hid he
  have hk' := Lib.hid hk
  have hv' := Lib.hid hv
  clear he hk hv
  go_enter Tryz.func29, Tryz.ntmps29
  go_wp2_with fail
  have hszs : (w.setCell ⟨eb, 6, none⟩ (.int .u8 (m : Int))).heap.size = w.heap.size := by simp
  have hb0 := Lib.fresh_isBuffer 108 5 (w.setCell ⟨eb, 6, none⟩ (.int .u8 (m : Int)))
  rw [hszs] at hb0
  have hb0' := Lib.hid hb0
  clear hb0
  have hbel := fun (B : Nat) (h1 : B ≤ eb) => (Below.refl B w).setCell (p := ⟨eb, 6, none⟩) h1 (.int .u8 (m : Int))
  refine (encodeEntry_any (w.heap.size + 1) eb w.heap.size w.heap.size kb ko kn kc vb vo vn vc x ver off um m k v _ (((he'.out.set 6 (.int .u8 (m : Int))).alloc _).alloc _)
    (((hk'.out.far (p := ⟨eb, 6, none⟩) hke _).alloc _).alloc _) (((hv'.out.far (p := ⟨eb, 6, none⟩) hve _).alloc _).alloc _) hkn hvn hk1 hv1 hx hm hum hkl hvl hlt (by simp; omega) (Nat.le_refl _) (buf_below hb0'.out (below_alloc_ (Below.refl _ _) _))).mono ?_
  rintro e w2 ⟨n2, rfl, hbuf2, hbel2⟩
  have hb0 := Lib.hid (fun (B : Nat) (h1 : B ≤ eb) (h2 : B ≤ w.heap.size) => (((hbel B h1).alloc (by simpa using h2) _).alloc (by simp; omega) _).trans (hbel2.mono h2))
  have hbuf2' := Lib.hid hbuf2
  clear hbuf2 hbel2 hbel
  obtain ⟨r, hr⟩ : ∃ r, entBytes k v m um x = r := ⟨_, rfl⟩
  rw [hr] at hbuf2'
  go_wp2_with fail
  refine (Tryz.Buffer_Bytes w.heap.size w.heap.size _ w2 hbuf2'.out).mono ?_
  rintro e w3 ⟨s, rfl, hown, nq, rfl⟩
  have hown' := Lib.hid hown
  clear hown
  go_wp2_with fail
  go_ret2
  rw [hr]
  exact ⟨s, rfl, by simpa [Lib.byteCells] using hown'.out, fun B h1 h2 => below_drewN (hb0.out B h1 h2) nq⟩

theorem bs_bytesWorld (W : World) (s : ByteArray) (e : TypeId) : Bs (Lib.bytesWorld W e s) W.heap.size 0 s.data.toList := by
  intro j hj
  have hj' : j < s.size := by rw [Array.length_toList] at hj; exact hj
  have h2 := Lib.bytesWorld_cell W e s j hj'
  rw [Nat.zero_add, h2]
  simp only [List.getD, List.getElem?_eq_getElem hj, Option.getD_some]

theorem bs_bytesWorld_old {W : World} {b o : Nat} {l : List UInt8} (h : Bs W b o l) (hb : b < W.heap.size) (s : ByteArray) (e : TypeId) : Bs (Lib.bytesWorld W e s) b o l :=
  h.below (Lib.bytesWorld_below W e s) hb

/-- What impl.LogEntry has made of its argument ahead of the encoding. -/
def Made (w : World) (k v : ByteArray) (m u x o n : Nat) (P : Value) (W : World) : Prop :=
  ∃ eb kb kc vb vc, P = .pointer (some ⟨eb, 0, none⟩) ∧ Bk W eb 64 (bentCells (.slice (some ⟨kb, 0, none⟩) k.size kc) (.slice (some ⟨vb, 0, none⟩) v.size vc) 0 0 0 u 0) ∧
    Bs W kb 0 k.data.toList ∧ Bs W vb 0 v.data.toList ∧ Bk W w.heap.size 30 (entCells k v m u x o n) ∧ w.heap.size < eb ∧ kb < eb ∧ vb < eb ∧ Below w.heap.size w W

theorem made_of (w : World) (k v : ByteArray) (m u x o n eb : Nat) (W : World) (heb : W.heap.size = eb) (hbx : Bk W w.heap.size 30 (entCells k v m u x o n)) (hbl : Below w.heap.size w W) (kc vc kb vb : Nat)
    (hk : Bs W kb 0 k.data.toList) (hv : Bs W vb 0 v.data.toList) (hkb : kb < eb) (hvb : vb < eb) (w2 : World)
    (h2 : Bk w2 eb 64 (bentCells (.slice (some ⟨kb, 0, none⟩) k.size kc) (.slice (some ⟨vb, 0, none⟩) v.size vc) 0 0 0 u 0)) (ob : Obj) (hg : (W.alloc ob).grownBy w2 (some eb)) :
    Made w k v m u x o n (.pointer (some ⟨eb, 0, none⟩)) w2 := by
  subst heb
  exact ⟨W.heap.size, kb, kc, vb, vc, rfl, h2, (hk.alloc ob).grown hg (by simp; omega), (hv.alloc ob).grown hg (by simp; omega), (hbx.alloc ob).grown hg (by have := hbx.lt; simp; omega), hbx.lt, hkb, hvb,
    below_own (hbl.alloc hbl.size ob) (by have := hbl.size; simp; omega) hg hbl.size⟩

section
variable (w : World) (k v : ByteArray) (m u x o n : Nat) (W0 : World) (hbx : Bk W0 w.heap.size 30 (entCells k v m u x o n)) (hbl : Below w.heap.size w W0) (hz : W0.heap.size = w.heap.size + 1) (kc vc : Nat) (w2 : World) (ob : Obj)
include hbx hbl hz
theorem madeA (h2 : Bk w2 (w.heap.size + 1 + 1 + 1) 64 (bentCells (.slice (some ⟨w.heap.size + 1, 0, none⟩) k.size kc) (.slice (some ⟨w.heap.size + 1 + 1, 0, none⟩) v.size vc) 0 0 0 u 0))
    (hg : ((Lib.bytesWorld (Lib.bytesWorld W0 5 k) 5 v).alloc ob).grownBy w2 (some (w.heap.size + 1 + 1 + 1))) : Made w k v m u x o n (.pointer (some ⟨w.heap.size + 1 + 1 + 1, 0, none⟩)) w2 := by
  have hz1 : (Lib.bytesWorld W0 5 k).heap.size = w.heap.size + 1 + 1 := by rw [Lib.bytesWorld_size, hz]
  have b1 := bs_bytesWorld W0 k 5
  have b2 := bs_bytesWorld (Lib.bytesWorld W0 5 k) v 5
  rw [hz] at b1
  rw [hz1] at b2
  exact made_of w k v m u x o n _ _ (by rw [Lib.bytesWorld_size, hz1]) ((hbx.below (Lib.bytesWorld_below _ _ _) hbx.lt).below (Lib.bytesWorld_below _ _ _) (by rw [hz1]; omega)) (below_call_ (Lib.bytesWorld_below _ _ _) (below_call_ (Lib.bytesWorld_below _ _ _) hbl)) kc vc _ _
    (bs_bytesWorld_old b1 (by rw [hz1]; omega) v _) b2 (by omega) (by omega) w2 h2 ob hg
theorem madeB (h2 : Bk w2 (w.heap.size + 1 + 1 + 1) 64 (bentCells (.slice (some ⟨w.heap.size + 1 + 1, 0, none⟩) k.size kc) (.slice (some ⟨w.heap.size + 1, 0, none⟩) v.size vc) 0 0 0 u 0))
    (hg : ((Lib.bytesWorld (Lib.bytesWorld W0 5 v) 5 k).alloc ob).grownBy w2 (some (w.heap.size + 1 + 1 + 1))) : Made w k v m u x o n (.pointer (some ⟨w.heap.size + 1 + 1 + 1, 0, none⟩)) w2 := by
  have hz1 : (Lib.bytesWorld W0 5 v).heap.size = w.heap.size + 1 + 1 := by rw [Lib.bytesWorld_size, hz]
  have b1 := bs_bytesWorld W0 v 5
  have b2 := bs_bytesWorld (Lib.bytesWorld W0 5 v) k 5
  rw [hz] at b1
  rw [hz1] at b2
  exact made_of w k v m u x o n _ _ (by rw [Lib.bytesWorld_size, hz1]) ((hbx.below (Lib.bytesWorld_below _ _ _) hbx.lt).below (Lib.bytesWorld_below _ _ _) (by rw [hz1]; omega)) (below_call_ (Lib.bytesWorld_below _ _ _) (below_call_ (Lib.bytesWorld_below _ _ _) hbl)) kc vc _ _
    b2 (bs_bytesWorld_old b1 (by rw [hz1]; omega) k _) (by omega) (by omega) w2 h2 ob hg
end

set_option maxHeartbeats 8000000 in
set_option maxRecDepth 20000 in
theorem implLogEntry_any (k v : ByteArray) (m u x o n : Nat) (hk : k.size ≤ 1000000) (hv : v.size ≤ 1000000) (hm : m < 256) (hu : u < 256) (hx : x < 18446744073709551616) (w : World) :
    Calls Tryz.prog 13 #[.agg (entCells k v m u x o n)] w fun e w' => e = .returned (.string ⟨(entBytes k.data.toList v.data.toList m u x).toArray⟩) ∧ Below w.heap.size w w' := by
  have hcv : ∀ (W : World) (s : ByteArray), (convert 9 22 (.string s)).run Tryz.prog W = .ok (.slice (some ⟨W.heap.size, 0, none⟩) s.size (grownCap W s.size 0 5)) (Lib.bytesWorld W 5 s) :=
    fun W s => Lib.run_convert_string_bytes W _ _ _ s Tryz.underlying9 Tryz.underlying22 Tryz.underlying5
  have hbw : ∀ (W : World) (s : ByteArray) (i : Nat), w.heap.size < W.heap.size → (Lib.bytesWorld W 5 s).cell? ⟨w.heap.size, i, none⟩ = W.cell? ⟨w.heap.size, i, none⟩ :=
    fun W s i h => Lib.bytesWorld_old W _ s ⟨w.heap.size, i, none⟩ h
  have hsz : ∀ (W : World) (s : ByteArray), (Lib.bytesWorld W 5 s).heap.size = W.heap.size + 1 := fun W s => Lib.bytesWorld_size W _ s
  unfold entCells
  go_enter Tryz.func13, Tryz.ntmps13
  go_upto_region 1 with fail
  go_cut [3] (fun s3 wx => Made w k v m u x o n s3 wx)
  case first =>
    go_region_with (first | (go_at_call 27; refine (newEntry_any _ _ _ _ _ _ _).mono ?_; rintro e w1 ⟨rfl, rfl⟩) | (go_at_call 28; refine (withMeta_any _ _ _ _ _ _ _ _ _ _ (Bk.at_ _ _ _ _ (by simp [hsz]))).mono ?_; rintro e w2 ⟨rfl, hb2, hg2⟩))
    all_goals
      go_wp2_with fail
      go_meet
      first
        | exact madeA w k v m u x o n _ (Bk.drew (Bk.at_ _ _ _ _ rfl)) (below_drew_ (below_alloc_ (Below.refl _ _) _)) (by simp) _ _ w2 _ hb2 hg2
        | exact madeB w k v m u x o n _ (Bk.drew (Bk.at_ _ _ _ _ rfl)) (below_drew_ (below_alloc_ (Below.refl _ _) _)) (by simp) _ _ w2 _ hb2 hg2
  case rest =>
  obtain ⟨eb, kb, kc, vb, vc, rfl, he, hkb, hvb, hbx, hlt, hk3, hv3, hbl⟩ := hcut
  have c4 := hbx.cell 4
  have c2 := hbx.cell 2
  simp [entCells] at c2 c4
  have d2 := he.cell 2
  have g2 := he.free 2
  simp [bentCells] at d2
  have hne : ¬ w.heap.size = eb := by omega
  have he' := Lib.hid (he.set 2 (.int .u64 (x : Int)))
  have hkb' := Lib.hid (hkb.far (p := ⟨eb, 2, none⟩) (by show kb ≠ eb; omega) (.int .u64 (x : Int)))
  have hvb' := Lib.hid (hvb.far (p := ⟨eb, 2, none⟩) (by show vb ≠ eb; omega) (.int .u64 (x : Int)))
  have hel := he.lt
  have hbl' := Lib.hid (hbl.setCell (p := ⟨eb, 2, none⟩) (Nat.le_of_lt hlt) (.int .u64 (x : Int)))
  have hsw : (wc.setCell ⟨eb, 2, none⟩ (.int .u64 (x : Int))).heap.size = wc.heap.size := by simp
  clear hbx he hkb hvb hbl
  go_wp2_with fail
  refine (zzEncode_any eb kb 0 k.size kc vb 0 v.size vc x 0 0 u 0 m k.data.toList v.data.toList _ he'.out hkb'.out hvb'.out (by simp) (by simp) hk hv hx hm hu (by rw [hsw]; omega) (by rw [hsw]; omega) (by omega) (by omega)).mono ?_
  rintro e w3 ⟨s, rfl, hown, hbw3⟩
  have hbl3 := Lib.hid (hbl'.out.trans (hbw3 w.heap.size (Nat.le_of_lt hlt) hbl'.out.size))
  obtain ⟨l, hl⟩ : ∃ l, entBytes k.data.toList v.data.toList m u x = l := ⟨_, rfl⟩
  rw [hl] at hown
  have hl' := Lib.hid hl
  have hpos : 0 < l.length := by
    rw [← hl]
    simp [entBytes, Lib.beBytes_length]
  obtain ⟨g, cap, rfl⟩ : ∃ g cap, s = .slice (some ⟨g, 0, none⟩) l.length cap := by
    rcases hown.2 with ⟨_, h0⟩ | ⟨g, cap, cur, rfl, _⟩
    · omega
    · exact ⟨g, cap, rfl⟩
  have hbs := Lib.hid (Bs.of_own hown)
  clear hown hl
  go_wp2_with (refine wpList_b2s rfl 22 9 5 _ rfl Tryz.underlying22 Tryz.underlying5 Tryz.underlying9 g 0 _ _ rfl l rfl hbs.out ?_)
  go_ret
  exact ⟨congrArg (fun r : List UInt8 => Ending.returned (Value.string ⟨r.toArray⟩)) hl'.out.symm, hbl3.out⟩
end Go.Proofs.YtpndlcjilgcfkaaGreatDoor
