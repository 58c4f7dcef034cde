/-
  ManifestChangeSet.Unmarshal over the bytes of changes.
-/
import Derived.Test.YtkjgkjmaoebeoaaDoorMtk
import Derived.Test.YtkjgkjmaoebeoaaDoorMnP
import Derived.Deep.CutBlock
namespace Go.Proofs.YtkjgkjmaoebeoaaDoor
open Go Go.RowKit
open Go.Proofs
open Go.Lib (uvarint)

set_option maxHeartbeats 1000000 in
theorem set1_any (cb v : Nat) (cs : Array Value) (w : World) (hb : Bk w cb 131 cs) (h6 : cs.size = 6) : Calls Tryd.prog 47 #[.pointer (some ⟨cb, 0, none⟩), .int .i64 1, .int .u64 (v : Int)] w fun e w' => e = .returned (.tuple #[]) ∧ w' = w.setCell ⟨cb, 0, none⟩ (.int .u64 (v : Int)) := by
  obtain ⟨x, hx⟩ : ∃ x, cs[0]? = some x := ⟨_, Array.getElem?_eq_getElem (by omega)⟩
  have c0 := (hb.cell 0).trans hx
  have f0 := hb.free 0
  have hb' := Lib.hid hb
  clear hb
  go_enter Tryd.func47, Tryd.ntmps47
  go_wp2_with fail
  go_end0
  exact ⟨rfl, rfl⟩

set_option maxHeartbeats 1000000 in
theorem set2_any (cb v : Nat) (cs : Array Value) (w : World) (hb : Bk w cb 131 cs) (h6 : cs.size = 6) (hv : v < 2147483648) : Calls Tryd.prog 47 #[.pointer (some ⟨cb, 0, none⟩), .int .i64 2, .int .u64 (v : Int)] w fun e w' => e = .returned (.tuple #[]) ∧ w' = w.setCell ⟨cb, 1, none⟩ (.int .i32 (v : Int)) := by
  obtain ⟨x, hx⟩ : ∃ x, cs[1]? = some x := ⟨_, Array.getElem?_eq_getElem (by omega)⟩
  have c0 := (hb.cell 1).trans hx
  have f0 := hb.free 1
  have wv : IntKind.i32.wrap (v : Int) = (v : Int) := IntWalk.i32_in _ (by omega)
  have hb' := Lib.hid hb
  clear hb
  go_enter Tryd.func47, Tryd.ntmps47
  go_wp2_with fail
  go_end0
  exact ⟨rfl, rfl⟩

set_option maxHeartbeats 1000000 in
theorem set3_any (cb v : Nat) (cs : Array Value) (w : World) (hb : Bk w cb 131 cs) (h6 : cs.size = 6) (hv : v < 4294967296) : Calls Tryd.prog 47 #[.pointer (some ⟨cb, 0, none⟩), .int .i64 3, .int .u64 (v : Int)] w fun e w' => e = .returned (.tuple #[]) ∧ w' = w.setCell ⟨cb, 2, none⟩ (.int .u32 (v : Int)) := by
  obtain ⟨x, hx⟩ : ∃ x, cs[2]? = some x := ⟨_, Array.getElem?_eq_getElem (by omega)⟩
  have c0 := (hb.cell 2).trans hx
  have f0 := hb.free 2
  have wv : IntKind.u32.wrap (v : Int) = (v : Int) := IntWalk.u32_in _ (by omega)
  have hb' := Lib.hid hb
  clear hb
  go_enter Tryd.func47, Tryd.ntmps47
  go_wp2_with fail
  go_end0
  exact ⟨rfl, rfl⟩

/-- How long a slice is. -/
def lenOf : Value → Nat
  | .slice _ n _ => n
  | _ => 0

set_option maxHeartbeats 4000000 in
set_option maxRecDepth 20000 in
theorem unmarshal_any (sb g o n c : Nat) (x : Value) (L : List Chg) (w : World) (hs : Bk w sb 106 #[x]) (hb : Bs w g o (bodyB L)) (hn : (bodyB L).length = n) (hc : n ≤ c) (hc2 : c ≤ 4294967296) (hg : g < w.heap.size) (hgs : g ≠ sb)
    (hL : ∀ x, x ∈ L → 1 ≤ x.id ∧ x.id < 1000000 ∧ x.lev ≤ 6) (hN : L.length ≤ 1000000) :
    Calls Tryd.prog 37 #[.pointer (some ⟨sb, 0, none⟩), .slice (some ⟨g, o, none⟩) n c] w fun e w' => e = .returned .nilIface ∧
      ∃ A c', Bk w' sb 106 #[.slice A L.length c'] ∧ ChsR w' A L ∧ Ch [sb] w w' := by
  have s0 := hs.free 0
  have s1 := hs.cell 0
  have hsl := hs.lt
  obtain ⟨W0, hW0⟩ : ∃ W, w.setCell ⟨sb, 0, none⟩ (.slice none 0 0) = W := ⟨_, rfl⟩
  have hs0 : Bk W0 sb 106 #[.slice none 0 0] := by rw [← hW0]; simpa using hs.set 0 (.slice none 0 0)
  have hC0 : Ch [sb] w W0 := by rw [← hW0]; exact (Ch.refl [sb] w).setCell (p := ⟨sb, 0, none⟩) (.inl (by simp)) _
  simp at s1
  have hs' := Lib.hid hs
  have hb' := Lib.hid hb
  have hn' := Lib.hid hn
  have hL' := Lib.hid hL
  have hs0' := Lib.hid hs0
  have hC0' := Lib.hid hC0
  clear hC0 hs0 hL hn hb hs
  go_enter Tryd.func37, Tryd.ntmps37
  go_wp2_with fail
  go_loopw [1, 5, 6, 7, 8, 9, 10, 11, 12, 13, 14, 15] (fun v1 v5 v6 v7 v8 v9 v10 v11 v12 v13 v14 v15 wx => ∃ (j : Nat) (cbs : List Nat) (A : Option Addr) (c' : Nat) (v : Value), j ≤ L.length ∧ v1 = .slice A (bodyB (L.drop j)).length c' ∧ (bodyB (L.drop j)).length ≤ c' ∧ c' ≤ c ∧ (bodyB (L.drop j) ≠ [] → A = some ⟨g, o + (bodyB (L.take j)).length, none⟩) ∧
      Bk wx sb 106 #[v] ∧ wx.ownsRow w.heap.size 127 1 v j (cbs.map fun b => .pointer (some ⟨b, 0, none⟩)) ∧ (∀ i (h : i < L.length), i < j → ∃ cb, cbs[i]? = some cb ∧ w.heap.size ≤ cb ∧ Bk wx cb 131 (chC L[i].id L[i].op L[i].lev)) ∧ Ch [sb] w wx) (fun v1 _ _ _ _ _ _ _ _ _ _ _ _ => lenOf v1)
  case atStart => exact ⟨0, [], some ⟨g, o, none⟩, c, _, Nat.zero_le _, by rw [List.drop_zero, hn'.out], by rw [List.drop_zero, hn'.out]; exact hc, Nat.le_refl _, fun _ => by simp [bodyB], hs0'.out, World.ownsRow_nil _ w.heap.size _ 1, fun i hi hij => by omega, hC0'.out⟩
  case round =>
    obtain ⟨j, cbs, A, c', v, hj, rfl, hlc, hcc, hA, hsr, hown, hcbs, hCr⟩ := hrel
    by_cases hlt : j < L.length
    · have hX := hL'.out _ (List.getElem_mem hlt)
      have hat := bodyB_at hlt
      have htk := bodyB_take hlt
      have hne : bodyB (L.drop j) ≠ [] := by rw [hat]; simp [chgB]
      have hpos := List.length_pos_iff.2 hne
      obtain rfl := hA hne
      have hbj : Bs wr g (o + (bodyB (L.take j)).length) (bodyB (L.drop j)) := by
        have h0 := (hb'.out.ch hCr (by simpa using hgs)).drop (bodyB (L.take j)).length
        rw [bodyB_split L j, List.drop_left] at h0
        exact h0
      obtain ⟨X, hXe⟩ : ∃ X, L[j] = X := ⟨_, rfl⟩
      rw [hXe] at hX hat htk
      obtain ⟨pos, hpo⟩ : ∃ p, (bodyB (L.take j)).length = p := ⟨_, rfl⟩
      obtain ⟨R, hR⟩ : ∃ R, bodyB (L.drop (j + 1)) = R := ⟨_, rfl⟩
      have hap : bodyB (L.drop j) = 10 :: (uvarint (msgB X).length ++ (msgB X ++ R)) := by rw [hat, hR]; simp [chgB]
      rw [hpo] at hbj ⊢
      rw [hap] at hbj hlc hpos ⊢
      obtain ⟨nb, hnb⟩ : ∃ x, (10 :: (uvarint (msgB X).length ++ (msgB X ++ R))).length = x := ⟨_, rfl⟩
      have htake := take10_any g (o + pos) nb c' (msgB X) R wr (msgB_pos hX.1) hbj hnb (by rw [← hnb]; exact hlc) (by omega)
      rw [hnb] at hlc hpos ⊢
      have hposI : (0 : Int) < (nb : Int) := by omega
      obtain ⟨mk, hmk⟩ : ∃ x, (uvarint (msgB X).length).length = x := ⟨_, rfl⟩
      obtain ⟨ml, hml⟩ : ∃ x, (msgB X).length = x := ⟨_, rfl⟩
      rw [hmk, hml] at htake
      have hX' := Lib.hid hX
      have hat' := Lib.hid hat
      have htk' := Lib.hid htk
      have hne' := Lib.hid hne
      have hbj' := Lib.hid hbj
      have hXe' := Lib.hid hXe
      have hpo' := Lib.hid hpo
      have hR' := Lib.hid hR
      have hap' := Lib.hid hap
      have hnb' := Lib.hid hnb
      have htake' := Lib.hid htake
      have hmk' := Lib.hid hmk
      have hml' := Lib.hid hml
      have hown' := Lib.hid hown
      have hcbs' := Lib.hid hcbs
      have hCr' := Lib.hid hCr
      have hsr' := Lib.hid hsr
      clear hsr hCr hcbs hown hml hmk htake hnb hap hR hpo hXe hbj hne htk hat hX
      go_wp2_with fail
      refine htake'.out.mono ?_
      rintro e w2 ⟨cp, A2, c2, rfl, hC2, hA2, hr2, hr3, hp2, hp3⟩
      have hC2' := Lib.hid hC2
      have hA2' := Lib.hid hA2
      clear hA2 hC2
      go_wp2_with fail
      obtain ⟨cbk, hcbk⟩ : ∃ x, w2.heap.size = x := ⟨_, rfl⟩
      obtain ⟨W5, hW5⟩ : ∃ W, w2.alloc (.cells #[.int .u64 0, .int .i32 0, .int .u32 0, .int .u64 0, .int .i32 0, .int .u32 0] 131) = W := ⟨_, rfl⟩
      have hC5 : Ch [] wr W5 := by rw [← hW5]; exact hC2'.out.alloc _
      have hbx5 : Bk W5 cbk 131 (chC 0 0 0) := by rw [← hW5, ← hcbk]; exact Bk.new _ _ _
      have hwsz : w.heap.size ≤ cbk := by rw [← hcbk]; exact Nat.le_trans hCr'.out.size hC2'.out.size
      have hbq5 : Bs W5 g (o + pos + 1 + mk) (msgB X) := by
        have h0 := (hbj'.out.ch hC5 (by simp)).drop (1 + mk)
        rw [show (10 :: (uvarint (msgB X).length ++ (msgB X ++ R)) : List UInt8).drop (1 + mk) = msgB X ++ R by rw [← hmk'.out, Nat.add_comm, List.drop_succ_cons, List.drop_left]] at h0
        have h1 := h0.take (msgB X).length
        rw [List.take_left] at h1
        rw [Nat.add_assoc]
        exact h1
      rw [hcbk, hW5]
      rw [show ml = (msgB X).length from hml'.out.symm]
      have hC5' := Lib.hid hC5
      have hbx5' := Lib.hid hbx5
      have hbq5' := Lib.hid hbq5
      clear hbq5 hbx5 hC5
      go_loopw [7, 11, 12, 13, 14, 15] (fun s7 s11 s12 s13 s14 s15 wx => ∃ (q : List UInt8) (A7 : Option Addr) (c7 i p l pp : Nat), s7 = .slice A7 q.length c7 ∧ q.length ≤ c7 ∧ c7 ≤ c ∧ (q ≠ [] → A7 = some ⟨g, pp, none⟩ ∧ Bs wx g pp q) ∧ Stg X q i p l ∧ Bk wx cbk 131 (chC i p l) ∧ Ch [cbk] W5 wx) (fun s7 _ _ _ _ _ _ => lenOf s7)
      case atStart => exact ⟨msgB X, _, cp, 0, 0, 0, o + pos + 1 + mk, rfl, by have := hml'.out; omega, by omega, fun _ => ⟨rfl, hbq5'.out⟩, .inl ⟨rfl, rfl, rfl, rfl⟩, hbx5'.out, Ch.refl _ _⟩
      case round =>
        obtain ⟨q, A7, c7, i, p, l, pp, rfl, hql, hqc, hqA, hst, hbx, hCx⟩ := hrel
        have hop : X.op ≤ 1 := by unfold Chg.op; split <;> omega
        have hX1 := hX'.out
        rcases stg_next hst hX1.1 with ⟨hq, hi, hp, hl⟩ | ⟨q', hq, hst⟩ | ⟨q', hq, hst⟩ | ⟨q', hq, hst⟩
        · subst hq hi hp hl
          have hCi := hC5'.out.trans' hCx (fun y hy => .inr (by simp at hy; subst hy; rw [← hcbk]; exact hC2'.out.size))
          have howni := own_ch hown'.out hCi (fun _ _ hm => by cases hm)
          have hsi := hsr'.out.ch hCi (by simp)
          obtain ⟨av, cv, rfl⟩ := own_form howni
          have y0 := hsi.cell 0
          simp at y0
          have hownA := World.ownsRow.alloc howni (.cells #[.pointer (some ⟨cbk, 0, none⟩)] 127)
          have hsA := hsi.alloc (.cells #[.pointer (some ⟨cbk, 0, none⟩)] 127)
          have hbxA := hbx.alloc (.cells #[.pointer (some ⟨cbk, 0, none⟩)] 127)
          have hCiw := hCr'.out.trans_nil hCi
          have hszi := hCiw.size
          have hbx' := Lib.hid hbx
          have hCx' := Lib.hid hCx
          have hst' := Lib.hid hst
          have hCi' := Lib.hid hCi
          have howni' := Lib.hid howni
          have hsi' := Lib.hid hsi
          have hownA' := Lib.hid hownA
          have hsA' := Lib.hid hsA
          have hbxA' := Lib.hid hbxA
          have hCiw' := Lib.hid hCiw
          have hqA' := Lib.hid hqA
          clear hqA hCiw hbxA hsA hownA hsi howni hCi hst hCx hbx
          go_wp2_with (at_builtin; refine wpList_append1 rfl (.tmp 63) (.tmp 65) 104 rfl w.heap.size 127 1 Tryd.underlying104 (by kernel_rfl) (by omega) (.slice av j cv) j (cbs.map fun b => .pointer (some ⟨b, 0, none⟩)) rfl hownA'.out wr.heap.size 1 [.pointer (some ⟨cbk, 0, none⟩)] rfl rfl (Bk.at_ _ _ _ _ (by simp)) (by intro u hu; simp at hu; subst hu; rfl) (by omega) (by simp; omega) ?_; intro A' c'' w6 hown6 hc6 hat6; have hs6 := hsA'.out.ch hc6 (ty_notin hownA'.out hsA'.out.ty (by decide)); have z0 := hs6.cell 0; have g0 := hs6.free 0; simp at z0; have hs6' := Lib.hid hs6; have hown6' := Lib.hid hown6; have hc6' := Lib.hid hc6; clear hs6 hown6 hc6 hat6)
          go_roundw
          case rel =>
            have hC7 : Ch [sb] w6 (w6.setCell ⟨sb, 0, none⟩ (.slice A' (j + 1) c'')) := (Ch.refl [sb] w6).setCell (p := ⟨sb, 0, none⟩) (.inl (by simp)) _
            have hnot : ∀ b, TyAt (wr.alloc (.cells #[.pointer (some ⟨cbk, 0, none⟩)] 127)) b 131 → b ∉ (Value.slice av j cv).ownBlock.toList := fun b hb => ty_notin hownA'.out hb (by decide)
            have hnsb : ∀ b, TyAt w6 b 131 → b ∉ [sb] := fun b hb => by simpa using hb.ne hs6'.out.ty (by decide)
            have hB : ∀ k, k ∈ (Value.slice av j cv).ownBlock.toList → w.heap.size ≤ k := fun k hk => (hownA'.out.lt k (by simpa using hk)).1
            have hlenc : cbs.length = j := by
              have h0 := howni'.out.1
              simpa using h0
            refine ⟨j + 1, cbs ++ [cbk], A2, c2, _, hlt, by rw [hR'.out], by rw [hR'.out]; exact hr2, by omega, fun h => ?_, by simpa using hs6'.out.set 0 (.slice A' (j + 1) c''), ?_, fun i hi hij => ?_, (((hCiw'.out.alloc _).trans' hc6'.out (fun k hk => .inr (hB k hk))).trans' hC7 (fun k hk => .inl hk))⟩
            · rw [hR'.out] at h
              rw [hA2'.out h, htk'.out, List.length_append, chgB_length, hmk'.out, hml'.out, hpo'.out]
              congr 2
              omega
            · rw [List.map_append]
              exact own_ch hown6'.out hC7 (fun g hg => by simpa using (own_ty hown6'.out hg).ne hs6'.out.ty (by decide))
            · rcases Nat.lt_or_ge i j with hij2 | hij2
              · obtain ⟨cb, e1, e2, e3⟩ := hcbs'.out i hi hij2
                have h1 := (e3.ch hCi'.out (by simp)).alloc (.cells #[.pointer (some ⟨cbk, 0, none⟩)] 127)
                have h2 := h1.ch hc6'.out (hnot _ h1.ty)
                exact ⟨cb, by rw [List.getElem?_append_left (by omega)]; exact e1, e2, h2.ch hC7 (hnsb _ h2.ty)⟩
              · obtain rfl : i = j := by omega
                have h2 := hbxA'.out.ch hc6'.out (hnot _ hbxA'.out.ty)
                refine ⟨cbk, by rw [← hlenc]; simp, hwsz, ?_⟩
                rw [hXe'.out]
                exact h2.ch hC7 (hnsb _ h2.ty)
          case measure =>
            have h0 := hnb'.out
            have h1 := hmk'.out
            simp [lenOf] at h0 ⊢
            omega
        · skip
          have hqa := hqA (by rw [hq]; simp)
          obtain ⟨rfl, hbq⟩ := hqa
          rw [hq] at hbq hql ⊢
          obtain ⟨nq, hnq⟩ : ∃ x, (8 :: (uvarint X.id ++ q') : List UInt8).length = x := ⟨_, rfl⟩
          rw [hnq] at hql ⊢
          have hnq0 : 0 < nq := by rw [← hnq]; simp
          have hnqI : (0 : Int) < (nq : Int) := by omega
          have htk2 := take8_any g pp nq c7 X.id q' wr (by omega) hbq hnq hql (by omega)
          have hbx' := Lib.hid hbx
          have hCx' := Lib.hid hCx
          have hst' := Lib.hid hst
          have hbq' := Lib.hid hbq
          have hnq' := Lib.hid hnq
          have htk2' := Lib.hid htk2
          clear htk2 hnq hbq hst hCx hbx
          go_wp2_with fail
          refine htk2'.out.mono ?_
          rintro e w6 ⟨A6, c6, rfl, rfl, hA6, hr6, hr7⟩
          have hset := set1_any cbk X.id _ w6 hbx'.out rfl 
          have hA6' := Lib.hid hA6
          have hset' := Lib.hid hset
          clear hset hA6
          go_wp2_with fail
          refine hset'.out.mono ?_
          rintro e w7 ⟨rfl, rfl⟩
          go_wp2_with fail
          go_roundw
          case rel =>
            have hgc : g ≠ cbk := by omega
            refine ⟨q', A6, c6, _, _, _, pp + 1 + (uvarint X.id).length, rfl, hr6, by omega, fun h => ⟨hA6'.out h, ?_⟩, hst'.out, by simpa [chC] using hbx'.out.set 0 (.int .u64 (X.id : Int)), hCx'.out.setCell (p := ⟨cbk, 0, none⟩) (.inl (by simp)) _⟩
            have h0 := (hbq'.out.drop (1 + (uvarint X.id).length)).far (p := ⟨cbk, 0, none⟩) hgc (.int .u64 (X.id : Int))
            rw [show (8 :: (uvarint X.id ++ q') : List UInt8).drop (1 + (uvarint X.id).length) = q' by rw [Nat.add_comm, List.drop_succ_cons, List.drop_left]] at h0
            rw [Nat.add_assoc]
            exact h0
          case measure =>
            have h0 := hnq'.out
            simp [lenOf] at h0 ⊢
            omega
        · skip
          have hqa := hqA (by rw [hq]; simp)
          obtain ⟨rfl, hbq⟩ := hqa
          rw [hq] at hbq hql ⊢
          obtain ⟨nq, hnq⟩ : ∃ x, (16 :: (uvarint X.op ++ q') : List UInt8).length = x := ⟨_, rfl⟩
          rw [hnq] at hql ⊢
          have hnq0 : 0 < nq := by rw [← hnq]; simp
          have hnqI : (0 : Int) < (nq : Int) := by omega
          have htk2 := take16_any g pp nq c7 X.op q' wr (by omega) hbq hnq hql (by omega)
          have hbx' := Lib.hid hbx
          have hCx' := Lib.hid hCx
          have hst' := Lib.hid hst
          have hbq' := Lib.hid hbq
          have hnq' := Lib.hid hnq
          have htk2' := Lib.hid htk2
          clear htk2 hnq hbq hst hCx hbx
          go_wp2_with fail
          refine htk2'.out.mono ?_
          rintro e w6 ⟨A6, c6, rfl, rfl, hA6, hr6, hr7⟩
          have hset := set2_any cbk X.op _ w6 hbx'.out rfl (by omega)
          have hA6' := Lib.hid hA6
          have hset' := Lib.hid hset
          clear hset hA6
          go_wp2_with fail
          refine hset'.out.mono ?_
          rintro e w7 ⟨rfl, rfl⟩
          go_wp2_with fail
          go_roundw
          case rel =>
            have hgc : g ≠ cbk := by omega
            refine ⟨q', A6, c6, _, _, _, pp + 1 + (uvarint X.op).length, rfl, hr6, by omega, fun h => ⟨hA6'.out h, ?_⟩, hst'.out, by simpa [chC] using hbx'.out.set 1 (.int .i32 (X.op : Int)), hCx'.out.setCell (p := ⟨cbk, 1, none⟩) (.inl (by simp)) _⟩
            have h0 := (hbq'.out.drop (1 + (uvarint X.op).length)).far (p := ⟨cbk, 1, none⟩) hgc (.int .i32 (X.op : Int))
            rw [show (16 :: (uvarint X.op ++ q') : List UInt8).drop (1 + (uvarint X.op).length) = q' by rw [Nat.add_comm, List.drop_succ_cons, List.drop_left]] at h0
            rw [Nat.add_assoc]
            exact h0
          case measure =>
            have h0 := hnq'.out
            simp [lenOf] at h0 ⊢
            omega
        · skip
          have hqa := hqA (by rw [hq]; simp)
          obtain ⟨rfl, hbq⟩ := hqa
          rw [hq] at hbq hql ⊢
          obtain ⟨nq, hnq⟩ : ∃ x, (24 :: (uvarint X.lev ++ q') : List UInt8).length = x := ⟨_, rfl⟩
          rw [hnq] at hql ⊢
          have hnq0 : 0 < nq := by rw [← hnq]; simp
          have hnqI : (0 : Int) < (nq : Int) := by omega
          have htk2 := take24_any g pp nq c7 X.lev q' wr (by omega) hbq hnq hql (by omega)
          have hbx' := Lib.hid hbx
          have hCx' := Lib.hid hCx
          have hst' := Lib.hid hst
          have hbq' := Lib.hid hbq
          have hnq' := Lib.hid hnq
          have htk2' := Lib.hid htk2
          clear htk2 hnq hbq hst hCx hbx
          go_wp2_with fail
          refine htk2'.out.mono ?_
          rintro e w6 ⟨A6, c6, rfl, rfl, hA6, hr6, hr7⟩
          have hset := set3_any cbk X.lev _ w6 hbx'.out rfl (by omega)
          have hA6' := Lib.hid hA6
          have hset' := Lib.hid hset
          clear hset hA6
          go_wp2_with fail
          refine hset'.out.mono ?_
          rintro e w7 ⟨rfl, rfl⟩
          go_wp2_with fail
          go_roundw
          case rel =>
            have hgc : g ≠ cbk := by omega
            refine ⟨q', A6, c6, _, _, _, pp + 1 + (uvarint X.lev).length, rfl, hr6, by omega, fun h => ⟨hA6'.out h, ?_⟩, hst'.out, by simpa [chC] using hbx'.out.set 2 (.int .u32 (X.lev : Int)), hCx'.out.setCell (p := ⟨cbk, 2, none⟩) (.inl (by simp)) _⟩
            have h0 := (hbq'.out.drop (1 + (uvarint X.lev).length)).far (p := ⟨cbk, 2, none⟩) hgc (.int .u32 (X.lev : Int))
            rw [show (24 :: (uvarint X.lev ++ q') : List UInt8).drop (1 + (uvarint X.lev).length) = q' by rw [Nat.add_comm, List.drop_succ_cons, List.drop_left]] at h0
            rw [Nat.add_assoc]
            exact h0
          case measure =>
            have h0 := hnq'.out
            simp [lenOf] at h0 ⊢
            omega
    · obtain rfl : j = L.length := by omega
      have hnil : (bodyB (L.drop L.length)).length = 0 := by rw [List.drop_length]; rfl
      rw [hnil]
      obtain ⟨av, cv, rfl⟩ := own_form hown
      have hown' := Lib.hid hown
      have hcbs' := Lib.hid hcbs
      have hCr' := Lib.hid hCr
      have hsr' := Lib.hid hsr
      have hA' := Lib.hid hA
      clear hA hsr hCr hcbs hown
      go_wp2_with fail
      go_ret
      refine ⟨rfl, av, cv, hsr'.out, fun i hi => ?_, hCr'.out⟩
      obtain ⟨cb, e1, e2, e3⟩ := hcbs'.out i hi hi
      obtain ⟨gg, e4, _, e5⟩ := own_cell hown'.out (o := i) (x := .pointer (some ⟨cb, 0, none⟩)) (by simp [e1])
      exact ⟨gg, cb, e4, e5, own_ty hown'.out (by rw [e4]; rfl), e3⟩
end Go.Proofs.YtkjgkjmaoebeoaaDoor
