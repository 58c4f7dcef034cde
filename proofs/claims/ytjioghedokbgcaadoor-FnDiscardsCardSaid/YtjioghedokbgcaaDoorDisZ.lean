/-
  ZZDiscards: the stats made, each step told, the first that has most, all rows.
-/
import Derived.Test.YtjioghedokbgcaaDoorDisA
import Derived.Test.YtjioghedokbgcaaDoorDisQ
import Derived.Test.YtjioghedokbgcaaDoorDisH
namespace Go.Proofs.YtjioghedokbgcaaDoor
open Go Go.RowKit
open Go.Proofs

/-- A slice whose cells read as xs. -/
def Reads (w : World) (A : Option Addr) (xs : List Value) : Prop := ∀ j x, xs[j]? = some x → ∃ g, A = some ⟨g, 0, none⟩ ∧ w.cell? ⟨g, j, none⟩ = some x
theorem Reads.of_own {w : World} {base e n : Nat} {A : Option Addr} {c : Nat} {xs : List Value} (h : w.ownsRow base e 1 (.slice A n c) n xs) : Reads w A xs := fun j x hj => by
  obtain ⟨g, h1, _, h3⟩ := own_cell h hj
  exact ⟨g, h1, h3⟩
theorem Reads.ch {w w' : World} {A : Option Addr} {xs : List Value} (h : Reads w A xs) (hc : Ch [] w w') : Reads w' A xs := fun j x hj => by
  obtain ⟨g, h1, h2⟩ := h j x hj
  exact ⟨g, h1, (hc.cell j (block_lt_of_cell h2) (by simp)).trans h2⟩

/-- What the first j steps tell. -/
def toldCs (l : List (Nat × Int)) (j : Nat) : List Value := (List.range j).map fun i => .int .i64 ((toldOf l i : Nat) : Int)
theorem toldCs_succ (l : List (Nat × Int)) (j : Nat) : toldCs l (j + 1) = toldCs l j ++ [.int .i64 ((toldOf l j : Nat) : Int)] := by
  unfold toldCs
  rw [List.range_succ, List.map_append]
  rfl
theorem toldOf_eq {l : List (Nat × Int)} {j : Nat} (h : j < l.length) : toldOf l j = (stepV (hasOf (l.take j) (l[j]).1) (l[j]).2).getD 0 := by
  unfold toldOf
  rw [show l.getD j (0, 0) = l[j] by simp [h], take_snoc h, hasOf_snoc, if_pos rfl]

/-- The stats behind some steps. -/
structure ZSt (sb mb fb kb nb B : Nat) (nodes name : Value) (l : List (Nat × Int)) (W w : World) : Prop where
  st : ∃ (db s : Nat) (cs : Array Value) (synced : Value) (rest : List UInt8) (d : Array (Nat × Nat)), StatAt sb mb fb kb nb db s cs nodes (.int .u64 0) name synced (.int .u64 0) (.int .i64 0) rest d w ∧ 16 * d.size + 16 ≤ (rowsB d.toList ++ rest).length ∧ Asc d.toList ∧ d.size ≤ l.length ∧ (∀ g, d.toList.lookup g = hasOf l g) ∧ B ≤ db
  ch : Ch [] W w

theorem ZSt.ch' {sb mb fb kb nb B : Nat} {nodes name : Value} {l : List (Nat × Int)} {W w w' : World} {S : List Nat} (h : ZSt sb mb fb kb nb B nodes name l W w) (hc : Ch S w w') (hS : ∀ b t, TyAt w b t → t ≠ 2 → b ∉ S) (hB : ∀ k, k ∈ S → W.heap.size ≤ k) : ZSt sb mb fb kb nb B nodes name l W w' := by
  obtain ⟨⟨db, s, cs, synced, rest, d, h1, h2, h3, h4, h5, h6⟩, h7⟩ := h
  exact ⟨⟨db, s, cs, synced, rest, d, h1.ch6 hc (hS _ _ h1.mem.stat.ty (by decide)) (hS _ _ h1.mem.map.ty (by decide)) (hS _ _ h1.mem.file.file.ty (by decide)) (hS _ _ h1.mem.file.disk.ty (by decide)) (hS _ _ h1.mem.file.node.ty (by decide)) (hS _ _ h1.mem.file.data.ty (by decide)), h2, h3, h4, h5, h6⟩,
    h7.trans' hc fun k hk => .inr (hB k hk)⟩

theorem own_mono {w : World} {base B e size n : Nat} {v : Value} {xs : List Value} (h : w.ownsRow base e size v n xs) (hB : B ≤ base) : w.ownsRow B e size v n xs := by
  refine ⟨h.1, ?_⟩
  rcases h.2 with h0 | ⟨g, cap, cur, h1, h2, h3⟩
  · exact .inl h0
  · exact .inr ⟨g, cap, cur, h1, Nat.le_trans hB h2, h3⟩

def ZZPost (l : List (Nat × Int)) (W : World) (e : Ending) (w' : World) : Prop :=
  ∃ (d : Array (Nat × Nat)) (vt va : Value), e = .returned (.tuple #[vt, .int .u32 ((bestOf d.toList).1 : Int), .int .i64 ((bestOf d.toList).2 : Int), va]) ∧ w'.ownsRow W.heap.size 2 1 vt l.length (toldCs l l.length) ∧
    w'.ownsRow W.heap.size 33 2 va d.size (rowCs d.toList) ∧ Asc d.toList ∧ (∀ g, d.toList.lookup g = hasOf l g) ∧ Fits d ∧ Ch [] W w'

set_option maxHeartbeats 2000000 in
set_option maxRecDepth 20000 in
theorem zzDiscards_any (k : Nat) (hk : 4 ≤ k) (hk2 : k ≤ 100) (l : List (Nat × Int)) (hl : l.length ≤ 100) (hlf : ∀ x, x ∈ l → x.1 ≤ 1000) (hlN : ∀ x, x ∈ l → -9223372036854775808 ≤ x.2) (hlM : ∀ x, x ∈ l → x.2 ≤ 1099511627776) (FA AA : Option Addr) (fc ac : Nat) (a : Addr) (W : World)
    (hF : Reads W FA (l.map fun x => .int .u32 (x.1 : Int))) (hA : Reads W AA (l.map fun x => .int .i64 x.2))
    (hg : W.cell? ⟨0, 0, none⟩ = some (.iface 101 (.pointer (some a)))) :
    Calls Tryd.prog 5 #[.int .i64 (k : Int), .slice FA l.length fc, .slice AA l.length ac] W fun e w' => ZZPost l W e w' := by
  obtain ⟨n, hn⟩ : ∃ n, l.length = n := ⟨_, rfl⟩
  obtain ⟨S, hS⟩ : ∃ S, 16 * k = S := ⟨_, rfl⟩
  have w16 : IntKind.i64.wrap (16 * (k : Int)) = (S : Int) := (IntWalk.i64_in _ (by omega)).trans (by omega)
  have hgl := block_lt_of_cell hg
  obtain ⟨W2, hW2⟩ : ∃ w, (W.alloc (.cells #[.slice none 0 0] 29)).alloc (.cells #[.slice none 0 0, .int .i64 (-1), .int .i64 0, .int .u64 0] 46) = w := ⟨_, rfl⟩
  have hC2 : Ch [] W W2 := by rw [← hW2]; exact ((Ch.refl [] W).alloc _).alloc _
  have ha2 : Bk W2 W.heap.size 29 #[.slice none 0 0] := by rw [← hW2]; exact (Bk.new _ _ _).alloc _
  have hk2' : Bk W2 (W.heap.size + 1) 46 #[.slice none 0 0, .int .i64 (-1), .int .i64 0, .int .u64 0] := by rw [← hW2]; exact Bk.at_ _ _ _ _ (by simp)
  have hsz2 : W2.heap.size = W.heap.size + 1 + 1 := by rw [← hW2]; simp
  have hg2 := (hC2.cell 0 hgl (by simp)).trans hg
  have hinit := initDis_any (W.heap.size + 1) k a W2 hk2' hg2 hk hk2
  rw [hS] at hinit
  have hblt := optBuilt (W.heap.size + 1) (S : Int)
  have hF' := Lib.hid hF
  have hA' := Lib.hid hA
  have hC2' := Lib.hid hC2
  have ha2' := Lib.hid ha2
  have hk2'' := Lib.hid hk2'
  have hsz2' := Lib.hid hsz2
  have hg2' := Lib.hid hg2
  have hinit' := Lib.hid hinit
  have hS' := Lib.hid hS
  have hlf' := Lib.hid hlf
  have hlN' := Lib.hid hlN
  have hlM' := Lib.hid hlM
  clear hlM hlN hlf hS hinit hg2 hsz2 hk2' ha2 hC2 hA hF
  rw [hn]
  go_enter Tryd.func5, Tryd.ntmps5
  go_wp2_with (refine wpList_built rfl 52 [(37, .tmp 16), (39, .tmp 18)] (by rfl) [(37, .pointer (some ⟨W.heap.size + 1, 0, none⟩)), (39, .int .i64 (S : Int))] (by rfl) (optCs (W.heap.size + 1) (S : Int)) hblt ?_)
  refine hinit'.out.mono ?_
  rintro e w3 ⟨sb, mb, fb, nb, db, nodes, rfl, hS3, hs3, hm3, hf3, hn3, hd3, hC3⟩
  have hz := hsz2'.out
  have hZ : ZSt sb mb fb (W.heap.size + 1) nb W.heap.size nodes (.string disN) (l.take 0) W w3 :=
    ⟨⟨db, 1, _, _, _, #[], hS3, by have := hS'.out; rw [hS3.len]; simp; omega, by simp [Asc], by simp, fun g => by simp [hasOf], by omega⟩, hC2'.out.trans' hC3 fun k hk => .inr (by simp at hk; omega)⟩
  have hab3 := ha2'.out.ch hC3 (by simp)
  have hown3 : w3.ownsRow W.heap.size 2 1 (.slice none 0 0) 0 (toldCs l 0) := World.ownsRow_nil w3 W.heap.size 2 1
  have hblk : W.heap.size ≤ sb ∧ W.heap.size ≤ mb ∧ W.heap.size ≤ fb ∧ W.heap.size ≤ nb := by omega
  have hS3' := Lib.hid hS3
  have hC3' := Lib.hid hC3
  have hZ' := Lib.hid hZ
  have hab3' := Lib.hid hab3
  have hown3' := Lib.hid hown3
  have hblk' := Lib.hid hblk
  clear hblk hown3 hab3 hZ hC3 hS3
  go_wp2_with fail
  go_loopw [6, 12, 13, 27] (fun s6 s12 s13 s27 wx => ∃ j : Nat, j ≤ n ∧ s27 = .int .i64 (j : Int) ∧ wx.ownsRow W.heap.size 2 1 s6 j (toldCs l j) ∧ ZSt sb mb fb (W.heap.size + 1) nb W.heap.size nodes (.string disN) (l.take j) W wx ∧ Bk wx W.heap.size 29 #[.slice none 0 0]) (fun _ _ _ s27 _ => n - (intOf s27).toNat)
  case atStart => exact ⟨0, Nat.zero_le _, rfl, hown3'.out, hZ'.out, hab3'.out⟩
  case round =>
    obtain ⟨j, hjn, rfl, hown, hZr, habr⟩ := hrel
    by_cases hlt : j < n
    · have hltI : (j : Int) < (n : Int) := by omega
      have hjl : j < l.length := by omega
      have hmem : l[j] ∈ l := List.getElem_mem _
      have hf1 := hlf'.out _ hmem
      have hN1 := hlN'.out _ hmem
      have hM1 := hlM'.out _ hmem
      have htold := toldOf_eq hjl
      have hsnoc := take_snoc hjl
      obtain ⟨gF, rfl, cF⟩ := (hF'.out.ch hZr.ch) j (.int .u32 ((l[j]).1 : Int)) (by simp [hjl])
      obtain ⟨gA, rfl, cA⟩ := (hA'.out.ch hZr.ch) j (.int .i64 (l[j]).2) (by simp [hjl])
      obtain ⟨f, hf⟩ : ∃ f, (l[j]).1 = f := ⟨_, rfl⟩
      obtain ⟨N, hN⟩ : ∃ N, (l[j]).2 = N := ⟨_, rfl⟩
      rw [hf] at cF hf1 htold
      rw [hN] at cA hN1 hM1 htold
      have hx : l[j] = (f, N) := by rw [← hf, ← hN]
      rw [hx] at hsnoc
      obtain ⟨⟨db, s, cs, synced, rest, d, hS, hroom, hAsc, hds, hlk, hdb⟩, hCr⟩ := hZr
      have hds' : d.size ≤ 100 := by simp at hds; omega
      have hbnd := hasOf_le hlM'.out j (by omega) f
      rw [← hlk f] at hbnd htold
      have hup := update_any sb mb fb (W.heap.size + 1) nb db s cs nodes _ _ synced _ _ rest d wr f N hS hroom hAsc hds' (by omega) hN1 (by
        have : j * 1099511627776 ≤ 100 * 1099511627776 := Nat.mul_le_mul_right _ (by omega)
        omega)
      obtain ⟨V, hV⟩ : ∃ V, (stepV (d.toList.lookup f) N).getD 0 = V := ⟨_, rfl⟩
      rw [hV] at hup htold
      have w1 : IntKind.i64.wrap ((j : Int) + 1) = ((j + 1 : Nat) : Int) := (IntWalk.i64_in _ (by omega)).trans (by omega)
      have hj0 : (0 : Int) ≤ (j : Int) := by omega
      obtain ⟨av, cv, rfl⟩ := own_form hown
      have hup' := Lib.hid hup
      have hown' := Lib.hid hown
      have habr' := Lib.hid habr
      have hS' := Lib.hid hS
      have hroom' := Lib.hid hroom
      have hAsc' := Lib.hid hAsc
      have hds' := Lib.hid hds
      have hlk' := Lib.hid hlk
      have hdb' := Lib.hid hdb
      have hCr' := Lib.hid hCr
      have hV' := Lib.hid hV
      have htold' := Lib.hid htold
      have hsnoc' := Lib.hid hsnoc
      have hx' := Lib.hid hx
      have hf' := Lib.hid hf
      have hN' := Lib.hid hN
      have hmem' := Lib.hid hmem
      clear hmem hN hf hx hsnoc htold hV hCr hdb hlk hds hAsc hroom hS habr hown hup
      go_wp2_with fail
      refine hup'.out.mono ?_
      rintro e w4 ⟨rfl, ⟨db', s', cs', synced', rest', d', hS4, hroom4, hAsc4, hds4, hlk4, hdb4⟩, hC4⟩
      have htyo : ∀ g, (Value.slice av j cv).ownBlock = some g → g ∉ [sb, mb, nb, W.heap.size + 1, db] := fun g hg => by
        have h0 := own_ty hown'.out hg
        simp
        exact ⟨h0.ne hS'.out.mem.stat.ty (by decide), h0.ne hS'.out.mem.map.ty (by decide), h0.ne hS'.out.mem.file.node.ty (by decide), h0.ne hS'.out.mem.file.disk.ty (by decide), h0.ne hS'.out.mem.file.data.ty (by decide)⟩
      have hown4 := own_ch hown'.out hC4 htyo
      have hab4 := habr'.out.ch hC4 (by
        have h0 := habr'.out.ty
        simp
        exact ⟨h0.ne hS'.out.mem.stat.ty (by decide), h0.ne hS'.out.mem.map.ty (by decide), h0.ne hS'.out.mem.file.node.ty (by decide), h0.ne hS'.out.mem.file.data.ty (by decide)⟩)
      have hCW4 : Ch [] W w4 := hCr'.out.trans' hC4 fun k hk => by
        have h0 := hblk'.out
        have h1 := hdb'.out
        simp at hk
        right
        omega
      have hZ4 : ZSt sb mb fb (W.heap.size + 1) nb W.heap.size nodes (.string disN) (l.take (j + 1)) W w4 :=
        ⟨⟨db', s', cs', synced', rest', d', hS4, hroom4, hAsc4, by have := hds'.out; rw [hsnoc'.out, List.length_append, List.length_singleton]; omega, fun g => by
          rw [hsnoc'.out, hasOf_snoc, hlk4 g, hlk'.out f, hlk'.out g], by
          have h1 := hdb'.out
          have h2 := hCr'.out.size
          rcases hdb4 with h0 | h0
          · omega
          · omega⟩, hCW4⟩
      have hownA := World.ownsRow.alloc hown4 (.cells #[.int .i64 (V : Int)] 2)
      have habA := hab4.alloc (.cells #[.int .i64 (V : Int)] 2)
      have hsz4 := hCW4.size
      clear hS4 hroom4 hAsc4 hds4 hlk4 hdb4 htyo
      have hC4' := Lib.hid hC4
      have hown4' := Lib.hid hown4
      have hab4' := Lib.hid hab4
      have hCW4' := Lib.hid hCW4
      have hZ4' := Lib.hid hZ4
      have hownA' := Lib.hid hownA
      have habA' := Lib.hid habA
      clear habA hownA hZ4 hCW4 hab4 hown4 hC4
      go_wp2_with (at_builtin; refine wpList_append1 rfl (.tmp 32) (.tmp 40) 24 rfl W.heap.size 2 1 Tryd.underlying24 (by kernel_rfl) (by omega) _ j (toldCs l j) rfl hownA'.out w4.heap.size 1 [.int .i64 (V : Int)] rfl rfl (Bk.at_ _ _ _ _ (by simp)) (by intro u hu; simp at hu; subst hu; rfl) (by omega) (by simp; omega) ?_; intro A' c' w5 hown5 hc5 hat5; have hown5' := Lib.hid hown5; have hc5' := Lib.hid hc5; clear hown5 hc5 hat5)
      go_roundw
      case rel =>
        have hne : ∀ b t, TyAt (w4.alloc (.cells #[.int .i64 (V : Int)] 2)) b t → t ≠ 2 → b ∉ (Value.slice av j cv).ownBlock.toList := fun b t hb ht => ty_notin hownA'.out hb ht
        have hB : ∀ k, k ∈ (Value.slice av j cv).ownBlock.toList → W.heap.size ≤ k := fun k hk => (hownA'.out.lt k (by simpa using hk)).1
        refine ⟨j + 1, by omega, by go_num, ?_, ?_, ?_⟩
        · rw [toldCs_succ, htold'.out]
          exact hown5'.out
        · exact (hZ4'.out.ch' ((Ch.refl [] w4).alloc _) (fun _ _ _ _ => by simp) (fun _ hk => by cases hk)).ch' hc5'.out hne hB
        · exact habA'.out.ch hc5'.out (hne _ _ habA'.out.ty (by decide))
      case measure => simp [intOf]; omega
    · obtain rfl : j = n := by omega
      obtain ⟨⟨db, s, cs, synced, rest, d, hS, hroom, hAsc, hds, hlk, hdb⟩, hCr⟩ := hZr
      have ht : l.take j = l := by rw [← hn]; exact List.take_length
      rw [ht] at hlk
      have hmax := maxDiscard_any sb mb fb (W.heap.size + 1) nb db s cs nodes _ _ synced _ _ rest d wr hS
      obtain ⟨av, cv, rfl⟩ := own_form hown
      have hown' := Lib.hid hown
      have habr' := Lib.hid habr
      have hS' := Lib.hid hS
      have hroom' := Lib.hid hroom
      have hAsc' := Lib.hid hAsc
      have hds' := Lib.hid hds
      have hlk' := Lib.hid hlk
      have hdb' := Lib.hid hdb
      have hCr' := Lib.hid hCr
      have hmax' := Lib.hid hmax
      have ht' := Lib.hid ht
      clear ht hmax hCr hdb hlk hds hAsc hroom hS habr hown
      go_wp2_with fail
      refine hmax'.out.mono ?_
      rintro e w4 ⟨rfl, hC4⟩
      have hS4 := hS'.out.ch hC4
      have hab4 := habr'.out.ch hC4 (by simp)
      have hown4 := own_ch hown'.out hC4 (fun g hg hm => by cases hm)
      have hall := allRows_any sb mb fb (W.heap.size + 1) nb db s W.heap.size cs nodes _ _ synced _ _ rest d w4 hS4 hab4
      have hfits := hS4.fits
      have hC4' := Lib.hid hC4
      have hS4' := Lib.hid hS4
      have hab4' := Lib.hid hab4
      have hown4' := Lib.hid hown4
      have hall' := Lib.hid hall
      have hfits' := Lib.hid hfits
      clear hfits hall hown4 hab4 hS4 hC4
      go_wp2_with fail
      refine hall'.out.mono ?_
      rintro e w5 ⟨rfl, ⟨vv, hab5, hrow5⟩, hC5⟩
      obtain ⟨rv, rc, rfl⟩ := own_form hrow5
      have c5 := hab5.cell 0
      have f5 := hab5.free 0
      simp at c5
      have hown5 := own_ch hown4'.out hC5 (fun g hg => by simpa using (own_ty hown4'.out hg).ne hab4'.out.ty (by decide))
      have hrow5b := own_mono hrow5 (Nat.le_trans hCr'.out.size hC4'.out.size)
      obtain ⟨bf, hbf⟩ : ∃ b, (bestOf d.toList).1 = b := ⟨_, rfl⟩
      obtain ⟨bv, hbv⟩ : ∃ b, (bestOf d.toList).2 = b := ⟨_, rfl⟩
      have hab5' := Lib.hid hab5
      have hrow5' := Lib.hid hrow5
      have hC5' := Lib.hid hC5
      have hown5' := Lib.hid hown5
      have hrow5b' := Lib.hid hrow5b
      clear hrow5b hown5 hC5 hrow5 hab5
      go_wp2_with fail
      go_region
      all_goals
        go_wp2_with fail
        have hCs : Ch [W.heap.size] w5 (w5.setCell ⟨W.heap.size, 0, none⟩ (.slice rv d.size rc)).drew := ((Ch.refl [W.heap.size] w5).setCell (p := ⟨W.heap.size, 0, none⟩) (.inl (by simp)) _).drew
        have hab6 : Bk (w5.setCell ⟨W.heap.size, 0, none⟩ (.slice rv d.size rc)).drew W.heap.size 29 #[.slice rv d.size rc] := by simpa using (hab5'.out.set 0 (.slice rv d.size rc)).drew
        have cF := hab6.cell 0
        simp at cF
        refine bodyPost_ret (v := .tuple #[.slice av j cv, .int .u32 (bf : Int), .int .i64 (bv : Int), .slice rv d.size rc]) (by simp [results, Tryd.results5, go_sem, cF]) rfl ?_
        refine ⟨d, .slice av j cv, .slice rv d.size rc, by rw [hbf, hbv], ?_, ?_, hAsc'.out, hlk'.out, hfits'.out, ?_⟩
        · rw [hn]
          exact own_ch hown5'.out hCs (fun g hg => by simpa using (own_ty hown5'.out hg).ne hab5'.out.ty (by decide))
        · exact own_ch hrow5b'.out hCs (fun g hg => by simpa using (own_ty hrow5b'.out hg).ne hab5'.out.ty (by decide))
        · exact ((hCr'.out.trans_nil hC4'.out).trans' hC5'.out fun k hk => .inr (by simp at hk; omega)).trans' hCs fun k hk => .inr (by simp at hk; omega)
end Go.Proofs.YtjioghedokbgcaaDoor
