/-
  The walk of FnLogBack.
-/
import Derived.Test.YtpndlcjilgcfkaaGreatDoorLogR
import Derived.Test.YtpndlcjilgcfkaaGreatDoorEntsR
import Derived.Test.YtpndlcjilgcfkaaGreatDoorLogE
namespace Go.Proofs.YtpndlcjilgcfkaaGreatDoor
open Go Go.RowKit
open Go.Proofs

theorem andB_ : ∀ a : Fin 32, ∀ b : Fin 8, (a.val * 8 + b.val) &&& 192 = (a.val * 8 + b.val) / 64 % 4 * 64 := by decide +kernel
theorem andB (m : Nat) (h : m < 256) : bits .and .u8 (m : Int) 192 = ((m / 64 % 4 * 64 : Nat) : Int) := by
  have h1 := u8_and_nat m 192 h (by omega)
  have h2 := andB_ ⟨m / 8, by omega⟩ ⟨m % 8, by omega⟩
  rw [show m / 8 * 8 + m % 8 = m by omega] at h2
  rw [← h2]
  exact h1

theorem eBytes_le (e : LEnt) (hk : e.key.length ≤ 1000000) (hv : e.val.length ≤ 1000000) (hx : e.exp < 18446744073709551616) : (eBytes e).length ≤ 26 + e.key.length + e.val.length := by
  have h := entHead_length e.key e.val e.bits e.um e.exp (by omega) (by omega) hx
  rw [eBytes_length]
  have h2 : (eHead e).length = (entHead e.key e.val e.bits e.um e.exp).length := rfl
  omega
theorem bytesL_small : ∀ (l : List LEnt), (∀ e, e ∈ l → e.key.length ≤ 200 ∧ e.val.length ≤ 500 ∧ e.exp < 18446744073709551616) → (bytesL l).length ≤ 726 * l.length := by
  intro l
  induction l with
  | nil => intro _; simp [bytesL]
  | cons e l ih =>
    intro h
    have h1 := ih fun e he => h e (List.mem_cons_of_mem _ he)
    obtain ⟨k1, k2, k3⟩ := h e List.mem_cons_self
    have h2 := eBytes_le e (by omega) (by omega) k3
    simp only [bytesL, List.length_append, List.length_cons]
    omega
theorem small_parts {l : List LEnt} (h : small50 l = true) : l.length ≤ 50 ∧ ∀ e, e ∈ l → 0 < e.key.length ∧ e.key.length ≤ 200 ∧ e.val.length ≤ 500 := by
  unfold small50 at h
  rw [Bool.and_eq_true, List.all_eq_true] at h
  exact ⟨by simpa using h.2, fun e he => by simpa [small1] using h.1 e he⟩
theorem placed_take {l : List LEnt} {j : Nat} (hj : j < l.length) : placed 20 (l.take (j + 1)) = placed 20 (l.take j) ++ [put (20 + (bytesL (l.take j)).length) l[j]] := by
  rw [List.take_succ_eq_append_getElem hj, placed_append]
  rfl
theorem forall_take {p : LEnt → Prop} {l : List LEnt} {j : Nat} (hj : j < l.length) (h : ∀ e, e ∈ l.take j → p e) (h1 : p l[j]) : ∀ e, e ∈ l.take (j + 1) → p e := by
  rw [List.take_succ_eq_append_getElem hj]
  intro e he
  rcases List.mem_append.1 he with h2 | h2
  · exact h e h2
  · simp at h2
    subst h2
    exact h1

/-- The fixed log's entry. -/
def eK : LEnt := ⟨[107], [], 0, 0, 0, 0, 0⟩
theorem eK_ok : EOk eK := ⟨by decide, by decide, by decide, by decide, by decide, by decide⟩


set_option maxHeartbeats 8000000 in
set_option maxRecDepth 20000 in
theorem fnLogBack_walk (l : List LEnt) (v : Value) (z : Int) (w : World) (hv : EntsR w v l) (hl : l.length ≤ 9223372036854775807) (hm : LogMem w) :
    Calls Tryz.prog 4 #[v, .int .i64 z] w fun e w' => e = .returned (.bool true) ∧ Below w.heap.size w w' := by
  have hfits := zzFits6_any l v w hv hl
  obtain ⟨A, c, rfl⟩ := hv.form
  obtain ⟨n, hn⟩ : ∃ n, l.length = n := ⟨_, rfl⟩
  cases hf : fit6 l with
  | false =>
    rw [hf] at hfits
    rw [hn] at hv hl hfits
    rw [hn]
    have hfits' := Lib.hid hfits
    have hv' := Lib.hid hv
    have hn' := Lib.hid hn
    have hm' := Lib.hid hm
    have hf' := Lib.hid hf
    clear hf hm hn hv hfits
    go_enter Tryz.func4, Tryz.ntmps4
    go_wp2_with fail
    refine hfits'.out.mono ?_
    rintro e w1 ⟨rfl, hb1⟩
    have hb1' := Lib.hid hb1
    clear hb1
    go_wp2_with fail
    go_ret
    exact ⟨rfl, hb1'.out⟩
  | true =>
    rw [hf] at hfits
    have hlen : l.length ≤ 2147483647 := by
      unfold fit6 at hf
      rw [Bool.and_eq_true] at hf
      simpa using hf.1
    have hent := fun W (hb : Below w.heap.size w W) => lEntries_any l _ W (hv.below hb) hlen
    rw [hn] at hv hl hfits hlen hent
    rw [hn]
    cases hs : small50 l with
    | false =>
      rw [hs] at hent
      have hv' := Lib.hid hv
      have hn' := Lib.hid hn
      have hm' := Lib.hid hm
      have hf' := Lib.hid hf
      have hs' := Lib.hid hs
      clear hs hf hm hn hv
      have hfits' := Lib.hid hfits
      have hent' := Lib.hid hent
      clear hent hfits
      go_enter Tryz.func4, Tryz.ntmps4
      go_wp2_with fail
      refine hfits'.out.mono ?_
      rintro e w1 ⟨rfl, hb1⟩
      have hent2 := hent'.out w1 hb1
      have hb1' := Lib.hid hb1
      have hent2' := Lib.hid hent2
      clear hent2 hb1
      go_wp2_with fail
      refine hent2'.out.mono ?_
      rintro e w2 ⟨rfl, hb2⟩
      have hbA : Below w.heap.size w w2 := below_call_ hb2 hb1'.out
      have hb2' := Lib.hid hb2
      have hbA' := Lib.hid hbA
      clear hbA hb2
      go_wp2_with fail
      go_ret
      exact ⟨rfl, hbA'.out⟩
    | true =>
      rw [hs] at hent
      obtain ⟨hn50, hsm⟩ := small_parts hs
      rw [hn] at hn50
      by_cases z0 : z < 0
      · skip
        have hv' := Lib.hid hv
        have hn' := Lib.hid hn
        have hm' := Lib.hid hm
        have hf' := Lib.hid hf
        have hs' := Lib.hid hs
        have hsm' := Lib.hid hsm
        clear hsm hs hf hm hn hv
        have hfits' := Lib.hid hfits
        have hent' := Lib.hid hent
        clear hent hfits
        go_enter Tryz.func4, Tryz.ntmps4
        go_wp2_with fail
        refine hfits'.out.mono ?_
        rintro e w1 ⟨rfl, hb1⟩
        have hent2 := hent'.out w1 hb1
        have hb1' := Lib.hid hb1
        have hent2' := Lib.hid hent2
        clear hent2 hb1
        go_wp2_with fail
        refine hent2'.out.mono ?_
        rintro e w2 ⟨rfl, hb2⟩
        have hbA : Below w.heap.size w w2 := below_call_ hb2 hb1'.out
        have hb2' := Lib.hid hb2
        have hbA' := Lib.hid hbA
        clear hbA hb2
        go_wp2_with fail
        go_ret
        exact ⟨rfl, hbA'.out⟩
      by_cases z1 : 1000 < z
      · skip
        have hv' := Lib.hid hv
        have hn' := Lib.hid hn
        have hm' := Lib.hid hm
        have hf' := Lib.hid hf
        have hs' := Lib.hid hs
        have hsm' := Lib.hid hsm
        clear hsm hs hf hm hn hv
        have hfits' := Lib.hid hfits
        have hent' := Lib.hid hent
        clear hent hfits
        go_enter Tryz.func4, Tryz.ntmps4
        go_wp2_with fail
        refine hfits'.out.mono ?_
        rintro e w1 ⟨rfl, hb1⟩
        have hent2 := hent'.out w1 hb1
        have hb1' := Lib.hid hb1
        have hent2' := Lib.hid hent2
        clear hent2 hb1
        go_wp2_with fail
        refine hent2'.out.mono ?_
        rintro e w2 ⟨rfl, hb2⟩
        have hbA : Below w.heap.size w w2 := below_call_ hb2 hb1'.out
        have hb2' := Lib.hid hb2
        have hbA' := Lib.hid hbA
        clear hbA hb2
        go_wp2_with fail
        go_ret
        exact ⟨rfl, hbA'.out⟩
      obtain ⟨zn, rfl⟩ : ∃ zn : Nat, z = (zn : Int) := ⟨z.toNat, by omega⟩
      have hbl := bytesL_small l fun e he => ⟨(hsm e he).2.1, (hsm e he).2.2, (hv.wf e he).2.2⟩
      rw [hn] at hbl
      have hmk := run_mkB2 .i64 .i64 20 20 rfl (by omega)
      obtain ⟨Z, hZ⟩ : ∃ Z, List.replicate 20 (Value.int .u8 0) = Z := ⟨_, rfl⟩
      rw [hZ] at hmk
      have hbl2 : (bytesL l).length ≤ 40000 := by omega
      have hv' := Lib.hid hv
      have hn' := Lib.hid hn
      have hm' := Lib.hid hm
      have hf' := Lib.hid hf
      have hs' := Lib.hid hs
      have hsm' := Lib.hid hsm
      have hbl' := Lib.hid hbl
      have hbl2' := Lib.hid hbl2
      have hZ' := Lib.hid hZ
      clear hZ hbl2 hbl hsm hs hf hm hn hv
      have hfits' := Lib.hid hfits
      have hent' := Lib.hid hent
      clear hent hfits
      go_enter Tryz.func4, Tryz.ntmps4
      go_wp2_with fail
      refine hfits'.out.mono ?_
      rintro e w1 ⟨rfl, hb1⟩
      have hent2 := hent'.out w1 hb1
      have hb1' := Lib.hid hb1
      have hent2' := Lib.hid hent2
      clear hent2 hb1
      go_wp2_with fail
      refine hent2'.out.mono ?_
      rintro e w2 ⟨rfl, hb2⟩
      have hbA : Below w.heap.size w w2 := below_call_ hb2 hb1'.out
      have hb2' := Lib.hid hb2
      have hbA' := Lib.hid hbA
      clear hbA hb2
      go_wp2_with (refine wpList_b2s rfl 22 9 5 (.tmp 30) rfl Tryz.underlying22 Tryz.underlying5 Tryz.underlying9 w2.heap.size 0 20 20 rfl zeros20 rfl (bs_zeros (by rw [hZ'.out]; exact Bk.at_ _ _ _ _ rfl)) ?_)
      clear hmk
      go_loopw [5, 6, 34] (fun s5 s6 s34 wx => ∃ j : Nat, j ≤ n ∧ s34 = .int .i64 (j : Int) ∧ s5 = .string ⟨(zeros20 ++ bytesL (l.take j)).toArray⟩ ∧ Ents w.heap.size wx s6 (placed 20 (l.take j)) ∧ (∀ e, e ∈ l.take j → e.bits / 64 % 4 = 0) ∧ Below w.heap.size w wx) (fun _ _ s34 _ => n - (intOf s34).toNat)
      case atStart => exact ⟨0, Nat.zero_le _, rfl, by simp [bytesL], by simpa [placed] using Ents.nil _ _, by simp, below_alloc_ hbA'.out _⟩
      case round =>
        obtain ⟨j, hj, rfl, rfl, hx, hbits, hbw⟩ := hrel
        by_cases hlt : j < n
        · have hltI : (j : Int) < (n : Int) := by omega
          have hjl : j < l.length := by have := hn'.out; omega
          obtain ⟨g, o, c2, he, hg, c0, c1, c2', c3, c4, c5, c6⟩ := (hv'.out.below hbw).at_ j (by have := hn'.out; omega)
          have hA : A = some ⟨g, o, none⟩ := by injection he
          clear he
          subst hA
          have hle1 := bytesL_le hbl2'.out j
          have hle2 := bytesL_le hbl2'.out (j + 1)
          obtain ⟨k0, k1, k2⟩ := hsm'.out l[j] (List.getElem_mem hjl)
          obtain ⟨k3, k4, k5⟩ := hv'.out.wf l[j] (List.getElem_mem hjl)
          have hT := bytesL_take hjl
          have hPt := placed_take hjl
          have hbn := fun h => forall_take (p := fun e => e.bits / 64 % 4 = 0) hjl hbits h
          obtain ⟨E, hE⟩ : ∃ E, l[j] = E := ⟨_, rfl⟩
          rw [hE] at c0 c1 c2' c3 c4 c5 c6 k0 k1 k2 k3 k4 k5 hT hPt hbn
          have hand := andB E.bits k3
          by_cases hB : E.bits / 64 % 4 = 0
          · rw [hB] at hand
            have hcall : ∀ W, Calls Tryz.prog 13 #[.agg (enC E)] W fun e w' => e = .returned (.string ⟨(eBytes E).toArray⟩) ∧ Below W.heap.size W w' := fun W => implLogEntry_any ⟨E.key.toArray⟩ ⟨E.val.toArray⟩ E.bits E.um E.exp E.off E.len (by simp [ByteArray.size]; omega) (by simp [ByteArray.size]; omega) k3 k4 k5 W
            unfold enC at hcall
            unfold entCells at hcall
            rw [hT, List.length_append] at hle2
            obtain ⟨X, hX⟩ : ∃ X, placed 20 (l.take j) = X := ⟨_, rfl⟩
            have hXl : X.length = j := by rw [← hX, placed_length, List.length_take]; omega
            obtain ⟨P, hP⟩ : ∃ P, zeros20 ++ bytesL (l.take j) = P := ⟨_, rfl⟩
            obtain ⟨Q, hQ⟩ : ∃ Q, eBytes E = Q := ⟨_, rfl⟩
            have hPe : P.length = 20 + (bytesL (l.take j)).length := by rw [← hP, List.length_append]; rfl
            have hPQ : zeros20 ++ bytesL (l.take (j + 1)) = P ++ Q := by rw [hT, ← hP, ← hQ, List.append_assoc]
            have hpn := hbn hB
            rw [hX, ← hPe] at hPt
            rw [hX] at hx
            rw [hP]
            rw [hQ] at hle2
            simp only [hQ] at hcall
            have hput : put P.length E = ⟨E.key, E.val, E.bits, E.um, E.exp, P.length, Q.length⟩ := by rw [put, hQ]
            rw [hput] at hPt
            have hs1 : (ByteArray.mk P.toArray).size = P.length := by simp [ByteArray.size]
            have hs2 : (ByteArray.mk Q.toArray).size = Q.length := by simp [ByteArray.size]
            have hPl : P.length ≤ 40020 := by omega
            have hQl : Q.length ≤ 40000 := by omega
            have hsum : ¬ 9223372036854775807 < P.length + Q.length := by omega
            have wP : IntKind.u32.wrap (P.length : Int) = (P.length : Int) := IntWalk.u32_in _ (by omega)
            have wQ : IntKind.u32.wrap (Q.length : Int) = (Q.length : Int) := IntWalk.u32_in _ (by omega)
            have hcall' := fun W => Lib.hid (hcall W)
            have hone := enC_one ⟨E.key, E.val, E.bits, E.um, E.exp, P.length, Q.length⟩
            unfold enC entCells at hone
            obtain ⟨ax, cx, rfl⟩ := ents_form hx
            rw [hXl] at hx
            clear hcall hbn
            have hbw' := Lib.hid hbw
            have hE' := Lib.hid hE
            have hT' := Lib.hid hT
            have hP' := Lib.hid hP
            have hQ' := Lib.hid hQ
            have hPQ' := Lib.hid hPQ
            have hPt' := Lib.hid hPt
            have hpn' := Lib.hid hpn
            have hX' := Lib.hid hX
            have hput' := Lib.hid hput
            have hbits' := Lib.hid hbits
            have hx' := Lib.hid hx
            have hone' := Lib.hid hone
            have hle1' := Lib.hid hle1
            have hle2' := Lib.hid hle2
            have hPe' := Lib.hid hPe
            have k0' := Lib.hid k0
            have k1' := Lib.hid k1
            have k2' := Lib.hid k2
            have hB' := Lib.hid hB
            clear hB k2 k1 k0 hPe hle2 hle1 hone hx hbits hput hX hpn hPt hPQ hQ hP hT hE hbw
            go_wp2_with fail
            refine (hcall' _).out.mono ?_
            rintro e w3 ⟨rfl, hb3⟩
            have hbB := below_call_ hb3 (below_alloc_ hbw'.out _)
            have hbC := below_call_ hb3 (below_alloc_ (Below.refl _ wr) _)
            have hbox := (Bk.at_ wr wr.heap.size 30 #[Value.string ⟨E.key.toArray⟩, .string ⟨E.val.toArray⟩, .int .u8 (E.bits : Int), .int .u8 (E.um : Int), .int .u64 (E.exp : Int), .int .u32 (E.off : Int), .int .u32 (E.len : Int)] rfl).below hb3 (by simp)
            have q0 := hbox.cell 0
            have q1 := hbox.cell 1
            have q2 := hbox.cell 2
            have q3 := hbox.cell 3
            have q4 := hbox.cell 4
            have q5 := hbox.cell 5
            have q6 := hbox.cell 6
            simp at q0 q1 q2 q3 q4 q5 q6
            have f5 := hbox.free 5
            have f6 := hbox.free 6
            have hlw : wr.heap.size < w3.heap.size := hbox.lt
            have hxs : ∀ g, (Value.slice ax j cx).ownBlock = some g → g ∉ [wr.heap.size] := fun g hg hm => by
              have := (hx'.out.lt hg).2
              simp at hm
              omega
            have hchS : Ch [wr.heap.size] w3 ((w3.setCell ⟨wr.heap.size, 5, none⟩ (.int .u32 (P.length : Int))).setCell ⟨wr.heap.size, 6, none⟩ (.int .u32 (Q.length : Int))) := ((Ch.refl _ _).setCell (p := ⟨wr.heap.size, 5, none⟩) (.inl (by simp)) _).setCell (p := ⟨wr.heap.size, 6, none⟩) (.inl (by simp)) _
            have hx3 := (hx'.out.below hbC (Nat.le_refl _)).ch hchS hxs
            unfold Ents at hx3
            rw [hXl] at hx3
            have hov := World.ownsRow.alloc hx3 (.cells #[Value.string ⟨E.key.toArray⟩, .string ⟨E.val.toArray⟩, .int .u8 (E.bits : Int), .int .u8 (E.um : Int), .int .u64 (E.exp : Int), .int .u32 (P.length : Int), .int .u32 (Q.length : Int)] 30)
            have hwr : w.heap.size ≤ wr.heap.size := hbw'.out.size
            have hchW := ((Ch.of_below hbB).trans' hchS (S := []) (by intro k hk; simp at hk; omega)).alloc (.cells #[Value.string ⟨E.key.toArray⟩, .string ⟨E.val.toArray⟩, .int .u8 (E.bits : Int), .int .u8 (E.um : Int), .int .u64 (E.exp : Int), .int .u32 (P.length : Int), .int .u32 (Q.length : Int)] 30)
            have hbox' := Lib.hid hbox
            have hb3' := Lib.hid hb3
            have hbB' := Lib.hid hbB
            have hbC' := Lib.hid hbC
            have hxs' := Lib.hid hxs
            have hchS' := Lib.hid hchS
            have hx3' := Lib.hid hx3
            have hov' := Lib.hid hov
            have hchW' := Lib.hid hchW
            clear hchW hov hx3 hchS hxs hbC hbB hb3 hbox
            go_wp2_with (at_builtin; refine wpList_appendN rfl (.tmp 52) (.tmp 54) 23 rfl w.heap.size 30 7 Tryz.underlying23 (by kernel_rfl) (by omega) _ j (entCs X) rfl hov'.out ⟨w3.heap.size, 0, none⟩ 1 1 [Value.string ⟨E.key.toArray⟩, .string ⟨E.val.toArray⟩, .int .u8 (E.bits : Int), .int .u8 (E.um : Int), .int .u64 (E.exp : Int), .int .u32 (P.length : Int), .int .u32 (Q.length : Int)] rfl rfl (bk_news (Bk.at_ _ _ _ _ (by simp))) hone'.out (by omega) (by simp; omega) ?_; intro A' c' w4 hown4 hch4 hloc4; have hown4' := Lib.hid hown4; have hch5 : Ch (Value.slice ax j cx).ownBlock.toList _ w4 := hch4; have hch4' := Lib.hid hch5; clear hown4 hch4 hch5)
            go_roundw
            case rel =>
              refine ⟨j + 1, by omega, by go_num, by rw [hPQ'.out]; exact congrArg Value.string (ByteArray.mk_append_mk _ _), ?_, hpn'.out, ?_⟩
              · rw [hPt'.out]
                unfold Ents
                rw [entCs_snoc, List.length_append, hXl]
                exact hown4'.out
              · exact (hchW'.out.trans' hch4'.out (by
                  intro k hk
                  right
                  have h1 : (Value.slice ax j cx).ownBlock = some k := by simpa using hk
                  exact (hx'.out.lt h1).1)).below_nil
            case measure => simp [intOf]; omega
          · obtain ⟨V, hV⟩ : ∃ V, E.bits / 64 % 4 * 64 = V := ⟨_, rfl⟩
            rw [hV] at hand
            have hne : ((V : Int) != 0) = true := by simp; omega
            have hne2 : ¬ (V : Int) = 0 := by omega
            clear hbn
            have hbw' := Lib.hid hbw
            have hE' := Lib.hid hE
            have hT' := Lib.hid hT
            have hPt' := Lib.hid hPt
            have hbits' := Lib.hid hbits
            have hx' := Lib.hid hx
            have hle1' := Lib.hid hle1
            have hle2' := Lib.hid hle2
            have k0' := Lib.hid k0
            have k1' := Lib.hid k1
            have k2' := Lib.hid k2
            have hV' := Lib.hid hV
            clear hV k2 k1 k0 hle2 hle1 hx hbits hPt hT hE hbw
            go_wp2_with fail
            go_ret
            exact ⟨rfl, below_alloc_ hbw'.out _⟩
        · obtain rfl : j = n := by omega
          have hT : l.take j = l := List.take_of_length_le (by have := hn'.out; omega)
          rw [hT] at hx hbits
          rw [hT]
          have hok : ∀ e, e ∈ l → EOk e ∧ e.bits / 64 % 2 = 0 ∧ e.bits / 128 % 2 = 0 := fun e he => by
            obtain ⟨k0, k1, k2⟩ := hsm'.out e he
            obtain ⟨k3, k4, k5⟩ := hv'.out.wf e he
            have hb := hbits e he
            exact ⟨⟨fun h => by rw [h] at k0; simp at k0, by omega, by omega, k3, k4, k5⟩, by omega, by omega⟩
          have hrd := readLog_plain zeros20 l zn (by simp [zeros20]) hok
          obtain ⟨P, hP⟩ : ∃ P, zeros20 ++ bytesL l = P := ⟨_, rfl⟩
          have hPe : P.length = 20 + (bytesL l).length := by rw [← hP, List.length_append]; rfl
          rw [hP, ← hPe] at hrd
          rw [hP]
          obtain ⟨Y, hY⟩ : ∃ Y, List.replicate zn (0 : UInt8) = Y := ⟨_, rfl⟩
          have hYl : Y.length = zn := by rw [← hY, List.length_replicate]
          rw [hY] at hrd
          obtain ⟨X, hX⟩ : ∃ X, placed 20 l = X := ⟨_, rfl⟩
          have hXl : X.length = j := by rw [← hX, placed_length]; exact hn'.out
          rw [hX] at hrd hx
          obtain ⟨ax, cx, rfl⟩ := ents_form hx
          have hmk := run_mkB2 .i64 .i64 zn zn rfl (by omega)
          obtain ⟨Zn, hZn⟩ : ∃ Z, List.replicate zn (Value.int .u8 0) = Z := ⟨_, rfl⟩
          rw [hZn] at hmk
          have hcat : ByteArray.mk P.toArray ++ ByteArray.mk Y.toArray = ⟨(P ++ Y).toArray⟩ := ByteArray.mk_append_mk _ _
          obtain ⟨C, hC⟩ : ∃ C, P ++ Y = C := ⟨_, rfl⟩
          rw [hC] at hrd hcat
          have hCl : C.length = P.length + zn := by rw [← hC, List.length_append, hYl]
          have hb20 := hbl2'.out
          have hPl : P.length ≤ 40020 := by omega
          have hs1 : (ByteArray.mk P.toArray).size = P.length := by simp [ByteArray.size]
          have hs2 : (ByteArray.mk Y.toArray).size = zn := by rw [← hYl]; simp [ByteArray.size]
          have hsum : ¬ 9223372036854775807 < P.length + zn := by omega
          have hcall := fun W (h : Below w.heap.size w W) => hm'.out.call h C (by rw [hrd]) (by omega) (by omega)
          have wE : IntKind.i64.wrap (P.length : Int) = (P.length : Int) := IntWalk.i64_in _ (by omega)
          have hbw' := Lib.hid hbw
          have hT' := Lib.hid hT
          have hbits' := Lib.hid hbits
          have hx' := Lib.hid hx
          have hok' := Lib.hid hok
          have hrd' := Lib.hid hrd
          have hP' := Lib.hid hP
          have hPe' := Lib.hid hPe
          have hY' := Lib.hid hY
          have hYl' := Lib.hid hYl
          have hX' := Lib.hid hX
          have hXl' := Lib.hid hXl
          have hZn' := Lib.hid hZn
          have hcat' := Lib.hid hcat
          have hC' := Lib.hid hC
          have hCl' := Lib.hid hCl
          have hb20' := Lib.hid hb20
          have hcall' := Lib.hid hcall
          clear hcall hb20 hCl hC hcat hZn hXl hX hYl hY hPe hP hrd hok hx hbits hT hbw
          go_wp2_with (refine wpList_b2s rfl 22 9 5 (.tmp 63) rfl Tryz.underlying22 Tryz.underlying5 Tryz.underlying9 wr.heap.size 0 zn zn rfl Y hYl'.out (by rw [← hY'.out]; exact bs_zeros (by rw [hZn'.out]; exact Bk.at_ _ _ _ _ rfl)) ?_)
          rw [hcat'.out]
          refine (hcall'.out _ (below_alloc_ hbw'.out _)).mono ?_
          rintro e w3 ⟨v3, rfl, hv3, hb3⟩
          rw [hrd'.out] at hv3 ⊢
          obtain ⟨A3, c3, rfl⟩ := ents_form hv3
          clear hmk
          have hbB : Below w.heap.size w w3 := below_call_ hb3 (below_alloc_ hbw'.out _)
          have hbC : Below wr.heap.size wr w3 := below_call_ hb3 (below_alloc_ (Below.refl _ _) _)
          have hx3 := hx'.out.below hbC (Nat.le_refl _)
          obtain ⟨C2, hC2⟩ : ∃ C, zeros20 ++ bytesL [eK] = C := ⟨_, rfl⟩
          have hrd2 : readLog C2 = (placed 20 [eK], 20 + (bytesL [eK]).length, true) := by
            rw [← hC2]
            exact zeros_read [eK] (fun e he => by
              simp at he
              subst he
              exact ⟨eK_ok, by decide, by decide⟩)
          have hblK : (bytesL [eK]).length ≤ 1000 := by decide +kernel
          have hCl2 : C2.length = 20 + (bytesL [eK]).length := by rw [← hC2, List.length_append]; rfl
          have hlog := logOf_any w3.heap.size [eK] (.slice (some ⟨w3.heap.size, 0, none⟩) 1 1) (w3.alloc (.cells (enC eK) 30)) (ents_new (Bk.at_ _ _ _ _ rfl)) (by simp) (fun e he => by
            simp at he
            subst he
            exact ⟨by decide, by decide, by decide, by decide, by decide⟩) (by omega)
          rw [hC2] at hlog
          have hv3' := Lib.hid hv3
          have hb3' := Lib.hid hb3
          have hbB' := Lib.hid hbB
          have hbC' := Lib.hid hbC
          have hx3' := Lib.hid hx3
          have hC2' := Lib.hid hC2
          have hrd2' := Lib.hid hrd2
          have hblK' := Lib.hid hblK
          have hCl2' := Lib.hid hCl2
          have hlog' := Lib.hid hlog
          clear hlog hCl2 hblK hrd2 hC2 hx3 hbC hbB hb3 hv3
          go_wp2_with fail
          refine hlog'.out.mono ?_
          rintro e w4 ⟨rfl, hb4⟩
          have hbD : Below w.heap.size w w4 := below_call_ hb4 (below_alloc_ hbB'.out _)
          have hcall2 := hm'.out.call hbD C2 (by rw [hrd2'.out]) (by have := hCl2'.out; omega) (by have := hCl2'.out; have := hblK'.out; omega)
          have hb4' := Lib.hid hb4
          have hbD' := Lib.hid hbD
          have hcall2' := Lib.hid hcall2
          clear hcall2 hbD hb4
          go_wp2_with fail
          refine hcall2'.out.mono ?_
          rintro e w5 ⟨v5, rfl, hv5, hb5⟩
          rw [hrd2'.out] at hv5 ⊢
          obtain ⟨A5, c5, rfl⟩ := ents_form hv5
          have hw5 : Below w3.heap.size w3 w5 := below_call_ hb5 (below_call_ hb4'.out (below_alloc_ (Below.refl _ _) _))
          have hsame := lSame_any _ _ X _ _ w5 (hv3'.out.below hw5 (Nat.le_refl _)) (hx3'.out.below hw5 (Nat.le_refl _)) (by have := hXl'.out; omega)
          have hbE : Below w.heap.size w w5 := below_call_ hb5 hbD'.out
          have hpl : (placed 20 [eK]).length = 1 := rfl
          have hPP : ((P.length : Int) == (P.length : Int)) = true := by simp
          rw [hpl]
          have hv5' := Lib.hid hv5
          have hb5' := Lib.hid hb5
          have hw5' := Lib.hid hw5
          have hsame' := Lib.hid hsame
          have hbE' := Lib.hid hbE
          have hpl' := Lib.hid hpl
          clear hpl hbE hsame hw5 hb5 hv5
          go_wp2_with (go_at_call 10; refine hsame'.out.mono ?_; rintro e w6 ⟨rfl, hb6⟩)
          go_ret
          exact ⟨rfl, below_call_ hb6 hbE'.out⟩
end Go.Proofs.YtpndlcjilgcfkaaGreatDoor
