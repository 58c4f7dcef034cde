/-
  Transactions as an argument: laws.zzFits7 over it; plain laws on what stands of them in a log.
-/
import Derived.Test.YtpndlcjilgcfkaaGreatDoorEntsR
import Derived.Test.YtpndlcjilgcfkaaGreatDoorLogE
import Derived.Test.YtpndlcjilgcfkaaGreatDoorSpecRL
import Derived.Deep.RegionHeld3
import Derived.Deep.DeepCutAuto
import Derived.Deep.Slices
import Derived.ChangeSame
import Derived.WalkKit
import Derived.ProofKit
import Derived.OpenShut
import Derived.ShutString
import Derived.Test.YtpndlcjilgcfkaaGreatDoorLogR

namespace Go.Proofs.YtpndlcjilgcfkaaGreatDoor
open Go Go.RowKit
open Go.Proofs

theorem eBytes_le (e : LEnt) (hk : e.key.length ≤ 1000000) (hv : e.val.length ≤ 1000000) (hx : e.exp < 18446744073709551616) : (eBytes e).length ≤ 26 + e.key.length + e.val.length := by
  have h := entHead_length e.key e.val e.bits e.um e.exp (by omega) (by omega) hx
  rw [eBytes_length]
  have h2 : (eHead e).length = (entHead e.key e.val e.bits e.um e.exp).length := rfl
  omega
/-- An entry of a transaction, as it is written. -/
def txE (T : Nat) (e : LEnt) : LEnt := ⟨keyTs e.key T, e.val, e.bits % 64 + 64, e.um, e.exp, e.off, e.len⟩
def txB (t : Nat × List LEnt) : Nat × List LEnt := (t.1, t.2.map (txE t.1))
/-- What laws.lBatches asks of a transaction, and of all. -/
def okB (t : Nat × List LEnt) : Bool := decide (t.1 ≠ 0 ∧ 0 < t.2.length ∧ t.2.length ≤ 10) && small50 t.2
def okBs (ts : List (Nat × List LEnt)) : Bool := decide (ts.length ≤ 10) && ts.all okB
def fit7 (ts : List (Nat × List LEnt)) : Bool := decide (ts.length ≤ 2147483647) && ts.all fun t => fit6 t.2
def wfE (e : LEnt) : Prop := e.bits < 256 ∧ e.um < 256 ∧ e.exp < 18446744073709551616
def wfT (t : Nat × List LEnt) : Prop := t.1 < 18446744073709551616 ∧ ∀ e, e ∈ t.2 → wfE e

theorem batsBytes_append : ∀ (a b : List (Nat × List LEnt)), batsBytes (a ++ b) = batsBytes a ++ batsBytes b := by
  intro a
  induction a with
  | nil => intro b; rfl
  | cons t a ih => intro b; simp [batsBytes, ih]
theorem batsAt_append : ∀ (a b : List (Nat × List LEnt)) (o : Nat), batsAt o (a ++ b) = batsAt o a ++ batsAt (o + (batsBytes a).length) b := by
  intro a
  induction a with
  | nil => intro b o; simp [batsAt, batsBytes]
  | cons t a ih => intro b o; simp [batsAt, batsBytes, ih, Nat.add_assoc]
theorem batsAt_length : ∀ (a : List (Nat × List LEnt)) (o : Nat), (batsAt o a).length = a.length := by
  intro a
  induction a with
  | nil => intro o; rfl
  | cons t a ih => intro o; simp [batsAt, ih]
theorem batsBytes_take {ts : List (Nat × List LEnt)} {j : Nat} (hj : j < ts.length) : batsBytes (ts.take (j + 1)) = batsBytes (ts.take j) ++ batBytes ts[j] := by
  rw [List.take_succ_eq_append_getElem hj, batsBytes_append]
  simp [batsBytes]
theorem batsAt_take {ts : List (Nat × List LEnt)} {j : Nat} (hj : j < ts.length) : batsAt 20 (ts.take (j + 1)) = batsAt 20 (ts.take j) ++ [(20 + (batsBytes (ts.take j)).length + (batBytes ts[j]).length, placed (20 + (batsBytes (ts.take j)).length) ts[j].2)] := by
  rw [List.take_succ_eq_append_getElem hj, batsAt_append]
  simp [batsAt]

theorem txE_ok {T : Nat} (hT : T < 18446744073709551616) {e : LEnt} (hs : small1 e = true) (hw : wfE e) : EOk (txE T e) ∧ (txE T e).bits / 64 % 2 = 1 ∧ tsOf (txE T e).key = T := by
  have h := hs
  unfold small1 at h
  rw [decide_eq_true_eq] at h
  obtain ⟨h1, h2, h3⟩ := h
  obtain ⟨w1, w2, w3⟩ := hw
  have hne : e.key ≠ [] := fun h => by rw [h] at h1; simp at h1
  have hl : (txE T e).key.length = e.key.length + 8 := keyTs_length _ _
  refine ⟨⟨fun h => ?_, by omega, ?_, ?_, w2, w3⟩, ?_, tsOf_keyTs _ _ hT hne⟩
  · rw [h] at hl; simp at hl
  · show e.val.length ≤ _; omega
  · show e.bits % 64 + 64 < 256; omega
  · show (e.bits % 64 + 64) / 64 % 2 = 1; omega
theorem okB_parts {t : Nat × List LEnt} (h : okB t = true) : t.1 ≠ 0 ∧ 0 < t.2.length ∧ t.2.length ≤ 10 ∧ small50 t.2 = true := by
  unfold okB at h
  rw [Bool.and_eq_true, decide_eq_true_eq] at h
  exact ⟨h.1.1, h.1.2.1, h.1.2.2, h.2⟩
theorem small50_mem {l : List LEnt} (h : small50 l = true) {e : LEnt} (he : e ∈ l) : small1 e = true := by
  unfold small50 at h
  rw [Bool.and_eq_true, List.all_eq_true] at h
  exact h.1 e he
theorem txB_ok {t : Nat × List LEnt} (h : okB t = true) (hw : wfT t) : BOk (txB t) := by
  obtain ⟨h1, h2, _, h4⟩ := okB_parts h
  refine ⟨h1, hw.1, fun hn => ?_, fun e he => ?_⟩
  · have := congrArg List.length hn
    simp [txB] at this
    rw [this] at h2
    simp at h2
  · obtain ⟨x, hx, rfl⟩ := List.mem_map.1 he
    exact txE_ok hw.1 (small50_mem h4 hx) (hw.2 x hx)
theorem txBs_ok {ts : List (Nat × List LEnt)} (h : ∀ t, t ∈ ts → okB t = true) (hw : ∀ t, t ∈ ts → wfT t) : ∀ t, t ∈ ts.map txB → BOk t := by
  intro t ht
  obtain ⟨x, hx, rfl⟩ := List.mem_map.1 ht
  exact txB_ok (h x hx) (hw x hx)

theorem txE_le {T : Nat} {e : LEnt} (hs : small1 e = true) (hw : wfE e) : (eBytes (txE T e)).length ≤ 734 := by
  have h := hs
  unfold small1 at h
  rw [decide_eq_true_eq] at h
  obtain ⟨h1, h2, h3⟩ := h
  have hl : (txE T e).key.length = e.key.length + 8 := keyTs_length _ _
  have hv : (txE T e).val.length = e.val.length := rfl
  have := eBytes_le (txE T e) (by omega) (by omega) hw.2.2
  omega
theorem bytesL_tx {T : Nat} : ∀ (l : List LEnt), (∀ e, e ∈ l → small1 e = true ∧ wfE e) → (bytesL (l.map (txE T))).length ≤ 734 * l.length := by
  intro l
  induction l with
  | nil => intro _; simp [bytesL]
  | cons e l ih =>
    intro h
    have h1 := ih fun x hx => h x (List.mem_cons_of_mem _ hx)
    obtain ⟨k1, k2⟩ := h e List.mem_cons_self
    have h2 := txE_le (T := T) k1 k2
    simp only [List.map_cons, bytesL, List.length_append, List.length_cons]
    omega
theorem endE_le (T : Nat) (h : T < 18446744073709551616) : (eBytes (endE T)).length ≤ 65 := by
  have h1 := dec_len T h
  have hk : (endE T).key.length = 19 := by show (keyTs txnKey T).length = _; rw [keyTs_length]; rfl
  have hv : (endE T).val.length ≤ 20 := h1
  have := eBytes_le (endE T) (by omega) (by omega) (by show (0 : Nat) < _; omega)
  omega
theorem txB_le {t : Nat × List LEnt} (h : okB t = true) (hw : wfT t) : (batBytes (txB t)).length ≤ 7405 := by
  obtain ⟨_, _, h3, h4⟩ := okB_parts h
  have h5 := bytesL_tx (T := t.1) t.2 fun e he => ⟨small50_mem h4 he, hw.2 e he⟩
  have h6 := endE_le t.1 hw.1
  unfold batBytes
  rw [List.length_append]
  show (bytesL (t.2.map (txE t.1))).length + (eBytes (endE t.1)).length ≤ _
  omega
theorem txBs_le : ∀ (ts : List (Nat × List LEnt)), (∀ t, t ∈ ts → okB t = true) → (∀ t, t ∈ ts → wfT t) → (batsBytes (ts.map txB)).length ≤ 7405 * ts.length := by
  intro ts
  induction ts with
  | nil => intro _ _; simp [batsBytes]
  | cons t r ih =>
    intro h hw
    have h1 := ih (fun x hx => h x (List.mem_cons_of_mem _ hx)) (fun x hx => hw x (List.mem_cons_of_mem _ hx))
    have h2 := txB_le (h t List.mem_cons_self) (hw t List.mem_cons_self)
    simp only [List.map_cons, batsBytes, List.length_append, List.length_cons]
    omega
theorem batsAt_ne {ts : List (Nat × List LEnt)} (h : ∀ t, t ∈ ts → t.2 ≠ []) : ∀ (o : Nat) (t : Nat × List LEnt), t ∈ batsAt o ts → t.2 ≠ [] := by
  induction ts with
  | nil => intro o t ht; cases ht
  | cons x r ih =>
    intro o t ht
    simp only [batsAt, List.mem_cons] at ht
    rcases ht with rfl | ht
    · intro hn
      have h1 := placed_length x.2 o
      rw [show placed o x.2 = [] from hn] at h1
      exact h x List.mem_cons_self (List.eq_nil_of_length_eq_zero h1.symm)
    · exact ih (fun y hy => h y (List.mem_cons_of_mem _ hy)) _ t ht

theorem wholeAt_append (a : Nat) : ∀ (l r : List (Nat × List LEnt)), wholeAt a (l ++ r) = wholeAt a l ++ wholeAt a r := by
  intro l
  induction l with
  | nil => intro r; rfl
  | cons t l ih =>
    intro r
    simp only [List.cons_append, wholeAt, ih]
    split <;> simp
theorem wholeAt_take (a : Nat) {l : List (Nat × List LEnt)} {j : Nat} (hj : j < l.length) : wholeAt a (l.take (j + 1)) = wholeAt a (l.take j) ++ if l[j].1 ≤ a then l[j].2 else [] := by
  rw [List.take_succ_eq_append_getElem hj, wholeAt_append]
  simp only [wholeAt, List.append_nil]

/-- Transactions that are read. -/
structure BatsR (w : World) (v : Value) (ts : List (Nat × List LEnt)) : Prop where
  form : ∃ A c, v = .slice A ts.length c
  at_ : ∀ j (hj : j < ts.length), ∃ b o c u, v = .slice (some ⟨b, o, none⟩) ts.length c ∧ b < w.heap.size ∧ w.cell? ⟨b, o + j * 2, none⟩ = some (.int .u64 (ts[j].1 : Int)) ∧ w.cell? ⟨b, o + j * 2 + 1, none⟩ = some u ∧ EntsR w u ts[j].2
  wf : ∀ t, t ∈ ts → wfT t
  ln : ∀ t, t ∈ ts → t.2.length ≤ 9223372036854775807
theorem BatsR.below {w w' : World} {v : Value} {ts : List (Nat × List LEnt)} (h : BatsR w v ts) (hb : Below w.heap.size w w') : BatsR w' v ts := by
  refine ⟨h.form, fun j hj => ?_, h.wf, h.ln⟩
  obtain ⟨b, o, c, u, e, hlt, c0, c1, hu⟩ := h.at_ j hj
  have hc : ∀ i, w'.cell? ⟨b, i, none⟩ = w.cell? ⟨b, i, none⟩ := fun i => hb.cell (p := ⟨b, i, none⟩) hlt
  exact ⟨b, o, c, u, e, Nat.lt_of_lt_of_le hlt hb.size, (hc _).trans c0, (hc _).trans c1, hu.below hb⟩

/-- Numbers in a slice of the call's own. -/
def intCs (l : List Nat) : List Value := l.map fun (n : Nat) => .int .i64 (n : Int)
theorem intCs_len (l : List Nat) : (intCs l).length = l.length := by simp [intCs]
theorem intCs_one (l : List Nat) : ∀ u ∈ intCs l, u.oneCell' = true := by
  intro u hu
  obtain ⟨b, _, rfl⟩ := List.mem_map.1 hu
  rfl
theorem intCs_snoc (l : List Nat) (n : Nat) : intCs (l ++ [n]) = intCs l ++ [.int .i64 (n : Int)] := by simp [intCs]
def IntsO (B : Nat) (w : World) (v : Value) (l : List Nat) : Prop := w.ownsRow B 3 1 v l.length (intCs l)
/-- Slices of entries in a slice of the call's own. -/
structure EntsV (B : Nat) (w : World) (v : Value) (us : List Value) (ls : List (List LEnt)) : Prop where
  len : us.length = ls.length
  row : w.ownsRow B 23 1 v ls.length us
  each : ∀ j (hj : j < ls.length) u, us[j]? = some u → Ents B w u ls[j]

theorem own_formN {B e s n : Nat} {w : World} {v : Value} {xs : List Value} (h : w.ownsRow B e s v n xs) : ∃ A c, v = .slice A n c := by
  rcases h.2 with ⟨rfl, h1⟩ | ⟨g, cap, cur, rfl, _⟩
  · exact ⟨_, _, by rw [h1]⟩
  · exact ⟨_, _, rfl⟩
theorem own_bk {B e s n : Nat} {w : World} {v : Value} {xs : List Value} (h : w.ownsRow B e s v n xs) {g : Nat} (hg : v.ownBlock = some g) : ∃ cs, Bk w g e cs := by
  rcases h.2 with ⟨rfl, _⟩ | ⟨g', cap, cur, rfl, _, hh, _⟩
  · cases hg
  · obtain rfl : g' = g := by simpa [Value.ownBlock] using hg
    exact ⟨cur, hh⟩
theorem own2_apart {B B' e e' s s' n n' : Nat} {w : World} {v v' : Value} {xs xs' : List Value} (h : w.ownsRow B e s v n xs) (h' : w.ownsRow B' e' s' v' n' xs') (hne : e ≠ e') : ∀ g, v.ownBlock = some g → g ∉ v'.ownBlock.toList := by
  intro g hg hm
  obtain ⟨cs, hb⟩ := own_bk h' (g := g) (by simpa using hm)
  exact own_apart h hb hne hg
theorem own_cell1 {B e n : Nat} {w : World} {v : Value} {xs : List Value} (h : w.ownsRow B e 1 v n xs) {j : Nat} {u : Value} (hj : xs[j]? = some u) : ∃ g c, v = .slice (some ⟨g, 0, none⟩) n c ∧ g < w.heap.size ∧ B ≤ g ∧ w.cell? ⟨g, j, none⟩ = some u := by
  have h' := h
  rcases h.2 with ⟨_, h1⟩ | ⟨g, cap, cur, rfl, _, hh, _⟩
  · have := h.1
    have hjl := (List.getElem?_eq_some_iff.1 hj).1
    subst h1
    omega
  · have h2 := h'.cells (g := g) rfl j u hj
    rw [Addr.add_lit, Nat.zero_add] at h2
    exact ⟨g, cap, rfl, lt_of_block hh, by have := World.ownsRow.lt h' g rfl; exact this.1, h2⟩

section
variable {B : Nat} {w w' : World} {v v' : Value} {us : List Value} {ls : List (List LEnt)} {l : List Nat}
theorem IntsO.ch {S : List Nat} (h : IntsO B w v l) (hc : Ch S w w') (hS : ∀ g, v.ownBlock = some g → g ∉ S) : IntsO B w' v l := own_ch h hc hS
theorem IntsO.below {N : Nat} (h : IntsO B w v l) (hb : Below N w w') (hN : w.heap.size ≤ N) : IntsO B w' v l := own_ch h (S := []) (Ch.of_below (hb.mono hN)) (fun _ _ => by simp)
theorem EntsV.nil (B : Nat) (w : World) : EntsV B w (.slice none 0 0) [] [] := ⟨rfl, World.ownsRow_nil w B _ _, fun j hj => by simp at hj⟩
theorem EntsV.ch {S : List Nat} (h : EntsV B w v us ls) (hc : Ch S w w') (hS : ∀ g, v.ownBlock = some g → g ∉ S) (hU : ∀ j, j < ls.length → ∀ u, us[j]? = some u → ∀ g, u.ownBlock = some g → g ∉ S) : EntsV B w' v us ls :=
  ⟨h.len, own_ch h.row hc hS, fun j hj u hu => (h.each j hj u hu).ch hc (hU j hj u hu)⟩
theorem EntsV.below {N : Nat} (h : EntsV B w v us ls) (hb : Below N w w') (hN : w.heap.size ≤ N) : EntsV B w' v us ls :=
  h.ch (S := []) (Ch.of_below (hb.mono hN)) (fun _ _ => by simp) (fun _ _ _ _ _ _ => by simp)
/-- A writing into a row of another kind. -/
theorem EntsV.other {B' e s n : Nat} {xs : List Value} (h : EntsV B w v us ls) (h' : w.ownsRow B' e s v' n xs) (hc : Ch v'.ownBlock.toList w w') (h1 : 23 ≠ e) (h2 : 30 ≠ e) : EntsV B w' v us ls :=
  h.ch hc (own2_apart h.row h' h1) (fun j hj u hu => own2_apart (h.each j hj u hu) h' h2)
/-- One more. -/
theorem EntsV.push {u : Value} {es : List LEnt} (h : EntsV B w v us ls) (hu : Ents B w u es) (hrow : w'.ownsRow B 23 1 v' (ls.length + 1) (us ++ [u])) (hc : Ch v.ownBlock.toList w w') : EntsV B w' v' (us ++ [u]) (ls ++ [es]) := by
  refine ⟨by simp [h.len], by simpa using hrow, fun j hj x hx => ?_⟩
  by_cases hlt : j < ls.length
  · rw [List.getElem_append_left hlt]
    have hx' : us[j]? = some x := by rwa [List.getElem?_append_left (by rw [h.len]; exact hlt)] at hx
    exact (h.each j hlt x hx').ch hc (own2_apart (h.each j hlt x hx') h.row (by decide))
  · have hj2 : j = ls.length := by simp at hj; omega
    subst hj2
    have hx' : x = u := by
      rw [List.getElem?_append_right (by rw [h.len]; omega), h.len, Nat.sub_self] at hx
      simpa using hx.symm
    subst hx'
    simp only [List.getElem_append_right (Nat.le_refl _), Nat.sub_self, List.getElem_cons_zero]
    exact hu.ch hc (own2_apart hu h.row (by decide))
end
theorem Ents.take {B : Nat} {w : World} {A : Option Addr} {n c : Nat} {l : List LEnt} (h : Ents B w (.slice A n c) l) (k : Nat) (hk : k ≤ l.length) : Ents B w (.slice A k c) (l.take k) := by
  have hl : (l.take k).length = k := by rw [List.length_take]; omega
  have hcs : entCs (l.take k) = (entCs l).take (k * 7) := by
    have h1 := entCs_append (l.take k) (l.drop k)
    rw [List.take_append_drop] at h1
    have h2 : (entCs (l.take k)).length = k * 7 := by rw [entCs_length, hl]
    rw [h1, ← h2, List.take_left]
  refine ⟨by rw [entCs_length], ?_⟩
  rw [hl]
  rcases h.2 with ⟨h1, h2⟩ | ⟨g, cap, cur, h1, h2, h3, h4, h5, h6, h7⟩
  · left
    injection h1 with e1 e2 e3
    exact ⟨by rw [e1, e3, show k = 0 by omega], by omega⟩
  · right
    injection h1 with e1 e2 e3
    refine ⟨g, cap, cur, by rw [e1, e3], h2, h3, by omega, h5, h6, ?_⟩
    rw [hcs, ← h7, List.take_take, Nat.min_eq_left (Nat.mul_le_mul_right 7 hk)]
end Go.Proofs.YtpndlcjilgcfkaaGreatDoor

namespace Go.Proofs.YtpndlcjilgcfkaaGreatDoor
open Go Go.RowKit
open Go.Proofs

set_option maxHeartbeats 4000000 in
theorem zzFits8_any (T : Nat) (u : Value) (l : List LEnt) (w : World) (hu : EntsR w u l) (hl : l.length ≤ 9223372036854775807) :
    Calls Tryz.prog 30 #[.agg #[.int .u64 (T : Int), u]] w fun e w' => e = .returned (.bool (fit6 l)) ∧ Below w.heap.size w w' := by
  have hcall := fun W (hb : Below w.heap.size w W) => zzFits6_any l u W (hu.below hb) hl
  have hcall' := Lib.hid hcall
  clear hcall
  cases hP : fit6 l with
  | false =>
    rw [hP] at hcall'
    go_enter Tryz.func30, Tryz.ntmps30
    go_wp2_with fail
    refine (hcall'.out _ (below_alloc_ (Below.refl _ w) _)).mono ?_
    rintro e w2 ⟨rfl, hb2⟩
    go_wp2_with fail
    go_ret
    exact ⟨rfl, below_call_ hb2 (below_alloc_ (Below.refl _ w) _)⟩
  | true =>
    rw [hP] at hcall'
    go_enter Tryz.func30, Tryz.ntmps30
    go_wp2_with fail
    refine (hcall'.out _ (below_alloc_ (Below.refl _ w) _)).mono ?_
    rintro e w2 ⟨rfl, hb2⟩
    go_wp2_with fail
    go_ret
    exact ⟨rfl, below_call_ hb2 (below_alloc_ (Below.refl _ w) _)⟩

set_option maxHeartbeats 4000000 in
set_option maxRecDepth 20000 in
theorem zzFits7_any (ts : List (Nat × List LEnt)) (v : Value) (w : World) (hv : BatsR w v ts) (hl : ts.length ≤ 9223372036854775807) :
    Calls Tryz.prog 14 #[v] w fun e w' => e = .returned (.bool (fit7 ts)) ∧ Below w.heap.size w w' := by
  obtain ⟨A, c, rfl⟩ := hv.form
  obtain ⟨n, hn⟩ : ∃ n, ts.length = n := ⟨_, rfl⟩
  rw [hn] at hv hl
  rw [hn]
  by_cases h0 : 2147483647 < n
  · have hr : fit7 ts = false := by unfold fit7; rw [hn, decide_eq_false (by omega)]; rfl
    have h0I : 2147483647 < (n : Int) := by omega
    rw [hr]
    have hv' := Lib.hid hv
    have hn' := Lib.hid hn
    have hr' := Lib.hid hr
    clear hr hn hv
    go_enter Tryz.func14, Tryz.ntmps14
    go_wp2_with fail
    go_ret
    exact ⟨rfl, Below.refl _ _⟩
  · have h0I : ¬ 2147483647 < (n : Int) := by omega
    have hf7 : fit7 ts = ts.all fun t => fit6 t.2 := by unfold fit7; rw [hn, decide_eq_true (by omega)]; simp
    rw [hf7]
    have hv' := Lib.hid hv
    have hn' := Lib.hid hn
    have hf7' := Lib.hid hf7
    clear hf7 hn hv
    go_enter Tryz.func14, Tryz.ntmps14
    go_wp2_with fail
    go_loopw [10] (fun s10 wx => ∃ j : Nat, j ≤ n ∧ s10 = .int .i64 (j : Int) ∧ ((ts.take j).all fun t => fit6 t.2) = true ∧ Below w.heap.size w wx) (fun s10 _ => n - (intOf s10).toNat)
    case atStart => exact ⟨0, Nat.zero_le _, rfl, rfl, Below.refl _ _⟩
    case round =>
      obtain ⟨j, hj, rfl, hall, hbw⟩ := hrel
      by_cases hlt : j < n
      · have hltI : (j : Int) < (n : Int) := by omega
        have hjl : j < ts.length := by have := hn'.out; omega
        obtain ⟨g, o, c2, u, he, hg, c0, c1, hu⟩ := (hv'.out.below hbw).at_ j hjl
        have hA : A = some ⟨g, o, none⟩ := by injection he
        clear he
        subst hA
        have hln := hv'.out.ln ts[j] (List.getElem_mem hjl)
        obtain ⟨E, hE⟩ : ∃ E, ts[j] = E := ⟨_, rfl⟩
        rw [hE] at c0 hu hln
        obtain ⟨T, l⟩ := E
        simp only at c0 hu hln
        obtain ⟨Au, cu, rfl⟩ := hu.form
        have hcall := fun W (hb : Below wr.heap.size wr W) => zzFits8_any T _ l W (hu.below hb) hln
        obtain ⟨m, hm⟩ : ∃ m, l.length = m := ⟨_, rfl⟩
        rw [hm] at c1 hu hln
        simp only [hm] at hcall
        obtain ⟨P, hP⟩ : ∃ P, fit6 l = P := ⟨_, rfl⟩
        rw [hP] at hcall
        have hPf : (fun t : Nat × List LEnt => fit6 t.2) ts[j] = P := by rw [hE]; exact hP
        have hbw' := Lib.hid hbw
        have hE' := Lib.hid hE
        have hall' := Lib.hid hall
        have hP' := Lib.hid hP
        have hPf' := Lib.hid hPf
        have hcall' := Lib.hid hcall
        have hu' := Lib.hid hu
        have hm' := Lib.hid hm
        clear hm hu hcall hPf hP hall hE hbw
        go_wp2_with fail
        refine (hcall'.out _ (below_alloc_ (Below.refl _ wr) _)).mono ?_
        rintro e w2 ⟨rfl, hb2⟩
        have hb3 := below_call_ hb2 (below_alloc_ hbw'.out _)
        have hb2' := Lib.hid hb2
        have hb3' := Lib.hid hb3
        clear hb3 hb2
        cases P with
        | false =>
          have hr := all_not (p := fun t : Nat × List LEnt => fit6 t.2) hjl hPf'.out
          have hr' := Lib.hid hr
          clear hr
          go_wp2_with fail
          go_ret
          exact ⟨congrArg (fun b => Ending.returned (.bool b)) hr'.out.symm, hb3'.out⟩
        | true =>
          go_wp2_with fail
          go_roundw
          case rel => exact ⟨j + 1, by omega, by go_num, take_all (p := fun t : Nat × List LEnt => fit6 t.2) hjl hall'.out hPf'.out, hb3'.out⟩
          case measure => simp [intOf]; omega
      · obtain rfl : j = n := by omega
        have hT : ts.take j = ts := List.take_of_length_le (by have := hn'.out; omega)
        rw [hT] at hall
        have hbw' := Lib.hid hbw
        have hT' := Lib.hid hT
        have hall' := Lib.hid hall
        clear hall hT hbw
        go_wp2_with fail
        go_ret
        exact ⟨congrArg (fun b => Ending.returned (.bool b)) hall'.out.symm, hbw'.out⟩

theorem be8_cells (n : Nat) (hn : n < 18446744073709551616) : Lib.byteCells (Lib.beBytes 8 n) = [Value.int .u8 ((n : Int) / 72057594037927936), Value.int .u8 ((n : Int) / 281474976710656 % 256), Value.int .u8 ((n : Int) / 1099511627776 % 256), Value.int .u8 ((n : Int) / 4294967296 % 256), Value.int .u8 ((n : Int) / 16777216 % 256), Value.int .u8 ((n : Int) / 65536 % 256), Value.int .u8 ((n : Int) / 256 % 256), Value.int .u8 ((n : Int) % 256)] := by
  have e0 : ((n % 256 : Nat) : Int) = (n : Int) % 256 := by omega
  have e1 : ((n / 256 % 256 : Nat) : Int) = (n : Int) / 256 % 256 := by omega
  have e2 : ((n / 256 / 256 % 256 : Nat) : Int) = (n : Int) / 65536 % 256 := by omega
  have e3 : ((n / 256 / 256 / 256 % 256 : Nat) : Int) = (n : Int) / 16777216 % 256 := by omega
  have e4 : ((n / 256 / 256 / 256 / 256 % 256 : Nat) : Int) = (n : Int) / 4294967296 % 256 := by omega
  have e5 : ((n / 256 / 256 / 256 / 256 / 256 % 256 : Nat) : Int) = (n : Int) / 1099511627776 % 256 := by omega
  have e6 : ((n / 256 / 256 / 256 / 256 / 256 / 256 % 256 : Nat) : Int) = (n : Int) / 281474976710656 % 256 := by omega
  have e7 : ((n / 256 / 256 / 256 / 256 / 256 / 256 / 256 % 256 : Nat) : Int) = (n : Int) / 72057594037927936 := by omega
  simp only [Lib.byteCells, Lib.beBytes, Lib.leBytes, List.reverse_cons, List.reverse_nil, List.nil_append, List.cons_append, List.map_cons, List.map_nil, Lib.toUInt8_mod, e0, e1, e2, e3, e4, e5, e6, e7]

set_option maxHeartbeats 1000000 in
theorem specBig8_any (n : Nat) (hn : n < 18446744073709551616) (w : World) :
    Calls Tryz.prog 43 #[.int .u64 (n : Int)] w fun e w' => e = .returned (.string ⟨(Lib.beBytes 8 n).toArray⟩) ∧ Below w.heap.size w w' := by
  have hmk : ∀ W : World, (Instr.makeSlice 22 (.int .i64 8) (.int .i64 8)).run Tryz.prog W = .ok (.slice (some ⟨W.heap.size, 0, none⟩) 8 8) (W.alloc (.cells #[.int .u8 0, .int .u8 0, .int .u8 0, .int .u8 0, .int .u8 0, .int .u8 0, .int .u8 0, .int .u8 0] 5)) := fun _ => by kernel_rfl
  go_enter Tryz.func43, Tryz.ntmps43
  go_wp2_with fail
  refine wp_loop_rounds 9 ?_
  iterate 8 (rw [rounds_succ]; go_wp2_with fail)
  rw [rounds_succ]
  have hc := Lib.hid (be8_cells n hn)
  go_wp2_with (refine wpList_b2s rfl 22 9 5 _ rfl Tryz.underlying22 Tryz.underlying5 Tryz.underlying9 w.heap.size 0 8 8 rfl (Lib.beBytes 8 n) (Lib.beBytes_length 8 n) ?hc ?_)
  case hc =>
    apply bs_of_bk
    rw [hc.out]
    exact Bk.at_ _ _ _ _ rfl
  go_ret
  exact ⟨rfl, (Below.refl _ _).alloc (Nat.le_refl _) _⟩

theorem str_app (s : ByteArray) (l : List UInt8) : s ++ ByteArray.mk l.toArray = ByteArray.mk (s.data.toList ++ l).toArray := by
  apply ByteArray.ext
  simp [ByteArray.data_append]

set_option maxHeartbeats 1000000 in
theorem specKeyTs_any (s : ByteArray) (ts : Nat) (w : World) (hn : s.size ≤ 4294967296) (hts : ts < 18446744073709551616) :
    Calls Tryz.prog 31 #[.string s, .int .u64 (ts : Int)] w fun e w' => e = .returned (.string ⟨(keyTs s.data.toList ts).toArray⟩) ∧ Below w.heap.size w w' := by
  have hsg : IntKind.u64.signed = false := rfl
  have hx := u64_not ts hts
  have hl8 := Lib.beBytes_length 8 (18446744073709551615 - ts)
  go_enter Tryz.func31, Tryz.ntmps31
  go_wp2_with fail
  refine (specBig8_any _ (by omega) _).mono ?_
  rintro e w1 ⟨rfl, hb1⟩
  go_wp2_with fail
  go_ret
  refine ⟨?_, hb1⟩
  rw [str_app]
  rfl
theorem specKeyTsL_any (k : List UInt8) (ts : Nat) (w : World) (hn : k.length ≤ 4294967296) (hts : ts < 18446744073709551616) :
    Calls Tryz.prog 31 #[.string ⟨k.toArray⟩, .int .u64 (ts : Int)] w fun e w' => e = .returned (.string ⟨(keyTs k ts).toArray⟩) ∧ Below w.heap.size w w' :=
  specKeyTs_any ⟨k.toArray⟩ ts w (by simp [ByteArray.size]; omega) hts

theorem txBits_ : ∀ a : Fin 32, ∀ b : Fin 8, ((a.val * 8 + b.val) &&& 127) ||| 64 = (a.val * 8 + b.val) % 64 + 64 := by decide +kernel
theorem txBits (m : Nat) (h : m < 256) : bits .or .u8 (bits .andNot .u8 (m : Int) 128) 64 = ((m % 64 + 64 : Nat) : Int) := by
  have h1 := u8_andNot_nat m 128 h (by omega)
  have h2 := txBits_ ⟨m / 8, by omega⟩ ⟨m % 8, by omega⟩
  have h4 := u8_or_nat (m &&& 127) 64 (Nat.lt_of_le_of_lt Nat.and_le_left h) (by omega)
  rw [show m / 8 * 8 + m % 8 = m by omega] at h2
  rw [← h2]
  rw [show ((128 : Nat) : Int) = 128 from rfl, show 255 - 128 = 127 from rfl] at h1
  rw [h1]
  exact h4
end Go.Proofs.YtpndlcjilgcfkaaGreatDoor

namespace Go.Proofs.YtpndlcjilgcfkaaGreatDoor
open Go Go.RowKit
open Go.Proofs

theorem own_below {N B e s n : Nat} {w w' : World} {v : Value} {xs : List Value} (h : w.ownsRow B e s v n xs) (hb : Below N w w') (hN : w.heap.size ≤ N) : w'.ownsRow B e s v n xs := own_ch h (S := []) (Ch.of_below (hb.mono hN)) (fun _ _ => by simp)
/-- What laws.lBatches answers. -/
def LBPost (ts : List (Nat × List LEnt)) (w : World) (e : Ending) (w' : World) : Prop :=
  Below w.heap.size w w' ∧ ((okBs ts = false ∧ e = .returned (.tuple #[.string ⟨#[]⟩, .slice none 0 0, .slice none 0 0, .bool false])) ∨
    (okBs ts = true ∧ ∃ ve va us, e = .returned (.tuple #[.string ⟨(zeros20 ++ batsBytes (ts.map txB)).toArray⟩, ve, va, .bool true]) ∧
      IntsO w.heap.size w' ve ((batsAt 20 (ts.map txB)).map Prod.fst) ∧ EntsV w.heap.size w' va us ((batsAt 20 (ts.map txB)).map Prod.snd)))

theorem okBs_not {ts : List (Nat × List LEnt)} {j : Nat} (hj : j < ts.length) (h : okB ts[j] = false) : okBs ts = false := by
  unfold okBs
  rw [all_not hj h, Bool.and_false]
theorem forall_takeB {p : (Nat × List LEnt) → Prop} {l : List (Nat × List LEnt)} {j : Nat} (hj : j < l.length) (h : ∀ e, e ∈ l.take j → p e) (h1 : p l[j]) : ∀ e, e ∈ l.take (j + 1) → p e := by
  rw [List.take_succ_eq_append_getElem hj]
  intro e he
  rcases List.mem_append.1 he with h2 | h2
  · exact h e h2
  · simp at h2
    subst h2
    exact h1
theorem map_takeB {ts : List (Nat × List LEnt)} {TS : List (Nat × List LEnt)} (h : ts.map txB = TS) {j : Nat} (hj : j < ts.length) : ∃ hj' : j < TS.length, TS[j] = txB ts[j] := by
  subst h
  exact ⟨by simpa using hj, by simp⟩
theorem placed_take' {o : Nat} {l : List LEnt} {j : Nat} (hj : j < l.length) : placed o (l.take (j + 1)) = placed o (l.take j) ++ [put (o + (bytesL (l.take j)).length) l[j]] := by
  rw [List.take_succ_eq_append_getElem hj, placed_append]
  rfl
theorem map_takeE {T : Nat} {l L : List LEnt} (h : l.map (txE T) = L) {j : Nat} (hj : j < l.length) : ∃ hj' : j < L.length, L[j] = txE T l[j] := by
  subst h
  exact ⟨by simpa using hj, by simp⟩
theorem bats_take_le {ts : List (Nat × List LEnt)} {TS : List (Nat × List LEnt)} (h : ts.map txB = TS) {j : Nat} (hok : ∀ t, t ∈ ts.take j → okB t = true) (hw : ∀ t, t ∈ ts → wfT t) (hl : ts.length ≤ 10) : (batsBytes (TS.take j)).length ≤ 74050 := by
  subst h
  have h1 := txBs_le (ts.take j) hok (fun t ht => hw t (List.mem_of_mem_take ht))
  rw [← List.map_take]
  have h2 : (ts.take j).length ≤ 10 := by rw [List.length_take]; omega
  omega
theorem mkapp {P Q : List UInt8} : ByteArray.mk P.toArray ++ ByteArray.mk Q.toArray = ⟨(P ++ Q).toArray⟩ := ByteArray.mk_append_mk _ _

theorem lb_none {ts : List (Nat × List LEnt)} {w w' : World} (h : okBs ts = false) (hb : Below w.heap.size w w') : LBPost ts w (.returned (.tuple #[.string ⟨#[]⟩, .slice none 0 0, .slice none 0 0, .bool false])) w' := ⟨hb, .inl ⟨h, rfl⟩⟩


set_option maxHeartbeats 16000000 in
set_option maxRecDepth 100000 in
theorem lBatches_any (ts : List (Nat × List LEnt)) (v : Value) (w : World) (hv : BatsR w v ts) (hl : ts.length ≤ 9223372036854775807) :
    Calls Tryz.prog 15 #[v] w (LBPost ts w) := by
  obtain ⟨A, c, rfl⟩ := hv.form
  obtain ⟨n, hn⟩ : ∃ n, ts.length = n := ⟨_, rfl⟩
  rw [hn] at hv hl
  rw [hn]
  by_cases h10 : 10 < n
  · have hr : okBs ts = false := by unfold okBs; rw [hn, decide_eq_false (by omega)]; rfl
    have h10I : 10 < (n : Int) := by omega
    have hv' := Lib.hid hv
    have hn' := Lib.hid hn
    have hr' := Lib.hid hr
    clear hr hn hv
    go_enter Tryz.func15, Tryz.ntmps15
    go_wp2_with fail
    refine bodyPost_ret (res_tmp4 rfl _ _ _) rfl ?_
    exact lb_none hr'.out (Below.refl _ _)
  have h10I : ¬ 10 < (n : Int) := by omega
  have hmk := run_mkB2 .i64 .i64 20 20 rfl (by omega)
  obtain ⟨Z, hZ⟩ : ∃ Z, List.replicate 20 (Value.int .u8 0) = Z := ⟨_, rfl⟩
  rw [hZ] at hmk
  obtain ⟨TS, hTS⟩ : ∃ TS, ts.map txB = TS := ⟨_, rfl⟩
  have hv' := Lib.hid hv
  have hn' := Lib.hid hn
  have hZ' := Lib.hid hZ
  have hTS' := Lib.hid hTS
  clear hTS hZ hn hv
  go_enter Tryz.func15, Tryz.ntmps15
  go_wp2_with (refine wpList_b2s rfl 22 9 5 (.tmp 15) rfl Tryz.underlying22 Tryz.underlying5 Tryz.underlying9 w.heap.size 0 20 20 rfl zeros20 rfl (bs_zeros (by rw [hZ'.out]; exact Bk.at_ _ _ _ _ rfl)) ?_)
  clear hmk
  go_loopw [2, 3, 4, 19] (fun s2 s3 s4 s19 wx => ∃ (j : Nat) (us : List Value), j ≤ n ∧ s19 = .int .i64 (j : Int) ∧ s2 = .string ⟨(zeros20 ++ batsBytes (TS.take j)).toArray⟩ ∧ IntsO w.heap.size wx s3 ((batsAt 20 (TS.take j)).map Prod.fst) ∧ EntsV w.heap.size wx s4 us ((batsAt 20 (TS.take j)).map Prod.snd) ∧ (∀ t, t ∈ ts.take j → okB t = true) ∧ Below w.heap.size w wx) (fun _ _ _ s19 _ => n - (intOf s19).toNat)
  case atStart => exact ⟨0, [], Nat.zero_le _, rfl, by simp [batsBytes], World.ownsRow_nil _ _ _ _, EntsV.nil _ _, by simp, below_alloc_ (Below.refl _ _) _⟩
  case round =>
    obtain ⟨j, us, hj, rfl, rfl, hin, hva, hoks, hbw⟩ := hrel
    by_cases hlt : j < n
    · have hltI : (j : Int) < (n : Int) := by omega
      have hjl : j < ts.length := by have := hn'.out; omega
      obtain ⟨g, o, c2, u, he, hg, c0, c1, hu⟩ := (hv'.out.below hbw).at_ j hjl
      have hA : A = some ⟨g, o, none⟩ := by injection he
      clear he
      subst hA
      have hwf := hv'.out.wf ts[j] (List.getElem_mem hjl)
      have hln := hv'.out.ln ts[j] (List.getElem_mem hjl)
      obtain ⟨E0, hE⟩ : ∃ E, ts[j] = E := ⟨_, rfl⟩
      rw [hE] at c0 hu hln hwf
      obtain ⟨T, l⟩ := E0
      simp only at c0 hu hln
      obtain ⟨hwT, hwL⟩ := hwf
      simp only at hwT hwL
      obtain ⟨Au, cu, rfl⟩ := hu.form
      obtain ⟨m, hm⟩ : ∃ m, l.length = m := ⟨_, rfl⟩
      rw [hm] at hu hln
      rw [hm] at c1
      by_cases hT0 : T = 0
      · have hT0I : (T : Int) = 0 := by omega
        have hno : okB ts[j] = false := by rw [hE]; unfold okB; rw [decide_eq_false (by simp [hT0])]; rfl
        have hbw' := Lib.hid hbw
        have hE' := Lib.hid hE
        have hu' := Lib.hid hu
        have hin' := Lib.hid hin
        have hva' := Lib.hid hva
        have hoks' := Lib.hid hoks
        have hwT' := Lib.hid hwT
        have hwL' := Lib.hid hwL
        have hm' := Lib.hid hm
        have hno' := Lib.hid hno
        clear hno hm hwL hwT hoks hva hin hu hE hbw
        go_wp2_with fail
        refine bodyPost_ret (res_tmp4 rfl _ _ _) rfl ?_
        exact lb_none (okBs_not hjl hno'.out) (below_alloc_ hbw'.out _)
      have hT0I : ((T : Int) == 0) = false := by simp; omega
      by_cases hm0 : m = 0
      · have hm0I : (m : Int) = 0 := by omega
        have hno : okB ts[j] = false := by rw [hE]; unfold okB; rw [decide_eq_false (by simp only; omega)]; rfl
        have hbw' := Lib.hid hbw
        have hE' := Lib.hid hE
        have hu' := Lib.hid hu
        have hin' := Lib.hid hin
        have hva' := Lib.hid hva
        have hoks' := Lib.hid hoks
        have hwT' := Lib.hid hwT
        have hwL' := Lib.hid hwL
        have hm' := Lib.hid hm
        have hno' := Lib.hid hno
        clear hno hm hwL hwT hoks hva hin hu hE hbw
        go_wp2_with fail
        refine bodyPost_ret (res_tmp4 rfl _ _ _) rfl ?_
        exact lb_none (okBs_not hjl hno'.out) (below_alloc_ hbw'.out _)
      have hm0I : ((m : Int) == 0) = false := by simp; omega
      by_cases hm10 : 10 < m
      · have hm10I : 10 < (m : Int) := by omega
        have hno : okB ts[j] = false := by rw [hE]; unfold okB; rw [decide_eq_false (by simp only; omega)]; rfl
        have hbw' := Lib.hid hbw
        have hE' := Lib.hid hE
        have hu' := Lib.hid hu
        have hin' := Lib.hid hin
        have hva' := Lib.hid hva
        have hoks' := Lib.hid hoks
        have hwT' := Lib.hid hwT
        have hwL' := Lib.hid hwL
        have hm' := Lib.hid hm
        have hno' := Lib.hid hno
        clear hno hm hwL hwT hoks hva hin hu hE hbw
        go_wp2_with fail
        refine bodyPost_ret (res_tmp4 rfl _ _ _) rfl ?_
        exact lb_none (okBs_not hjl hno'.out) (below_alloc_ hbw'.out _)
      have hm10I : ¬ 10 < (m : Int) := by omega
      have hent := fun W (hb : Below wr.heap.size wr W) => lEntries_any l (.slice Au m cu) W (hu.below hb) (by omega)
      cases hs : small50 l with
      | false =>
        have hno : okB ts[j] = false := by rw [hE]; unfold okB; rw [hs, Bool.and_false]
        rw [hs] at hent
        have hbw' := Lib.hid hbw
        have hE' := Lib.hid hE
        have hu' := Lib.hid hu
        have hin' := Lib.hid hin
        have hva' := Lib.hid hva
        have hoks' := Lib.hid hoks
        have hwT' := Lib.hid hwT
        have hwL' := Lib.hid hwL
        have hm' := Lib.hid hm
        have hno' := Lib.hid hno
        have hent' := Lib.hid hent
        have hs' := Lib.hid hs
        clear hs hent hno hm hwL hwT hoks hva hin hu hE hbw
        go_wp2_with fail
        refine (hent'.out _ (below_alloc_ (Below.refl _ wr) _)).mono ?_
        rintro e w2 ⟨rfl, hb2⟩
        have hb2' := Lib.hid hb2
        clear hb2
        go_wp2_with fail
        refine bodyPost_ret (res_tmp4 rfl _ _ _) rfl ?_
        exact lb_none (okBs_not hjl hno'.out) (below_call_ hb2'.out (below_alloc_ hbw'.out _))
      | true =>
        rw [hs] at hent
        have hokj : okB ts[j] = true := by rw [hE]; unfold okB; rw [hs, decide_eq_true (by simp only; omega)]; rfl
        have hoks1 := forall_takeB (p := fun t => okB t = true) hjl hoks hokj
        obtain ⟨hjT, hTj⟩ := map_takeB hTS'.out hjl
        rw [hE] at hTj
        have hle0 := bats_take_le hTS'.out hoks hv'.out.wf (by have := hn'.out; omega)
        have hle1 := bats_take_le hTS'.out hoks1 hv'.out.wf (by have := hn'.out; omega)
        have hBT := batsBytes_take hjT
        have hAT := batsAt_take hjT
        rw [hTj] at hBT hAT
        obtain ⟨L, hL⟩ : ∃ L, l.map (txE T) = L := ⟨_, rfl⟩
        have hLl : L.length = m := by rw [← hL, List.length_map, hm]
        have hbb : batBytes (txB (T, l)) = bytesL L ++ eBytes (endE T) := by rw [← hL]; rfl
        have htl : (txB (T, l)).2 = L := hL
        rw [htl] at hAT
        rw [hbb] at hBT hAT
        rw [hBT] at hle1
        obtain ⟨P, hP⟩ : ∃ P, zeros20 ++ batsBytes (TS.take j) = P := ⟨_, rfl⟩
        have hPl : P.length = 20 + (batsBytes (TS.take j)).length := by rw [← hP, List.length_append]; rfl
        rw [← hPl] at hAT
        have hBT2 : zeros20 ++ batsBytes (TS.take (j + 1)) = P ++ (bytesL L ++ eBytes (endE T)) := by rw [hBT, ← hP, List.append_assoc]
        rw [List.length_append, List.length_append] at hle1
        rw [hP]
        obtain ⟨BL, hBL⟩ : ∃ BL, (bytesL L).length = BL := ⟨_, rfl⟩
        rw [hBL] at hle1
        obtain ⟨IL, hIL⟩ : ∃ IL, (batsAt 20 (TS.take j)).map Prod.fst = IL := ⟨_, rfl⟩
        obtain ⟨AL, hAL⟩ : ∃ AL, (batsAt 20 (TS.take j)).map Prod.snd = AL := ⟨_, rfl⟩
        have hIl : IL.length = j := by rw [← hIL, List.length_map, batsAt_length, List.length_take]; omega
        have hAl : AL.length = j := by rw [← hAL, List.length_map, batsAt_length, List.length_take]; omega
        rw [hIL] at hin
        rw [hAL] at hva
        unfold IntsO at hin
        rw [hIl] at hin
        obtain ⟨a3, k3', rfl⟩ := own_formN hin
        obtain ⟨a4, k4', he4⟩ := own_formN hva.row
        rw [hAl] at he4
        subst he4
        have hbw' := Lib.hid hbw
        have hE' := Lib.hid hE
        have hu' := Lib.hid hu
        have hin' := Lib.hid hin
        have hva' := Lib.hid hva
        have hoks' := Lib.hid hoks
        have hoks1' := Lib.hid hoks1
        have hokj' := Lib.hid hokj
        have hwT' := Lib.hid hwT
        have hwL' := Lib.hid hwL
        have hm' := Lib.hid hm
        have hent' := Lib.hid hent
        have hs' := Lib.hid hs
        have hBT' := Lib.hid hBT
        have hAT' := Lib.hid hAT
        have hP' := Lib.hid hP
        have hBT2' := Lib.hid hBT2
        have hTj' := Lib.hid hTj
        have htl' := Lib.hid htl
        have hbb' := Lib.hid hbb
        have hLl' := Lib.hid hLl
        have hL' := Lib.hid hL
        have hBL' := Lib.hid hBL
        have hIL' := Lib.hid hIL
        have hAL' := Lib.hid hAL
        have hIl' := Lib.hid hIl
        have hAl' := Lib.hid hAl
        clear hAl hIl hAL hIL hBL hL hLl hbb htl hTj hBT2 hP hAT hBT hs hent hm hwL hwT hokj hoks1 hoks hva hin hu hE hbw
        go_wp2_with fail
        refine (hent'.out _ (below_alloc_ (Below.refl _ wr) _)).mono ?_
        rintro e w2 ⟨rfl, hb2⟩
        have hbA := below_call_ hb2 (below_alloc_ (Below.refl _ wr) _)
        have hbx := (Bk.at_ wr wr.heap.size 68 #[Value.int .u64 (T : Int), .slice Au m cu] rfl).below hb2 (by simp)
        have hlw : wr.heap.size < w2.heap.size := hbx.lt
        have hu2 := hu'.out.below hbA
        have hin2 := own_below hin'.out hbA (Nat.le_refl _)
        have hva2 := hva'.out.below hbA (Nat.le_refl _)
        have hbw2 := below_call_ hbA hbw'.out
        obtain ⟨B7, hB7⟩ : ∃ B, wr.heap.size = B := ⟨_, rfl⟩
        rw [hB7] at hbx hlw
        have q0 := hbx.cell 0
        have q1 := hbx.cell 1
        simp at q0 q1
        simp only [hB7]
        clear hent' hu' hin' hva' hbw' c0 c1
        have hb2' := Lib.hid hb2
        have hbA' := Lib.hid hbA
        have hbx' := Lib.hid hbx
        have hu2' := Lib.hid hu2
        have hin2' := Lib.hid hin2
        have hva2' := Lib.hid hva2
        have hbw2' := Lib.hid hbw2
        have hB7' := Lib.hid hB7
        clear hB7 hbw2 hva2 hin2 hu2 hbx hbA hb2
        go_wp2_with fail
        go_loopw [2, 8, 47] (fun s2 s8 s47 wx => ∃ i : Nat, i ≤ m ∧ s47 = .int .i64 (i : Int) ∧ s2 = .string ⟨(P ++ bytesL (L.take i)).toArray⟩ ∧ Ents w2.heap.size wx s8 (placed P.length (L.take i)) ∧ Below w2.heap.size w2 wx) (fun _ _ s47 _ => m - (intOf s47).toNat)
        case atStart => exact ⟨0, Nat.zero_le _, rfl, by simp [bytesL], by simpa [placed] using Ents.nil _ _, Below.refl _ _⟩
        case round =>
          obtain ⟨i, hi, rfl, rfl, hx, hbi⟩ := hrel
          have hbL := hBL'.out
          by_cases hlt2 : i < m
          · skip
            --<
            have hltI2 : (i : Int) < (m : Int) := by omega
            have hil : i < l.length := by have := hm'.out; omega
            obtain ⟨g2, o2, c3, he2, hg2, c0, c1, c2', c3', c4, c5, c6⟩ := (hu2'.out.below hbi).at_ i hil
            have hA2 : Au = some ⟨g2, o2, none⟩ := by injection he2
            clear he2
            subst hA2
            have hsm := small50_mem hs'.out (List.getElem_mem hil)
            unfold small1 at hsm
            rw [decide_eq_true_eq] at hsm
            obtain ⟨k0, k1, k2⟩ := hsm
            obtain ⟨k3, k4, k5⟩ := hwL'.out l[i] (List.getElem_mem hil)
            obtain ⟨hiL, hLi⟩ := map_takeE hL'.out hil
            have hle3 := bytesL_le (Nat.le_of_eq hbL) i
            have hle4 := bytesL_le (Nat.le_of_eq hbL) (i + 1)
            have hTk := bytesL_take hiL
            have hPt := placed_take' (o := P.length) hiL
            rw [hLi] at hTk hPt
            obtain ⟨E, hE2⟩ : ∃ E, l[i] = E := ⟨_, rfl⟩
            rw [hE2] at c0 c1 c2' c3' c4 c5 c6 k0 k1 k2 k3 k4 k5 hTk hPt
            have hbit := txBits E.bits k3
            obtain ⟨M, hM⟩ : ∃ M, E.bits % 64 + 64 = M := ⟨_, rfl⟩
            have hM256 : M < 256 := by omega
            rw [hM] at hbit
            have hkey := fun W => specKeyTsL_any E.key T W (by omega) hwT'.out
            have hKl : (keyTs E.key T).length = E.key.length + 8 := keyTs_length _ _
            obtain ⟨K, hK⟩ : ∃ K, keyTs E.key T = K := ⟨_, rfl⟩
            simp only [hK] at hkey
            rw [hK] at hKl
            have hX : txE T E = ⟨K, E.val, M, E.um, E.exp, E.off, E.len⟩ := by unfold txE; rw [hK, hM]
            rw [hX] at hTk hPt
            obtain ⟨Q, hQ⟩ : ∃ Q, eBytes ⟨K, E.val, M, E.um, E.exp, E.off, E.len⟩ = Q := ⟨_, rfl⟩
            have hcall : ∀ W, Calls Tryz.prog 13 #[.agg #[Value.string ⟨K.toArray⟩, .string ⟨E.val.toArray⟩, .int .u8 (M : Int), .int .u8 (E.um : Int), .int .u64 (E.exp : Int), .int .u32 (E.off : Int), .int .u32 (E.len : Int)]] W fun e w' => e = .returned (.string ⟨Q.toArray⟩) ∧ Below W.heap.size W w' := by
              rw [← hQ]
              exact fun W => implLogEntry_any ⟨K.toArray⟩ ⟨E.val.toArray⟩ M E.um E.exp E.off E.len (by simp [ByteArray.size]; omega) (by simp [ByteArray.size]; omega) hM256 k4 k5 W
            rw [hTk, List.length_append, hQ] at hle4
            obtain ⟨X, hXX⟩ : ∃ X, placed P.length (L.take i) = X := ⟨_, rfl⟩
            have hXl : X.length = i := by rw [← hXX, placed_length, List.length_take]; omega
            obtain ⟨R, hR⟩ : ∃ R, P ++ bytesL (L.take i) = R := ⟨_, rfl⟩
            have hRe : R.length = P.length + (bytesL (L.take i)).length := by rw [← hR, List.length_append]
            have hRQ : P ++ bytesL (L.take (i + 1)) = R ++ Q := by rw [hTk, ← hR, ← hQ, List.append_assoc]
            rw [hXX, ← hRe] at hPt
            have hput : put R.length ⟨K, E.val, M, E.um, E.exp, E.off, E.len⟩ = ⟨K, E.val, M, E.um, E.exp, R.length, Q.length⟩ := by rw [put, hQ]
            rw [hput] at hPt
            rw [hXX] at hx
            rw [hR]
            have hs1 : (ByteArray.mk R.toArray).size = R.length := by simp [ByteArray.size]
            have hs2 : (ByteArray.mk Q.toArray).size = Q.length := by simp [ByteArray.size]
            have hRl : R.length ≤ 80000 := by omega
            have hQl : Q.length ≤ 80000 := by omega
            have hsum : ¬ 9223372036854775807 < R.length + Q.length := by omega
            have wR : IntKind.u32.wrap (R.length : Int) = (R.length : Int) := IntWalk.u32_in _ (by omega)
            have wQ : IntKind.u32.wrap (Q.length : Int) = (Q.length : Int) := IntWalk.u32_in _ (by omega)
            have hone := enC_one ⟨K, E.val, M, E.um, E.exp, R.length, Q.length⟩
            unfold enC entCells at hone
            obtain ⟨ax, cx, rfl⟩ := ents_form hx
            rw [hXl] at hx
            rw [hXl]
            have hbe := Bk.at_ wr wr.heap.size 30 #[Value.string ⟨E.key.toArray⟩, .string ⟨E.val.toArray⟩, .int .u8 (E.bits : Int), .int .u8 (E.um : Int), .int .u64 (E.exp : Int), .int .u32 (E.off : Int), .int .u32 (E.len : Int)] rfl
            have hbx1 := hbx'.out.below (below_alloc_ hbi (.cells #[Value.string ⟨E.key.toArray⟩, .string ⟨E.val.toArray⟩, .int .u8 (E.bits : Int), .int .u8 (E.um : Int), .int .u64 (E.exp : Int), .int .u32 (E.off : Int), .int .u32 (E.len : Int)] 30)) hlw
            have hab := below_alloc_ (Below.refl _ wr) (.cells #[Value.string ⟨E.key.toArray⟩, .string ⟨E.val.toArray⟩, .int .u8 (E.bits : Int), .int .u8 (E.um : Int), .int .u64 (E.exp : Int), .int .u32 (E.off : Int), .int .u32 (E.len : Int)] 30)
            have hkey' := fun W => Lib.hid (hkey W)
            clear hkey q0 q1
            have hx' := Lib.hid hx
            have hbi' := Lib.hid hbi
            have hbL' := Lib.hid hbL
            have hE2' := Lib.hid hE2
            have k0' := Lib.hid k0
            have k1' := Lib.hid k1
            have k2' := Lib.hid k2
            have k3' := Lib.hid k3
            have k4' := Lib.hid k4
            have k5' := Lib.hid k5
            have hLi' := Lib.hid hLi
            have hle3' := Lib.hid hle3
            have hle4' := Lib.hid hle4
            have hTk' := Lib.hid hTk
            have hPt' := Lib.hid hPt
            have hM' := Lib.hid hM
            have hK' := Lib.hid hK
            have hKl' := Lib.hid hKl
            have hX' := Lib.hid hX
            have hQ' := Lib.hid hQ
            have hcall' := Lib.hid hcall
            have hXX' := Lib.hid hXX
            have hXl' := Lib.hid hXl
            have hR' := Lib.hid hR
            have hRe' := Lib.hid hRe
            have hRQ' := Lib.hid hRQ
            have hput' := Lib.hid hput
            have hone' := Lib.hid hone
            clear hone hput hRQ hRe hR hXl hXX hcall hQ hX hKl hK hM hPt hTk hle4 hle3 hLi k5 k4 k3 k2 k1 k0 hE2 hbL hbi hx
            go_upto_region 13 with fail
            obtain ⟨W1, hW1⟩ : ∃ W1, wr.alloc (.cells #[Value.string ⟨E.key.toArray⟩, .string ⟨E.val.toArray⟩, .int .u8 (E.bits : Int), .int .u8 (E.um : Int), .int .u64 (E.exp : Int), .int .u32 (E.off : Int), .int .u32 (E.len : Int)] 30) = W1 := ⟨_, rfl⟩
            rw [hW1] at hbe hbx1 hab
            rw [hW1]
            have p0 := hbe.cell 0
            have p2 := hbe.cell 2
            have p7 := hbx1.cell 0
            simp at p0 p2 p7
            clear c0 c1 c2' c3' c4 c5 c6
            have hbe' := Lib.hid hbe
            have hbx1' := Lib.hid hbx1
            have hab' := Lib.hid hab
            have hW1' := Lib.hid hW1
            clear hW1 hab hbx1 hbe
            go_cut [55] (fun s55 wx => s55 = .string ⟨K.toArray⟩ ∧ Bk wx wr.heap.size 30 #[Value.string ⟨K.toArray⟩, .string ⟨E.val.toArray⟩, .int .u8 (M : Int), .int .u8 (E.um : Int), .int .u64 (E.exp : Int), .int .u32 (E.off : Int), .int .u32 (E.len : Int)] ∧ Below wr.heap.size wr wx)
            case first =>
              go_region_with (go_at_call 31; refine (hkey' _).out.mono ?_; rintro e w3 ⟨rfl, hb3⟩; have hbe3 := hbe'.out.drew.below hb3 hbe'.out.lt; have hab3 := below_call_ hb3 (below_drew_ hab'.out); have z0 := hbe3.free 0; have z2 := hbe3.free 2; have y0 := hbe3.cell 0; have y2 := hbe3.cell 2; simp at y0 y2; have hb3' := Lib.hid hb3; have hbe3' := Lib.hid hbe3; have hab3' := Lib.hid hab3; clear hab3 hbe3 hb3)
              all_goals
                go_wp2_with fail
                go_meet
                refine ⟨rfl, ?_, ?_⟩
                · have h := (hbe3'.out.set 0 (.string ⟨K.toArray⟩)).set 2 (.int .u8 (M : Int))
                  simpa using h
                · exact (hab3'.out.setCell (p := ⟨wr.heap.size, 0, none⟩) (Nat.le_refl _) _).setCell (p := ⟨wr.heap.size, 2, none⟩) (Nat.le_refl _) _
            case rest =>
              obtain ⟨rfl, hbc, hcw⟩ := hcut
              clear p0 p2 p7
              have q0 := hbc.cell 0
              have q1 := hbc.cell 1
              have q2 := hbc.cell 2
              have q3 := hbc.cell 3
              have q4 := hbc.cell 4
              have q5 := hbc.cell 5
              have q6 := hbc.cell 6
              simp at q0 q1 q2 q3 q4 q5 q6
              have hbc' := Lib.hid hbc
              have hcw' := Lib.hid hcw
              clear hcw hbc
              go_wp2_with fail
              refine (hcall'.out _).mono ?_
              rintro e w3 ⟨rfl, hb3⟩
              have hbC := below_call_ hb3 hcw'.out
              have hbB := below_call_ hbC hbi'.out
              have hbox := hbc'.out.below hb3 hbc'.out.lt
              clear q0 q1 q2 q3 q4 q5 q6
              have q0 := hbox.cell 0
              have q1 := hbox.cell 1
              have q2 := hbox.cell 2
              have q3 := hbox.cell 3
              have q4 := hbox.cell 4
              have q5 := hbox.cell 5
              have q6 := hbox.cell 6
              simp at q0 q1 q2 q3 q4 q5 q6
              have f5 := hbox.free 5
              have f6 := hbox.free 6
              have hlwr : wr.heap.size < w3.heap.size := hbox.lt
              have hxs : ∀ g, (Value.slice ax i cx).ownBlock = some g → g ∉ [wr.heap.size] := fun g hg hm => by
                have := (hx'.out.lt hg).2
                simp at hm
                omega
              have hchS : Ch [wr.heap.size] w3 ((w3.setCell ⟨wr.heap.size, 5, none⟩ (.int .u32 (R.length : Int))).setCell ⟨wr.heap.size, 6, none⟩ (.int .u32 (Q.length : Int))) := ((Ch.refl _ _).setCell (p := ⟨wr.heap.size, 5, none⟩) (.inl (by simp)) _).setCell (p := ⟨wr.heap.size, 6, none⟩) (.inl (by simp)) _
              have hx3 := (hx'.out.below hbC (Nat.le_refl _)).ch hchS hxs
              unfold Ents at hx3
              rw [hXl'.out] at hx3
              have hov := World.ownsRow.alloc hx3 (.cells #[Value.string ⟨K.toArray⟩, .string ⟨E.val.toArray⟩, .int .u8 (M : Int), .int .u8 (E.um : Int), .int .u64 (E.exp : Int), .int .u32 (R.length : Int), .int .u32 (Q.length : Int)] 30)
              have hwr : w2.heap.size ≤ wr.heap.size := hbi'.out.size
              have hchW := ((Ch.of_below hbB).trans' hchS (S := []) (by intro k hk; simp at hk; omega)).alloc (.cells #[Value.string ⟨K.toArray⟩, .string ⟨E.val.toArray⟩, .int .u8 (M : Int), .int .u8 (E.um : Int), .int .u64 (E.exp : Int), .int .u32 (R.length : Int), .int .u32 (Q.length : Int)] 30)
              have hbox' := Lib.hid hbox
              have hb3' := Lib.hid hb3
              have hbB' := Lib.hid hbB
              have hbC' := Lib.hid hbC
              have hxs' := Lib.hid hxs
              have hchS' := Lib.hid hchS
              have hx3' := Lib.hid hx3
              have hov' := Lib.hid hov
              have hchW' := Lib.hid hchW
              clear hchW hov hx3 hchS hxs hbC hbB hb3 hbox
              go_wp2_with (at_builtin; refine wpList_appendN rfl (.tmp 72) (.tmp 74) 23 rfl w2.heap.size 30 7 Tryz.underlying23 (by kernel_rfl) (by omega) _ i (entCs X) rfl hov'.out ⟨w3.heap.size, 0, none⟩ 1 1 [Value.string ⟨K.toArray⟩, .string ⟨E.val.toArray⟩, .int .u8 (M : Int), .int .u8 (E.um : Int), .int .u64 (E.exp : Int), .int .u32 (R.length : Int), .int .u32 (Q.length : Int)] rfl rfl (bk_news (Bk.at_ _ _ _ _ (by simp))) hone'.out (by omega) (by simp; omega) ?_; intro A' c' w4 hown4 hch4 hloc4; have hown4' := Lib.hid hown4; have hch5 : Ch (Value.slice ax i cx).ownBlock.toList _ w4 := hch4; have hch4' := Lib.hid hch5; clear hown4 hch4 hch5)
              go_roundw
              case rel =>
                refine ⟨i + 1, by omega, by go_num, by rw [hRQ'.out]; exact congrArg Value.string (ByteArray.mk_append_mk _ _), ?_, ?_⟩
                · rw [hPt'.out]
                  unfold Ents
                  rw [entCs_snoc, List.length_append, hXl'.out]
                  exact hown4'.out
                · exact (hchW'.out.trans' hch4'.out (by
                    intro k hk
                    right
                    have h1 : (Value.slice ax i cx).ownBlock = some k := by simpa using hk
                    exact (hx'.out.lt h1).1)).below_nil
              case measure => simp [intOf]; omega
            -->
          · obtain rfl : i = m := by omega
            have hT : L.take i = L := List.take_of_length_le (by have := hLl'.out; omega)
            rw [hT] at hx
            rw [hT]
            obtain ⟨ax, cx, rfl⟩ := ents_form hx
            have hXl : (placed P.length L).length = i := by rw [placed_length]; exact hLl'.out
            obtain ⟨X, hXX⟩ : ∃ X, placed P.length L = X := ⟨_, rfl⟩
            rw [hXX] at hx hXl
            rw [hXl] at hx
            try rw [hXX]
            rw [hXl]
            obtain ⟨R, hR⟩ : ∃ R, P ++ bytesL L = R := ⟨_, rfl⟩
            have hRe : R.length = P.length + BL := by rw [← hR, List.length_append, hbL]
            rw [hR]
            obtain ⟨KE, hKE⟩ : ∃ K, keyTs txnKey T = K := ⟨_, rfl⟩
            have hKEl : KE.length = 19 := by rw [← hKE, keyTs_length]; rfl
            obtain ⟨D, hD⟩ : ∃ D, dec T = D := ⟨_, rfl⟩
            have hDl : D.length ≤ 20 := by rw [← hD]; exact dec_len T hwT'.out
            have hX : endE T = ⟨KE, D, 128, 0, 0, 0, 0⟩ := by unfold endE; rw [hKE, hD]
            obtain ⟨Q, hQ⟩ : ∃ Q, eBytes (endE T) = Q := ⟨_, rfl⟩
            rw [hQ] at hle1
            have hkey : ∀ W, Calls Tryz.prog 31 #[.string ⟨#[33, 98, 97, 100, 103, 101, 114, 33, 116, 120, 110]⟩, .int .u64 (T : Int)] W fun e w' => e = .returned (.string ⟨KE.toArray⟩) ∧ Below W.heap.size W w' := by
              rw [← hKE]
              exact fun W => specKeyTsL_any txnKey T W (by decide) hwT'.out
            have hdec : ∀ W, Calls Tryz.prog 20 #[.int .u64 (T : Int)] W fun e w' => e = .returned (.string ⟨D.toArray⟩) ∧ Below W.heap.size W w' := by
              rw [← hD]
              exact fun W => specDecimal_any T hwT'.out W
            have hcall : ∀ W, Calls Tryz.prog 13 #[.agg #[Value.string ⟨KE.toArray⟩, .string ⟨D.toArray⟩, .int .u8 128, .int .u8 0, .int .u64 0, .int .u32 0, .int .u32 0]] W fun e w' => e = .returned (.string ⟨Q.toArray⟩) ∧ Below W.heap.size W w' := by
              rw [← hQ, hX]
              exact fun W => implLogEntry_any ⟨KE.toArray⟩ ⟨D.toArray⟩ 128 0 0 0 0 (by simp [ByteArray.size]; omega) (by simp [ByteArray.size]; omega) (by omega) (by omega) (by omega) W
            have hs1 : (ByteArray.mk R.toArray).size = R.length := by simp [ByteArray.size]
            have hs2 : (ByteArray.mk Q.toArray).size = Q.length := by simp [ByteArray.size]
            have hRQl : R.length + Q.length ≤ 80000 := by omega
            have hsum : ¬ 9223372036854775807 < R.length + Q.length := by omega
            have hbx1 := hbx'.out.below hbi hlw
            have p7 := hbx1.cell 0
            simp at p7
            have hkey' := fun W => Lib.hid (hkey W)
            have hdec' := fun W => Lib.hid (hdec W)
            have hcall' := fun W => Lib.hid (hcall W)
            clear hkey hdec hcall q0 q1
            have hx' := Lib.hid hx
            have hbi' := Lib.hid hbi
            have hbL' := Lib.hid hbL
            have hR' := Lib.hid hR
            have hRe' := Lib.hid hRe
            have hKE' := Lib.hid hKE
            have hD' := Lib.hid hD
            have hX' := Lib.hid hX
            have hQ' := Lib.hid hQ
            have hKEl' := Lib.hid hKEl
            have hDl' := Lib.hid hDl
            have hbx1' := Lib.hid hbx1
            have hXX' := Lib.hid hXX
            have hXl' := Lib.hid hXl
            have hle1' := Lib.hid hle1
            have hT' := Lib.hid hT
            clear hT hle1 hXl hXX hbx1 hDl hKEl hQ hX hD hKE hRe hR hbL hbi hx
            go_upto_region 18 with fail
            go_cut [2] (fun s2 wx => s2 = .string ⟨(R ++ Q).toArray⟩ ∧ Below wr.heap.size wr wx)
            case first =>
              go_region_with (first | (go_at_call 31; refine (hkey' _).out.mono ?_; rintro e w3 ⟨rfl, hb3⟩; have y0 := (hbx1'.out.drew.below hb3 hbx1'.out.lt).cell 0; simp at y0; have hb3' := Lib.hid hb3; clear hb3) | (go_at_call 20; refine (hdec' _).out.mono ?_; rintro e w4 ⟨rfl, hb4⟩; have hb4' := Lib.hid hb4; clear hb4) | (go_at_call 13; refine (hcall' _).out.mono ?_; rintro e w5 ⟨rfl, hb5⟩; have hb5' := Lib.hid hb5; clear hb5))
              all_goals
                go_wp2_with fail
                go_meet
                exact ⟨congrArg Value.string mkapp, below_call_ hb5'.out (below_call_ hb4'.out (below_call_ hb3'.out (below_drew_ (Below.refl _ _))))⟩
            case rest =>
              obtain ⟨rfl, hcw⟩ := hcut
              obtain ⟨F, hF⟩ : ∃ F, R ++ Q = F := ⟨_, rfl⟩
              have hFl : F.length = R.length + Q.length := by rw [← hF, List.length_append]
              have hFs : (ByteArray.mk F.toArray).size = F.length := by simp [ByteArray.size]
              rw [hF]
              have hbc := below_call_ hcw hbi'.out
              have hsz2 : w.heap.size ≤ w2.heap.size := hbw2'.out.size
              have hszc : w2.heap.size ≤ wc.heap.size := hbc.size
              have hATf : (batsAt 20 (TS.take (j + 1))).map Prod.fst = IL ++ [F.length] := by
                rw [hAT'.out, List.map_append, hIL'.out, List.map_cons, List.map_nil]
                have h1 : P.length + (bytesL L ++ eBytes (endE T)).length = F.length := by rw [List.length_append, hbL'.out, hQ'.out, hFl, hRe'.out]; omega
                rw [h1]
              have hATs : (batsAt 20 (TS.take (j + 1))).map Prod.snd = AL ++ [X] := by
                rw [hAT'.out, List.map_append, hAL'.out, List.map_cons, List.map_nil, hXX'.out]
              have hstr : zeros20 ++ batsBytes (TS.take (j + 1)) = F := by rw [hBT2'.out, ← List.append_assoc, hR'.out, hQ'.out, hF]
              have hina := World.ownsRow.alloc (own_below hin2'.out hbc (Nat.le_refl _)) (.cells #[Value.int .i64 (F.length : Int)] 3)
              have hbca : Below w2.heap.size w2 (wc.alloc (.cells #[Value.int .i64 (F.length : Int)] 3)) := below_alloc_ hbc _
              have hcwa : Below wr.heap.size wr (wc.alloc (.cells #[Value.int .i64 (F.length : Int)] 3)) := below_alloc_ hcw _
              have hvaa := hva2'.out.below hbca (Nat.le_refl _)
              have hxa := hx'.out.below hcwa (Nat.le_refl _)
              have hbwa := below_step hbw2'.out hsz2 hbca
              clear p7
              have hcw' := Lib.hid hcw
              have hF' := Lib.hid hF
              have hFl' := Lib.hid hFl
              have hbc' := Lib.hid hbc
              have hATf' := Lib.hid hATf
              have hATs' := Lib.hid hATs
              have hstr' := Lib.hid hstr
              have hina' := Lib.hid hina
              have hbca' := Lib.hid hbca
              have hcwa' := Lib.hid hcwa
              have hvaa' := Lib.hid hvaa
              have hxa' := Lib.hid hxa
              have hbwa' := Lib.hid hbwa
              clear hbwa hxa hvaa hcwa hbca hina hstr hATs hATf hbc hFl hF hcw
              go_wp2_with (first | (at_builtin; refine wpList_appendN rfl (.tmp 90) (.tmp 93) 38 rfl w.heap.size 3 1 Tryz.underlying38 (by kernel_rfl) (by omega) _ j (intCs IL) rfl hina'.out ⟨wc.heap.size, 0, none⟩ 1 1 [Value.int .i64 (F.length : Int)] rfl rfl (bk_news (Bk.at_ _ _ _ _ rfl)) (by intro u hu; simp at hu; subst hu; rfl) (by omega) (by simp; omega) ?_; intro A1 c1 w4 hown4 hch4x hloc4; have hch4 : Ch (Value.slice a3 j k3').ownBlock.toList _ w4 := hch4x; clear hch4x; have hown4' := Lib.hid hown4; have hch4' := Lib.hid hch4; have hva4' := Lib.hid (hvaa'.out.other hina'.out hch4 (by decide) (by decide)); have hx4' := Lib.hid (hxa'.out.ch hch4 (own2_apart hxa'.out hina'.out (by decide))); have hbw4' := Lib.hid (((Ch.of_below hbwa'.out).trans' hch4 (S := []) (fun k hk => .inr (World.ownsRow.lt hina'.out k (by simpa using hk)).1)).below_nil); have hsz4 := hbw4'.out.size; have hov4' := Lib.hid (World.ownsRow.alloc hva4'.out.row (.cells #[Value.slice ax i cx] 23)); rw [hAl'.out] at hov4'; clear hown4 hch4) | (at_builtin; refine wpList_appendN rfl (.tmp 95) (.tmp 97) 39 rfl w.heap.size 23 1 Tryz.underlying39 (by kernel_rfl) (by omega) _ j us rfl hov4'.out ⟨w4.heap.size, 0, none⟩ 1 1 [Value.slice ax i cx] rfl rfl (bk_news (Bk.at_ _ _ _ _ rfl)) (by intro u hu; simp at hu; subst hu; rfl) (by omega) (by simp; omega) ?_; intro A2 c2 w5 hown5 hch5x hloc5; have hch5 : Ch (Value.slice a4 j k4').ownBlock.toList _ w5 := hch5x; clear hch5x; have hown5' := Lib.hid hown5; have hch5' := Lib.hid hch5; clear hown5 hch5))
              go_roundw
              case rel =>
                refine ⟨j + 1, us ++ [Value.slice ax i cx], by omega, by go_num, by rw [hstr'.out], ?_, ?_, hoks1'.out, ?_⟩
                · rw [hATf'.out]
                  unfold IntsO
                  rw [intCs_snoc, List.length_append, hIl'.out]
                  exact own_ch (World.ownsRow.alloc hown4'.out _) hch5'.out (own2_apart (World.ownsRow.alloc hown4'.out _) hov4'.out (by decide))
                · rw [hATs'.out]
                  exact (hva4'.out.below (below_alloc_ (Below.refl _ _) _) (Nat.le_refl _)).push ((hx4'.out.below (below_alloc_ (Below.refl _ _) _) (Nat.le_refl _)).mono hsz2) (by rw [hAl'.out]; exact hown5'.out) hch5'.out
                · exact (((Ch.of_below hbw4'.out).alloc _).trans' hch5'.out (S := []) (fun k hk => .inr (World.ownsRow.lt hov4'.out k (by simpa using hk)).1)).below_nil
              case measure => simp [intOf]; omega
    · obtain rfl : j = n := by omega
      have hT : TS.take j = TS := List.take_of_length_le (by have := hn'.out; rw [← hTS'.out, List.length_map]; omega)
      have hT2 : ts.take j = ts := List.take_of_length_le (by have := hn'.out; omega)
      rw [hT] at hin hva
      rw [hT2] at hoks
      rw [hT]
      have hr : okBs ts = true := by
        unfold okBs
        rw [hn'.out, decide_eq_true (by omega), List.all_eq_true.2 hoks]
        rfl
      have hbw' := Lib.hid hbw
      have hin' := Lib.hid hin
      have hva' := Lib.hid hva
      have hoks' := Lib.hid hoks
      have hr' := Lib.hid hr
      have hT' := Lib.hid hT
      have hT2' := Lib.hid hT2
      clear hT2 hT hr hoks hva hin hbw
      go_wp2_with fail
      refine bodyPost_ret (res_tmp4 rfl _ _ _) rfl ?_
      refine ⟨hbw'.out, .inr ⟨hr'.out, _, _, us, by rw [hTS'.out]; rfl, ?_, ?_⟩⟩
      · rw [hTS'.out]; exact hin'.out
      · rw [hTS'.out]; exact hva'.out
end Go.Proofs.YtpndlcjilgcfkaaGreatDoor

namespace Go.Proofs.YtpndlcjilgcfkaaGreatDoor
open Go Go.RowKit Go.ChangeShapes Go.WideShapes Go.Deep
open Go.Proofs

theorem ecells_ent : Tryz.prog.cellsOf 30 = 7 := by kernel_rfl
theorem ecells_str : Tryz.prog.cellsOf 9 = 1 := by kernel_rfl
theorem ecells_u8 : Tryz.prog.cellsOf 5 = 1 := by kernel_rfl
theorem ecells_u64 : Tryz.prog.cellsOf 28 = 1 := by kernel_rfl
theorem ecells_u32 : Tryz.prog.cellsOf 24 = 1 := by kernel_rfl

theorem nat_u8 {n : Int} (h : (Lit.int .u8 n).wf = true) : ∃ m : Nat, n = (m : Int) ∧ m < 256 := by
  have := bounds_u8 h
  exact ⟨n.toNat, by omega, by omega⟩
theorem nat_u64 {n : Int} (h : (Lit.int .u64 n).wf = true) : ∃ m : Nat, n = (m : Int) ∧ m < 18446744073709551616 := by
  have := bounds_u64 h
  exact ⟨n.toNat, by omega, by omega⟩
theorem nat_u32 {n : Int} (h : (Lit.int .u32 n).wf = true) : ∃ m : Nat, n = (m : Int) ∧ m < 4294967296 := by
  have := bounds_u32 h
  exact ⟨n.toNat, by omega, by omega⟩
theorem bytes_back (s : ByteArray) : (⟨s.data.toList.toArray⟩ : ByteArray) = s := by cases s; simp

section
variable {H : Type} {enc : TypeId × Value → H} {W : World} {base : Nat} {spare : Nat → Bool} {held : Bool}

set_option maxRecDepth 100000 in
/-- Seven cells that read as an entry. -/
theorem ent_of_cells {n : Nat} {cs : List Value} {x : DataW H × List MemPlace} (hl : cs.length = 7) (h : DataW.trod enc Tryz.prog W base spare held n 30 cs = some x) :
    ∃ E : LEnt, cs = (enC E).toList ∧ E.bits < 256 ∧ E.um < 256 ∧ E.exp < 18446744073709551616 := by
  obtain ⟨xs, n, _, hx, _, hlen, hfl⟩ := DataW.trod_struct Tryz.underlying30 h
  match cs, hl, xs, hlen with
  | [c0, c1, c2, c3, c4, c5, c6], _, [y0, y1, y2, y3, y4, y5, y6], _ =>
    obtain ⟨k, e0, rfl, b0'⟩ := DataW.trod_string Tryz.underlying9 (show DataW.trod enc Tryz.prog W base spare held n 9 _ = some y0 from hfl 0 _ rfl)
    obtain ⟨y, e1, rfl, b1'⟩ := DataW.trod_string Tryz.underlying9 (show DataW.trod enc Tryz.prog W base spare held n 9 _ = some y1 from hfl 1 _ rfl)
    obtain ⟨m, e2, rfl, w2⟩ := DataW.trod_int Tryz.underlying5 (show DataW.trod enc Tryz.prog W base spare held n 5 _ = some y2 from hfl 2 _ rfl)
    obtain ⟨u, e3, rfl, w3⟩ := DataW.trod_int Tryz.underlying5 (show DataW.trod enc Tryz.prog W base spare held n 5 _ = some y3 from hfl 3 _ rfl)
    obtain ⟨x, e4, rfl, w4⟩ := DataW.trod_int Tryz.underlying28 (show DataW.trod enc Tryz.prog W base spare held n 28 _ = some y4 from hfl 4 _ rfl)
    obtain ⟨o, e5, rfl, w5⟩ := DataW.trod_int Tryz.underlying24 (show DataW.trod enc Tryz.prog W base spare held n 24 _ = some y5 from hfl 5 _ rfl)
    obtain ⟨q, e6, rfl, w6⟩ := DataW.trod_int Tryz.underlying24 (show DataW.trod enc Tryz.prog W base spare held n 24 _ = some y6 from hfl 6 _ rfl)
    simp [ecells_str, ecells_u8, ecells_u64, ecells_u32] at e0 e1 e2 e3 e4 e5 e6
    subst e0 e1 e2 e3 e4 e5 e6
    obtain ⟨m, rfl, hm⟩ := nat_u8 w2
    obtain ⟨u, rfl, hu⟩ := nat_u8 w3
    obtain ⟨x, rfl, hx4⟩ := nat_u64 w4
    obtain ⟨o, rfl, _⟩ := nat_u32 w5
    obtain ⟨q, rfl, _⟩ := nat_u32 w6
    refine ⟨⟨k.data.toList, y.data.toList, m, u, x, o, q⟩, ?_, hm, hu, hx4⟩
    simp only [enC, entCells, bytes_back]
end

theorem ents_list {len : Nat} {p : Nat → LEnt → Prop} (h : ∀ i, i < len → ∃ E, p i E) : ∃ l : List LEnt, l.length = len ∧ ∀ i (hi : i < l.length), p i l[i] := by
  induction len with
  | zero => exact ⟨[], rfl, fun i hi => by simp at hi⟩
  | succ n ih =>
    obtain ⟨l, hl, hp⟩ := ih fun i hi => h i (by omega)
    obtain ⟨E, hE⟩ := h n (by omega)
    refine ⟨l ++ [E], by simp [hl], fun i hi => ?_⟩
    by_cases hin : i < l.length
    · rw [List.getElem_append_left hin]
      exact hp i hin
    · have hi2 : i = n := by simp at hi; omega
      subst hi2
      subst hl
      simpa using hE

set_option maxRecDepth 100000 in
/-- A slice of entries as it is handed in. -/
theorem open_ents {H : Type} {enc : TypeId × Value → H} {W : World} {r : Reach} {b0 : Nat} {v : Value} {d : DataW H} {p : List MemPlace} (hv : Value.okWide Tryz.prog W r b0 23 v)
    (h : DataW.Trod enc Tryz.prog W 0 (fun _ => true) true 23 v d p) : ∃ l, EntsR W v l ∧ l.length ≤ maxLen := by
  obtain ⟨a0, len0, cap0, rfl⟩ := okWide_slice Tryz.underlying23 hv
  obtain ⟨fuel, hf⟩ := h
  rcases open_slice Tryz.underlying23 hf with ⟨h0, _⟩ | ⟨a, len, cap, m, n, D, Pl, hcs, _, hl, hm, hmm, _, hi⟩
  · simp only [Value.cells, List.cons.injEq, Value.slice.injEq, and_true] at h0
    obtain ⟨rfl, rfl, rfl⟩ := h0
    exact ⟨[], ⟨⟨none, 0, rfl⟩, fun j hj => by simp at hj, fun e he => by cases he⟩, by simp⟩
  · simp only [Value.cells, List.cons.injEq, Value.slice.injEq, and_true] at hcs
    obtain ⟨rfl, rfl, rfl⟩ := hcs
    rw [if_pos rfl] at hmm
    subst hmm
    obtain ⟨b, o, sp⟩ := a
    rw [ecells_ent] at hi
    by_cases hz : len0 = 0
    · subst hz
      exact ⟨[], ⟨⟨_, _, rfl⟩, fun j hj => by simp at hj, fun e he => by cases he⟩, by simp⟩
    have hsp : sp = none := by
      obtain ⟨cs', hc, ht'⟩ := hi 0 (by omega)
      obtain ⟨_, hcl, hat⟩ := World.cells?_some hc
      obtain ⟨E, rfl, _⟩ := ent_of_cells hcl ht'
      have h0 := hat 0 (by omega)
      simpa [Addr.add] using World.cell?_spot (h0.trans (show (enC E).toList[0]? = some _ from rfl))
    subst hsp
    obtain ⟨l, hll, hp⟩ := ents_list (len := len0) (p := fun i E => b < W.heap.size ∧ (∀ k u, (enC E)[k]? = some u → W.cell? ⟨b, o + i * 7 + k, none⟩ = some u) ∧ E.bits < 256 ∧ E.um < 256 ∧ E.exp < 18446744073709551616) (fun i hil => by
      obtain ⟨cs', hc, ht'⟩ := hi i (by omega)
      obtain ⟨_, hcl, hat⟩ := World.cells?_some hc
      obtain ⟨E, rfl, w1, w2, w3⟩ := ent_of_cells hcl ht'
      have hall : ∀ k u, (enC E)[k]? = some u → W.cell? ⟨b, o + i * 7 + k, none⟩ = some u := fun k u hk => by
        have hk7 : k < 7 := by
          have := (Array.getElem?_eq_some_iff.1 hk).1
          simpa [enC, entCells] using this
        have h1 := hat k hk7
        rw [Addr.add_lit, Addr.add_lit] at h1
        rw [h1, ← hk]
        simp
      exact ⟨E, block_lt_of_cell (hall 0 _ rfl), hall, w1, w2, w3⟩)
    refine ⟨l, ⟨⟨_, _, by rw [hll]⟩, fun j hj => ?_, fun e he => ?_⟩, by rw [hll]; omega⟩
    · obtain ⟨hb, h1, _⟩ := hp j hj
      exact ⟨b, o, _, by rw [hll], hb, h1 0 _ rfl, h1 1 _ rfl, h1 2 _ rfl, h1 3 _ rfl, h1 4 _ rfl, h1 5 _ rfl, h1 6 _ rfl⟩
    · obtain ⟨j, hj, rfl⟩ := List.getElem_of_mem he
      exact (hp j hj).2.2
end Go.Proofs.YtpndlcjilgcfkaaGreatDoor

namespace Go.Proofs.YtpndlcjilgcfkaaGreatDoor
open Go Go.RowKit Go.ChangeShapes Go.WideShapes Go.Deep
open Go.Proofs

theorem ecells_bat : Tryz.prog.cellsOf 68 = 2 := by kernel_rfl
theorem ecells_ents : Tryz.prog.cellsOf 23 = 1 := by kernel_rfl

section
variable {H : Type} {enc : TypeId × Value → H} {W : World}

theorem EntsR.none (W : World) (A : Option Addr) (c : Nat) : EntsR W (.slice A 0 c) [] := ⟨⟨A, c, rfl⟩, fun j hj => by simp at hj, fun e he => by cases he⟩

set_option maxRecDepth 100000 in
/-- Cells that read as a slice of entries. -/
theorem ents_of_cells {fuel : Nat} {cs : List Value} {x : DataW H × List MemPlace} (h : DataW.trod enc Tryz.prog W 0 (fun _ => true) true fuel 23 cs = some x) : ∃ v l, cs = [v] ∧ EntsR W v l ∧ l.length ≤ maxLen := by
  rcases open_slice Tryz.underlying23 h with ⟨h0, _⟩ | ⟨a, len0, cap0, m, n, D, Pl, hcs, _, hl, hm, hmm, _, hi⟩
  · exact ⟨_, [], h0, EntsR.none _ _ _, by simp⟩
  · rw [if_pos rfl] at hmm
    subst hmm
    obtain ⟨b, o, sp⟩ := a
    rw [ecells_ent] at hi
    by_cases hz : len0 = 0
    · subst hz
      exact ⟨_, [], hcs, EntsR.none _ _ _, by simp⟩
    have hsp : sp = none := by
      obtain ⟨cs', hc, ht'⟩ := hi 0 (by omega)
      obtain ⟨_, hcl, hat⟩ := World.cells?_some hc
      obtain ⟨E, rfl, _⟩ := ent_of_cells hcl ht'
      have h0 := hat 0 (by omega)
      simpa [Addr.add] using World.cell?_spot (h0.trans (show (enC E).toList[0]? = some _ from rfl))
    subst hsp
    obtain ⟨l, hll, hp⟩ := ents_list (len := len0) (p := fun i E => b < W.heap.size ∧ (∀ k u, (enC E)[k]? = some u → W.cell? ⟨b, o + i * 7 + k, none⟩ = some u) ∧ E.bits < 256 ∧ E.um < 256 ∧ E.exp < 18446744073709551616) (fun i hil => by
      obtain ⟨cs', hc, ht'⟩ := hi i (by omega)
      obtain ⟨_, hcl, hat⟩ := World.cells?_some hc
      obtain ⟨E, rfl, w1, w2, w3⟩ := ent_of_cells hcl ht'
      have hall : ∀ k u, (enC E)[k]? = some u → W.cell? ⟨b, o + i * 7 + k, none⟩ = some u := fun k u hk => by
        have hk7 : k < 7 := by
          have := (Array.getElem?_eq_some_iff.1 hk).1
          simpa [enC, entCells] using this
        have h1 := hat k hk7
        rw [Addr.add_lit, Addr.add_lit] at h1
        rw [h1, ← hk]
        simp
      exact ⟨E, block_lt_of_cell (hall 0 _ rfl), hall, w1, w2, w3⟩)
    refine ⟨_, l, hcs, ⟨⟨_, _, by rw [hll]⟩, fun j hj => ?_, fun e he => ?_⟩, by rw [hll]; omega⟩
    · obtain ⟨hb, h1, _⟩ := hp j hj
      exact ⟨b, o, _, by rw [hll], hb, h1 0 _ rfl, h1 1 _ rfl, h1 2 _ rfl, h1 3 _ rfl, h1 4 _ rfl, h1 5 _ rfl, h1 6 _ rfl⟩
    · obtain ⟨j, hj, rfl⟩ := List.getElem_of_mem he
      exact (hp j hj).2.2

set_option maxRecDepth 100000 in
/-- Two cells that read as a transaction. -/
theorem bat_of_cells {n : Nat} {cs : List Value} {x : DataW H × List MemPlace} (hl : cs.length = 2) (h : DataW.trod enc Tryz.prog W 0 (fun _ => true) true n 68 cs = some x) :
    ∃ (T : Nat) (u : Value) (l : List LEnt), cs = [.int .u64 (T : Int), u] ∧ T < 18446744073709551616 ∧ EntsR W u l ∧ l.length ≤ maxLen := by
  obtain ⟨xs, n, _, hx, _, hlen, hfl⟩ := DataW.trod_struct Tryz.underlying68 h
  match cs, hl, xs, hlen with
  | [c0, c1], _, [y0, y1], _ =>
    obtain ⟨T, e0, rfl, w0⟩ := DataW.trod_int Tryz.underlying28 (show DataW.trod enc Tryz.prog W 0 (fun _ => true) true n 28 _ = some y0 from hfl 0 _ rfl)
    obtain ⟨u, l, e1, h1, h2⟩ := ents_of_cells (show DataW.trod enc Tryz.prog W 0 (fun _ => true) true n 23 _ = some y1 from hfl 1 _ rfl)
    simp [ecells_u64, ecells_ents] at e0 e1
    subst e0 e1
    obtain ⟨T, rfl, hT⟩ := nat_u64 w0
    exact ⟨T, _, l, rfl, hT, h1, h2⟩

theorem bats_list {α : Type} {len : Nat} {p : Nat → α → Prop} (h : ∀ i, i < len → ∃ E, p i E) : ∃ l : List α, l.length = len ∧ ∀ i (hi : i < l.length), p i l[i] := by
  induction len with
  | zero => exact ⟨[], rfl, fun i hi => by simp at hi⟩
  | succ n ih =>
    obtain ⟨l, hl, hp⟩ := ih fun i hi => h i (by omega)
    obtain ⟨E, hE⟩ := h n (by omega)
    refine ⟨l ++ [E], by simp [hl], fun i hi => ?_⟩
    by_cases hin : i < l.length
    · rw [List.getElem_append_left hin]
      exact hp i hin
    · have hi2 : i = n := by simp at hi; omega
      subst hi2
      subst hl
      simpa using hE

set_option maxRecDepth 100000 in
/-- A slice of transactions as it is handed in. -/
theorem open_bats {r : Reach} {b0 : Nat} {v : Value} {d : DataW H} {p : List MemPlace} (hv : Value.okWide Tryz.prog W r b0 36 v)
    (h : DataW.Trod enc Tryz.prog W 0 (fun _ => true) true 36 v d p) : ∃ ts, BatsR W v ts ∧ ts.length ≤ maxLen := by
  obtain ⟨a0, len0, cap0, rfl⟩ := okWide_slice Tryz.underlying36 hv
  obtain ⟨fuel, hf⟩ := h
  rcases open_slice Tryz.underlying36 hf with ⟨h0, _⟩ | ⟨a, len, cap, m, n, D, Pl, hcs, _, hl, hm, hmm, _, hi⟩
  · simp only [Value.cells, List.cons.injEq, Value.slice.injEq, and_true] at h0
    obtain ⟨rfl, rfl, rfl⟩ := h0
    exact ⟨[], ⟨⟨none, 0, rfl⟩, fun j hj => by simp at hj, fun e he => (by cases he), fun e he => (by cases he)⟩, by simp⟩
  · simp only [Value.cells, List.cons.injEq, Value.slice.injEq, and_true] at hcs
    obtain ⟨rfl, rfl, rfl⟩ := hcs
    rw [if_pos rfl] at hmm
    subst hmm
    obtain ⟨b, o, sp⟩ := a
    rw [ecells_bat] at hi
    by_cases hz : len0 = 0
    · subst hz
      exact ⟨[], ⟨⟨_, _, rfl⟩, fun j hj => by simp at hj, fun e he => (by cases he), fun e he => (by cases he)⟩, by simp⟩
    have hsp : sp = none := by
      obtain ⟨cs', hc, ht'⟩ := hi 0 (by omega)
      obtain ⟨_, hcl, hat⟩ := World.cells?_some hc
      obtain ⟨T, u, l, rfl, _⟩ := bat_of_cells hcl ht'
      have h0 := hat 0 (by omega)
      simpa [Addr.add] using World.cell?_spot (h0.trans (show ([Value.int .u64 (T : Int), u] : List Value)[0]? = some _ from rfl))
    subst hsp
    obtain ⟨ts, hll, hp⟩ := bats_list (len := len0) (p := fun i (t : Nat × List LEnt) => ∃ u, b < W.heap.size ∧ W.cell? ⟨b, o + i * 2, none⟩ = some (.int .u64 (t.1 : Int)) ∧ W.cell? ⟨b, o + i * 2 + 1, none⟩ = some u ∧ EntsR W u t.2 ∧ t.1 < 18446744073709551616 ∧ t.2.length ≤ maxLen) (fun i hil => by
      obtain ⟨cs', hc, ht'⟩ := hi i (by omega)
      obtain ⟨_, hcl, hat⟩ := World.cells?_some hc
      obtain ⟨T, u, l, rfl, w1, w2, w3⟩ := bat_of_cells hcl ht'
      have h0 := hat 0 (by omega)
      have h1 := hat 1 (by omega)
      rw [Addr.add_lit, Addr.add_lit] at h0 h1
      exact ⟨(T, l), u, block_lt_of_cell (h0.trans rfl), h0, h1, w2, w1, w3⟩)
    refine ⟨ts, ⟨⟨_, _, by rw [hll]⟩, fun j hj => ?_, fun t ht => ?_, fun t ht => ?_⟩, by rw [hll]; omega⟩
    · obtain ⟨u, hb, h0, h1, h2, _⟩ := hp j hj
      exact ⟨b, o, _, u, by rw [hll], hb, h0, h1, h2⟩
    · obtain ⟨j, hj, rfl⟩ := List.getElem_of_mem ht
      obtain ⟨u, _, _, _, h2, h3, _⟩ := hp j hj
      exact ⟨h3, h2.wf⟩
    · obtain ⟨j, hj, rfl⟩ := List.getElem_of_mem ht
      obtain ⟨u, _, _, _, _, _, h3⟩ := hp j hj
      unfold maxLen at h3
      omega
end
end Go.Proofs.YtpndlcjilgcfkaaGreatDoor

namespace Go.Proofs.YtpndlcjilgcfkaaGreatDoor
open Go Go.RowKit
open Go.Proofs

/-- The fixed log's entry. -/
def eK : LEnt := ⟨[107], [], 0, 0, 0, 0, 0⟩
theorem eK_ok : EOk eK := ⟨by decide, by decide, by decide, by decide, by decide, by decide⟩

theorem ents_form2 {B : Nat} {w : World} {v : Value} {l : List LEnt} (h : Ents B w v l) : (v = .slice none 0 0 ∧ l = []) ∨ ∃ g c, v = .slice (some ⟨g, 0, none⟩) l.length c ∧ l.length ≤ c := by
  rcases h.2 with ⟨rfl, h1⟩ | ⟨g, cap, cur, rfl, _, _, h2, _⟩
  · exact .inl ⟨rfl, List.eq_nil_of_length_eq_zero h1⟩
  · exact .inr ⟨g, cap, rfl, h2⟩


set_option maxHeartbeats 8000000 in
set_option maxRecDepth 20000 in
theorem readsAll_any (b : List UInt8) (a : Nat) (bs : List (Nat × List LEnt)) (ve va : Value) (us : List Value) (B : Nat) (w W : World) (hm : LogMem w) (hb : Below w.heap.size w W) (hve : IntsO B W ve (bs.map Prod.fst)) (hva : EntsV B W va us (bs.map Prod.snd))
    (hne : ∀ t, t ∈ bs → t.2 ≠ []) (hbn : bs.length ≤ 1000) (hpre : wholeAt a bs <+: (readLog b).1) (hb20 : 20 ≤ b.length) (hbl : b.length ≤ 1000000) :
    Calls Tryz.prog 17 #[.string ⟨b.toArray⟩, .int .i64 (a : Int), ve, va] W fun e w' => e = .returned (.bool true) ∧ Below W.heap.size W w' := by
  obtain ⟨n, hn⟩ : ∃ n, bs.length = n := ⟨_, rfl⟩
  have hve1 : W.ownsRow B 3 1 ve n (intCs (bs.map Prod.fst)) := by
    have h := hve
    unfold IntsO at h
    rw [List.length_map, hn] at h
    exact h
  have hva1 := hva.row
  rw [List.length_map, hn] at hva1
  obtain ⟨a2, c2, rfl⟩ := own_formN hve1
  obtain ⟨a3, c3, rfl⟩ := own_formN hva1
  have hspec := fun W => Lib.hid (specReadLog_any b W (by omega) (by omega))
  have hcount := readLog_count b (by omega)
  obtain ⟨WH, hWH⟩ : ∃ L, wholeAt a bs = L := ⟨_, rfl⟩
  rw [hWH] at hpre
  have hWl : WH.length ≤ b.length := Nat.le_trans hpre.length_le hcount
  have hWj : ∀ j, (wholeAt a (bs.take j)).length ≤ WH.length := fun j => by
    have h := wholeAt_append a (bs.take j) (bs.drop j)
    rw [List.take_append_drop, hWH] at h
    rw [h, List.length_append]
    omega
  clear hve
  have hm' := Lib.hid hm
  have hb' := Lib.hid hb
  have hva' := Lib.hid hva
  have hne' := Lib.hid hne
  have hpre' := Lib.hid hpre
  have hn' := Lib.hid hn
  have hve1' := Lib.hid hve1
  have hva1' := Lib.hid hva1
  have hcount' := Lib.hid hcount
  have hWH' := Lib.hid hWH
  have hWj' := Lib.hid hWj
  clear hWj hWH hcount hva1 hve1 hn hpre hne hva hb hm
  go_enter Tryz.func17, Tryz.ntmps17
  go_wp2_with fail
  go_loopw [9, 23] (fun s9 s23 wx => ∃ j : Nat, j ≤ n ∧ s23 = .int .i64 (j : Int) ∧ Ents W.heap.size wx s9 (wholeAt a (bs.take j)) ∧ Below W.heap.size W wx) (fun _ s23 _ => n - (intOf s23).toNat)
  case atStart => exact ⟨0, Nat.zero_le _, rfl, by simpa [wholeAt] using Ents.nil _ _, Below.refl _ _⟩
  case round =>
    obtain ⟨j, hj, rfl, hx, hbj⟩ := hrel
    by_cases hlt : j < n
    · have hltI : (j : Int) < (n : Int) := by omega
      have hjl : j < bs.length := by have := hn'.out; omega
      have hI : (intCs (bs.map Prod.fst))[j]? = some (.int .i64 ((bs[j].1 : Nat) : Int)) := by simp [intCs, hjl]
      obtain ⟨g2, k2, he2, hg2, -, cI⟩ := own_cell1 (own_below hve1'.out hbj (Nat.le_refl _)) hI
      have hA2 : a2 = some ⟨g2, 0, none⟩ := by injection he2
      clear he2
      subst hA2
      obtain ⟨u, hu⟩ : ∃ u, us[j]? = some u := ⟨_, List.getElem?_eq_getElem (by rw [hva'.out.len, List.length_map]; exact hjl)⟩
      obtain ⟨g3, k3, he3, hg3, -, cU⟩ := own_cell1 (own_below hva1'.out hbj (Nat.le_refl _)) hu
      have hA3 : a3 = some ⟨g3, 0, none⟩ := by injection he3
      clear he3
      subst hA3
      have hue := (hva'.out.below hbj (Nat.le_refl _)).each j (by rw [List.length_map]; exact hjl) u hu
      rw [show (bs.map Prod.snd)[j]'(by rw [List.length_map]; exact hjl) = bs[j].2 by simp] at hue
      have hE2 := hne'.out _ (List.getElem_mem hjl)
      have hWt := wholeAt_take a hjl
      have hXn := hWj'.out j
      have hXn1 := hWj'.out (j + 1)
      obtain ⟨E, hE⟩ : ∃ E, bs[j] = E := ⟨_, rfl⟩
      rw [hE] at cI hue hE2 hWt
      obtain ⟨e, l⟩ := E
      simp only at cI hue hE2 hWt
      obtain ⟨X, hX⟩ : ∃ X, wholeAt a (bs.take j) = X := ⟨_, rfl⟩
      rw [hX] at hx hWt hXn
      obtain ⟨A5, c5, rfl⟩ := ents_form hue
      obtain ⟨g5, hA5, -⟩ := hue.cell (j := 0) (i := 0) (by cases l with | nil => exact absurd rfl hE2 | cons x r => simp) (by omega)
      subst hA5
      by_cases hle : e ≤ a
      · have hleI : (e : Int) ≤ (a : Int) := by omega
        rw [if_pos hle] at hWt
        rw [hWt, List.length_append] at hXn1
        have hcells := World.ownsRow.cells hue (g := g5) rfl
        have hone2 := entCs_one l
        have hlen2 := entCs_length l
        obtain ⟨ax, cx, rfl⟩ := ents_form hx
        obtain ⟨K, hK⟩ : ∃ K, X.length = K := ⟨_, rfl⟩
        obtain ⟨m, hm5⟩ : ∃ m, l.length = m := ⟨_, rfl⟩
        rw [hK]
        have hx1 : wr.ownsRow W.heap.size 30 7 (.slice ax K cx) K (entCs X) := by
          have h := hx
          unfold Ents at h
          rw [hK] at h
          exact h
        rw [hm5] at hlen2 cU hue
        rw [hK, hm5] at hXn1
        have hx' := Lib.hid hx
        have hbj' := Lib.hid hbj
        have hE' := Lib.hid hE
        have hue' := Lib.hid hue
        have hE2' := Lib.hid hE2
        have hWt' := Lib.hid hWt
        have hX' := Lib.hid hX
        have hcells' := Lib.hid hcells
        have hone2' := Lib.hid hone2
        have hlen2' := Lib.hid hlen2
        have hx1' := Lib.hid hx1
        have hI' := Lib.hid hI
        have hu' := Lib.hid hu
        have hK' := Lib.hid hK
        have hm5' := Lib.hid hm5
        clear hm5 hK hu hI hx1 hlen2 hone2 hcells hX hWt hE2 hue hE hbj hx
        go_wp2_with (at_builtin; refine wpList_appendN rfl (.tmp 31) (.tmp 35) 23 rfl W.heap.size 30 7 Tryz.underlying23 (by kernel_rfl) (by omega) _ K (entCs X) rfl hx1'.out ⟨g5, 0, none⟩ m c5 (entCs l) rfl hlen2'.out hcells'.out hone2'.out (by omega) hbj'.out.size ?_; intro A' c' w4 hown4 hch4x hloc4; have hch4 : Ch (Value.slice ax K cx).ownBlock.toList _ w4 := hch4x; clear hch4x; have hown4' := Lib.hid hown4; have hch4' := Lib.hid hch4; clear hown4 hch4)
        go_roundw
        case rel =>
          refine ⟨j + 1, by omega, by go_num, ?_, ?_⟩
          · rw [hWt'.out]
            unfold Ents
            rw [entCs_append, List.length_append, hK'.out, hm5'.out]
            exact hown4'.out
          · exact ((Ch.of_below hbj'.out).trans' hch4'.out (S := []) (fun k hk => .inr (World.ownsRow.lt hx1'.out k (by simpa using hk)).1)).below_nil
        case measure => simp [intOf]; omega
      · have hleI : ¬ (e : Int) ≤ (a : Int) := by omega
        rw [if_neg hle, List.append_nil] at hWt
        have hx' := Lib.hid hx
        have hbj' := Lib.hid hbj
        have hE' := Lib.hid hE
        have hue' := Lib.hid hue
        have hE2' := Lib.hid hE2
        have hWt' := Lib.hid hWt
        have hX' := Lib.hid hX
        have hI' := Lib.hid hI
        have hu' := Lib.hid hu
        clear hu hI hX hWt hE2 hue hE hbj hx
        go_wp2_with fail
        go_roundw
        case rel => exact ⟨j + 1, by omega, by go_num, by rw [hWt'.out]; exact hx'.out, hbj'.out⟩
        case measure => simp [intOf]; omega
    · obtain rfl : j = n := by omega
      have hT : bs.take j = bs := List.take_of_length_le (by have := hn'.out; omega)
      rw [hT, hWH'.out] at hx
      obtain ⟨ax, cx, rfl⟩ := ents_form hx
      obtain ⟨K, hK⟩ : ∃ K, WH.length = K := ⟨_, rfl⟩
      rw [hK] at hx hWl
      rw [hK]
      have hx' := Lib.hid hx
      have hbj' := Lib.hid hbj
      have hT' := Lib.hid hT
      have hK' := Lib.hid hK
      clear hK hT hbj hx
      go_wp2_with fail
      refine (hspec _).out.mono ?_
      rintro e w1 ⟨vW, rfl, hvW, hb1⟩
      have hbA := below_call_ hb1 hbj'.out
      have hbA0 := below_step hb'.out hb'.out.size hbA
      have hx1 := hx'.out.below hb1 (Nat.le_refl _)
      obtain ⟨L, hL⟩ : ∃ L, (readLog b).1 = L := ⟨_, rfl⟩
      obtain ⟨F, hF⟩ : ∃ F, (readLog b).2.1 = F := ⟨_, rfl⟩
      rw [hL] at hvW
      rw [hF]
      have hcn := hcount'.out
      rw [hL] at hcn
      have hpr := hpre'.out
      rw [hL] at hpr
      cases ha : (readLog b).2.2 with
      | false =>
        have hvW' := Lib.hid hvW
        have hb1' := Lib.hid hb1
        have hbA' := Lib.hid hbA
        have hbA0' := Lib.hid hbA0
        have hL' := Lib.hid hL
        have hF' := Lib.hid hF
        have ha' := Lib.hid ha
        have hx1' := Lib.hid hx1
        have hpr' := Lib.hid hpr
        clear hpr hx1 ha hF hL hbA0 hbA hb1 hvW
        go_wp2_with fail
        go_ret
        exact ⟨rfl, hbA'.out⟩
      | true =>
        have hcall := hm'.out.call hbA0 b ha (by omega) (by omega)
        have hvW' := Lib.hid hvW
        have hb1' := Lib.hid hb1
        have hbA' := Lib.hid hbA
        have hbA0' := Lib.hid hbA0
        have hL' := Lib.hid hL
        have hF' := Lib.hid hF
        have ha' := Lib.hid ha
        have hx1' := Lib.hid hx1
        have hpr' := Lib.hid hpr
        have hcall' := Lib.hid hcall
        clear hcall hpr hx1 ha hF hL hbA0 hbA hb1 hvW
        go_wp2_with fail
        refine hcall'.out.mono ?_
        rintro e w2 ⟨vG, rfl, hv2, hb2⟩
        rw [hL'.out] at hv2
        rw [hF'.out]
        have hbB := below_call_ hb2 hbA'.out
        have hbB0 := below_step hb'.out hb'.out.size hbB
        obtain ⟨C, hC⟩ : ∃ C, zeros20 ++ bytesL [eK] = C := ⟨_, rfl⟩
        have hrd : readLog C = (placed 20 [eK], 20 + (bytesL [eK]).length, true) := by
          rw [← hC]
          exact zeros_read [eK] (fun e he => by
            simp at he
            subst he
            exact ⟨eK_ok, by decide, by decide⟩)
        have hblK : (bytesL [eK]).length ≤ 1000 := by decide +kernel
        have hCl : C.length = 20 + (bytesL [eK]).length := by rw [← hC, List.length_append]; rfl
        have hlog := logOf_any w2.heap.size [eK] (.slice (some ⟨w2.heap.size, 0, none⟩) 1 1) (w2.alloc (.cells (enC eK) 30)) (ents_new (Bk.at_ _ _ _ _ rfl)) (by simp) (fun e he => by
          simp at he
          subst he
          exact ⟨by decide, by decide, by decide, by decide, by decide⟩) (by omega)
        rw [hC] at hlog
        obtain ⟨FK, hFK⟩ : ∃ n, 20 + (bytesL [eK]).length = n := ⟨_, rfl⟩
        obtain ⟨PK, hPK⟩ : ∃ P, placed 20 [eK] = P := ⟨_, rfl⟩
        have hPl : PK.length = 1 := by rw [← hPK]; rfl
        rw [hFK, hPK] at hrd
        rw [hFK] at hCl
        have hFKl : FK ≤ 1020 := by omega
        have hFK20 : 20 ≤ FK := by omega
        have hv2' := Lib.hid hv2
        have hbB' := Lib.hid hbB
        have hbB0' := Lib.hid hbB0
        have hb2' := Lib.hid hb2
        have hC' := Lib.hid hC
        have hrd' := Lib.hid hrd
        have hlog' := Lib.hid hlog
        have hFK' := Lib.hid hFK
        have hPK' := Lib.hid hPK
        have hblK' := Lib.hid hblK
        clear hblK hPK hFK hlog hrd hC hb2 hbB0 hbB hv2
        go_wp2_with fail
        refine hlog'.out.mono ?_
        rintro e w3 ⟨rfl, hb3⟩
        have hbC := below_call_ hb3 (below_alloc_ hbB'.out _)
        have hbC0 := below_step hb'.out hb'.out.size hbC
        have hcall2 := hm'.out.call hbC0 C (by rw [hrd'.out]) (by omega) (by omega)
        have hb3' := Lib.hid hb3
        have hbC' := Lib.hid hbC
        have hbC0' := Lib.hid hbC0
        have hcall2' := Lib.hid hcall2
        clear hcall2 hbC0 hbC hb3
        go_wp2_with fail
        refine hcall2'.out.mono ?_
        rintro e w4 ⟨v4, rfl, hv4, hb4⟩
        rw [hrd'.out] at hv4 ⊢
        obtain ⟨A4, c4, rfl⟩ := ents_form hv4
        have hw4 : Below w2.heap.size w2 w4 := below_call_ hb4 (below_call_ hb3'.out (below_alloc_ (Below.refl _ _) _))
        have hw14 : Below w1.heap.size w1 w4 := below_call_ hw4 hb2'.out
        have hbD := below_call_ hb4 hbC'.out
        have hFF : ((F : Int) == (F : Int)) = true := by simp
        have hv24 := hv2'.out.below hw4 (Nat.le_refl _)
        have hvW4 := hvW'.out.below hw14 (Nat.le_refl _)
        have hx4 := hx1'.out.below hw14 (Nat.le_refl _)
        have hKL : K ≤ L.length := by have := hpr'.out.length_le; have := hK'.out; omega
        have hTk : L.take K = WH := by
          rw [← hK'.out]
          exact (List.prefix_iff_eq_take.1 hpr'.out).symm
        rw [hPl]
        clear hCl hFKl hFK20
        rcases ents_form2 hv24 with ⟨rfl, hL0⟩ | ⟨gG, cG0, rfl, hcG⟩
        · obtain rfl : K = 0 := by rw [hL0] at hKL; simpa using hKL
          obtain ⟨LL, hLL⟩ : ∃ n, L.length = n := ⟨_, rfl⟩
          obtain rfl : LL = 0 := by rw [← hLL, hL0]; rfl
          have hgot4 := Ents.take hv24 0 (Nat.zero_le _)
          rw [hTk] at hgot4
          have hv4' := Lib.hid hv4
          have hb4' := Lib.hid hb4
          have hw4' := Lib.hid hw4
          have hw14' := Lib.hid hw14
          have hbD' := Lib.hid hbD
          have hvW4' := Lib.hid hvW4
          have hx4' := Lib.hid hx4
          have hv24' := Lib.hid hv24
          have hgot4' := Lib.hid hgot4
          have hTk' := Lib.hid hTk
          have hL0' := Lib.hid hL0
          have hLL' := Lib.hid hLL
          clear hLL hL0 hTk hgot4 hv24 hx4 hvW4 hbD hw14 hw4 hb4 hv4
          --<
          have hsame1 := lSame_any _ _ WH (.slice none 0 0) (.slice ax 0 cx) w4 hgot4'.out hx4'.out (by have := hK'.out; omega)
          have hsame2 := fun W1 (h : Below w4.heap.size w4 W1) => lSame_any _ _ L (.slice none 0 0) vW W1 (hv24'.out.below h (Nat.le_refl _)) (hvW4'.out.below h (Nat.le_refl _)) (by have := hLL'.out; omega)
          have hsame1' := Lib.hid hsame1
          have hsame2' := Lib.hid hsame2
          clear hsame2 hsame1
          go_wp2_with (first | (go_at_call 10; have hh := hsame1'.out; with_reducible refine hh.mono ?_; clear hh; rintro e w5 ⟨rfl, hb5⟩) | (go_at_call 10; have hh := hsame2'.out _ hb5; with_reducible refine hh.mono ?_; clear hh; rintro e w6 ⟨rfl, hb6⟩))
          go_ret
          exact ⟨rfl, below_call_ hb6 (below_call_ hb5 hbD'.out)⟩
          -->
        · obtain ⟨LL, hLL⟩ : ∃ n, L.length = n := ⟨_, rfl⟩
          have hgot4 := Ents.take hv24 K hKL
          rw [hTk] at hgot4
          rw [hLL] at hv24 hcG hKL hcn
          rw [hLL]
          have hKI : (K : Int) ≤ (LL : Int) := by omega
          have hKc : (K : Int) ≤ (cG0 : Int) := by omega
          have hK0 : (0 : Int) ≤ (K : Int) := by omega
          have hv4' := Lib.hid hv4
          have hb4' := Lib.hid hb4
          have hw4' := Lib.hid hw4
          have hw14' := Lib.hid hw14
          have hbD' := Lib.hid hbD
          have hvW4' := Lib.hid hvW4
          have hx4' := Lib.hid hx4
          have hv24' := Lib.hid hv24
          have hgot4' := Lib.hid hgot4
          have hTk' := Lib.hid hTk
          have hLL' := Lib.hid hLL
          clear hLL hTk hgot4 hv24 hx4 hvW4 hbD hw14 hw4 hb4 hv4
          --<
          have hsame1 := lSame_any _ _ WH (.slice (some ⟨gG, 0, none⟩) K cG0) (.slice ax K cx) w4 hgot4'.out hx4'.out (by have := hK'.out; omega)
          have hsame2 := fun W1 (h : Below w4.heap.size w4 W1) => lSame_any _ _ L (.slice (some ⟨gG, 0, none⟩) LL cG0) vW W1 (hv24'.out.below h (Nat.le_refl _)) (hvW4'.out.below h (Nat.le_refl _)) (by have := hLL'.out; omega)
          have hsame1' := Lib.hid hsame1
          have hsame2' := Lib.hid hsame2
          clear hsame2 hsame1
          go_wp2_with (first | (go_at_call 10; have hh := hsame1'.out; with_reducible refine hh.mono ?_; clear hh; rintro e w5 ⟨rfl, hb5⟩) | (go_at_call 10; have hh := hsame2'.out _ hb5; with_reducible refine hh.mono ?_; clear hh; rintro e w6 ⟨rfl, hb6⟩))
          go_ret
          exact ⟨rfl, below_call_ hb6 (below_call_ hb5 hbD'.out)⟩
          -->
end Go.Proofs.YtpndlcjilgcfkaaGreatDoor

namespace Go.Proofs.YtpndlcjilgcfkaaGreatDoor
open Go Go.RowKit
open Go.Proofs

theorem zcall_ {W W' : World} {b : Nat} (h2 : Below W.heap.size W W') (h : Bs W b 0 zeros20) : Bs W' b 0 zeros20 := h.below h2 (h.lt (by decide))

set_option maxHeartbeats 4000000 in
set_option maxRecDepth 20000 in
theorem rAwake_any (w W : World) (hm : LogMem w) (hb : Below w.heap.size w W) :
    Calls Tryz.prog 16 #[] W fun e w' => e = .returned (.bool true) ∧ Below W.heap.size W w' := by
  obtain ⟨C, hC⟩ : ∃ C, zeros20 ++ bytesL [eKV] = C := ⟨_, rfl⟩
  have hrd : readLog C = (placed 20 [eKV], 20 + (bytesL [eKV]).length, true) := by
    rw [← hC]
    exact zeros_read [eKV] (fun e he => by
      simp at he
      subst he
      exact ⟨eKV_ok, by decide, by decide⟩)
  have hbl2 : (bytesL [eKV]).length ≤ 1000 := by decide +kernel
  have hCl : C.length = 20 + (bytesL [eKV]).length := by rw [← hC, List.length_append]; rfl
  have hread : ∀ W', Below w.heap.size w W' → Calls Tryz.prog 8 #[.string ⟨C.toArray⟩] W' fun e w' => ∃ (g c n : Nat), e = .returned (.tuple #[.slice (some ⟨g, 0, none⟩) 1 c, .int .u32 (n : Int), .bool true]) ∧ w'.cell? ⟨g, 0, none⟩ = some (.string ⟨#[107]⟩) ∧ w'.cell? ⟨g, 1, none⟩ = some (.string ⟨#[118]⟩) ∧ Below W'.heap.size W' w' := fun W' hb' => by
    refine (hm.call hb' C (by rw [hrd]) (by omega) (by omega)).mono ?_
    rintro e w' ⟨v, rfl, hv, hb1⟩
    rw [hrd] at hv ⊢
    obtain ⟨A, c, rfl⟩ := ents_form hv
    obtain ⟨g, rfl, -, c0, c1, -⟩ := hv.cells7 (j := 0) (by simp [placed])
    rw [Nat.zero_mul] at c0 c1
    exact ⟨g, c, _, rfl, c0, c1, hb1⟩
  obtain ⟨Q, hQ⟩ : ∃ Q, eBytes eKV = Q := ⟨_, rfl⟩
  have hZQ : zeros20 ++ Q = C := by rw [← hC, ← hQ]; simp [bytesL]
  have hQl : Q.length ≤ 1000 := by rw [← hQ]; simpa [bytesL] using hbl2
  have hcat : ByteArray.mk zeros20.toArray ++ ByteArray.mk Q.toArray = ⟨C.toArray⟩ := by rw [← hZQ]; exact mkapp
  have hent : ∀ W, Calls Tryz.prog 13 #[.agg #[Value.string ⟨#[107]⟩, .string ⟨#[118]⟩, .int .u8 0, .int .u8 0, .int .u64 0, .int .u32 0, .int .u32 0]] W fun e w' => e = .returned (.string ⟨Q.toArray⟩) ∧ Below W.heap.size W w' := by
    rw [← hQ]
    exact fun W => implLogEntry_any ⟨#[107]⟩ ⟨#[118]⟩ 0 0 0 0 0 (by decide) (by decide) (by omega) (by omega) (by omega) W
  have hs1 : (ByteArray.mk zeros20.toArray).size = 20 := rfl
  have hs2 : (ByteArray.mk Q.toArray).size = Q.length := by simp [ByteArray.size]
  have hsum : ¬ 9223372036854775807 < 20 + Q.length := by omega
  have hmk := run_mkB2 .i64 .i64 20 20 rfl (by omega)
  obtain ⟨Z, hZ⟩ : ∃ Z, List.replicate 20 (Value.int .u8 0) = Z := ⟨_, rfl⟩
  rw [hZ] at hmk
  have zb : ∀ (W : World) (n : Nat), n = W.heap.size → Bs (W.alloc (.cells Z.toArray 5)) n 0 zeros20 := fun W n hn => bs_zeros (by rw [hZ]; exact Bk.at_ _ _ _ _ hn)
  have hconv : ∀ (W : World) (b : Nat), Bs W b 0 zeros20 → (convert 22 9 (.slice (some ⟨b, 0, none⟩) 20 20)).run Tryz.prog W = .ok (.string ⟨zeros20.toArray⟩) W :=
    fun W b h => run_b2s W _ _ 5 Tryz.underlying22 Tryz.underlying5 Tryz.underlying9 _ _ _ _ _ rfl h
  have hread' := fun W h => Lib.hid (hread W h)
  have hent' := fun W => Lib.hid (hent W)
  clear hread hent
  have hm' := Lib.hid hm
  have hb' := Lib.hid hb
  have hC' := Lib.hid hC
  have hrd' := Lib.hid hrd
  have hbl2' := Lib.hid hbl2
  have hCl' := Lib.hid hCl
  have hQ' := Lib.hid hQ
  have hZQ' := Lib.hid hZQ
  have hQl' := Lib.hid hQl
  have hZ' := Lib.hid hZ
  clear hZ hQl hZQ hQ hCl hbl2 hrd hC hb hm
  go_enter Tryz.func16, Tryz.ntmps16
  go_wp2_with fail
  go_region_with (first | (go_at_call 13; with_reducible refine (hent' _).out.mono ?_; rintro e w1 ⟨rfl, hb1⟩) | (go_at_call 8; (try rw [hcat]); with_reducible refine (hread' _ (by repeat (first | exact hb'.out | refine below_drew_ ?_ | refine below_alloc_ ?_ _ | refine below_call_ (by assumption) ?_))).out.mono ?_; rintro e w2 ⟨g, c, n, rfl, c0, c1, hb2⟩) | (rw [hconv _ _ (by first | exact zb _ _ rfl | exact Bs.drew (zb _ _ rfl) | exact zcall_ (by assumption) (zb _ _ rfl) | exact zcall_ (by assumption) (Bs.drew (zb _ _ rfl)))]; go_simp))
  all_goals
    go_wp2_with fail
    go_ret
    exact ⟨rfl, by repeat (first | exact Below.refl _ _ | refine below_drew_ ?_ | refine below_alloc_ ?_ _ | refine below_call_ (by assumption) ?_)⟩

/-- What stands whole in some transactions' log, cut or torn at a place. -/
theorem cut_prefix {ts : List (Nat × List LEnt)} {P : List UInt8} (hP : zeros20 ++ batsBytes (ts.map txB) = P) (hok : ∀ t, t ∈ ts.map txB → BOk t) (C : List UInt8) (a : Nat) (ha : 20 ≤ a) (hCl : a ≤ C.length) (hC : C.take a = P.take a) :
    wholeAt a (batsAt 20 (ts.map txB)) <+: (readLog C).1 :=
  whole_prefix C zeros20 (ts.map txB) a hok (by simp [zeros20]) ha hCl (by rw [hC, hP])

theorem okBs_parts {ts : List (Nat × List LEnt)} (h : okBs ts = true) : ts.length ≤ 10 ∧ ∀ t, t ∈ ts → okB t = true := by
  unfold okBs at h
  rw [Bool.and_eq_true, List.all_eq_true, decide_eq_true_eq] at h
  exact h
end Go.Proofs.YtpndlcjilgcfkaaGreatDoor
