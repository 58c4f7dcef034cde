/-
  A region that draws its order: loads are taken first where no operation that could come before them writes what they read; from operation z on that is asked no longer.
-/
import Derived.Deep.RegionHeld3
namespace Go.Proofs.YtkjgkjmaoebeoaaDoor
open Go

section
variable {P : Program} {ops : Array Oper} {Q : Exit → Act → World → Prop} {md : Region.Mode} {S1 S2 : World → Prop} {z : Nat}

/-- What holds while these have come up: S2, and S1 till number z has come up. -/
def heldTill (S1 S2 : World → Prop) (z : Nat) (listed : Array Bool) (w : World) : Prop := (listed.getD z false = false → S1 w) ∧ S2 w
/-- What a load may lean on. -/
def heldBy (S1 S2 : World → Prop) (one : Bool) (w : World) : Prop := (one = true → S1 w) ∧ S2 w

/-- Whatever order is picked, and that holds behind each operation. -/
def wpAnyD (P : Program) (md : Region.Mode) (ops : Array Oper) (Q : Exit → Act → World → Prop) (S1 S2 : World → Prop) (z : Nat) : Nat → Array Bool → Act → World → Prop
  | 0, listed, a, w => Region.ready md ops listed = [] ∧ Q .normal a w
  | fuel + 1, listed, a, w =>
    (Region.ready md ops listed = [] → Q .normal a w) ∧
    ∀ i ∈ Region.ready md ops listed, wpOp P ops Q i (fun a' w' => heldTill S1 S2 z (listed.setIfInBounds i true) w' ∧ wpAnyD P md ops Q S1 S2 z fuel (listed.setIfInBounds i true) a' w') a w

theorem wpAny_of_dem : ∀ (fuel : Nat) (listed : Array Bool) (a : Act) (w : World), wpAnyD P md ops Q S1 S2 z fuel listed a w → wpAny P md ops Q fuel listed a w
  | 0, _, _, _, h => h
  | fuel + 1, _, _, _, h => ⟨h.1, fun i hi => wpOp_mono (fun a' w' h' => wpAny_of_dem fuel _ a' w' h'.2) (h.2 i hi)⟩

/-- Number z waits for number i. -/
def waits (md : Region.Mode) (ops : Array Oper) (z i : Nat) : Bool := ((ops[z]?).map (fun o => o.after.any fun e => Region.binds md e && e.on == i)).getD true
theorem waits_spec {i : Nat} (h : waits md ops z i = true) (oj : Oper) (hj : ops[z]? = some oj) : ∃ e ∈ oj.after, Region.binds md e = true ∧ e.on = i := by
  unfold waits at h
  simp only [hj, Option.map_some, Option.getD_some, Array.any_eq_true] at h
  obtain ⟨k, hk, he⟩ := h
  simp only [Bool.and_eq_true, beq_iff_eq] at he
  exact ⟨_, Array.getElem_mem hk, he.1, he.2⟩

theorem heldTill.by {one : Bool} {listed : Array Bool} {w : World} (h : heldTill S1 S2 z listed w) (h1 : one = true → listed.getD z false = false) : heldBy S1 S2 one w := ⟨fun ho => h.1 (h1 ho), h.2⟩
theorem heldTill.set {i : Nat} {listed : Array Bool} {w : World} (hz : i ≠ z) : heldTill S1 S2 z (listed.setIfInBounds i true) w ↔ heldTill S1 S2 z listed w := by
  unfold heldTill
  rw [getD_set_ne false hz]

theorem wpAnyD_first {i : Nat} {oi : Oper} {v : Value} (one : Bool) (hi : ops[i]? = some oi) (hsel : ∀ (j : Nat) (o : Oper) cs b, ops[j]? = some o → o.op ≠ .select cs b)
    (hQ : ∀ c a w, Q (.panic c) (a.put oi.dst v) w → Q (.panic c) a w) (hz : i ≠ z)
    (hD : one = true → ∀ oj, ops[z]? = some oj → ∃ e ∈ oj.after, Region.binds md e = true ∧ e.on = i) :
    ∀ (fuel : Nat) (listed : Array Bool) (a : Act) (w : World),
      (∀ j oj, ops[j]? = some oj → j ≠ i → listed.getD j true = false → (∀ e ∈ oj.after, Region.binds md e = true → e.on ≠ i) → oi.apart ops oj = true) →
      i ∈ Region.ready md ops listed → YieldsIf P ops (heldBy S1 S2 one) oi v a → heldTill S1 S2 z listed w → (one = true → listed.getD z false = false) →
      wpAnyD P md ops Q S1 S2 z fuel (listed.setIfInBounds i true) (a.put oi.dst v) w → wpAnyD P md ops Q S1 S2 z (fuel + 1) listed a w := by
  intro fuel
  induction fuel with
  | zero =>
    intro listed a w _ hr hy hS h1 H
    refine ⟨fun h => (by rw [h] at hr; cases hr), fun j hj => ?_⟩
    by_cases hji : j = i
    · subst hji; exact hy.wpOp hi (hS.by h1) ⟨(heldTill.set hz).2 hS, H⟩
    · have := ready_mono hj hji
      rw [H.1] at this
      cases this
  | succ fuel ih =>
    intro listed a w hfree hr hy hS hone H
    refine ⟨fun h => (by rw [h] at hr; cases hr), fun j hj => ?_⟩
    by_cases hji : j = i
    · subst hji; exact hy.wpOp hi (hS.by hone) ⟨(heldTill.set hz).2 hS, H⟩
    · have h1 := H.2 j (ready_mono hj hji)
      obtain ⟨hjun, oj, hoj, hall⟩ := mem_ready.1 hj
      have hnot : ∀ e ∈ oj.after, Region.binds md e = true → e.on ≠ i := fun e he hb heq => by
        have h1 := hall e he hb
        have h0 := (mem_ready.1 hr).1
        rw [heq] at h1
        rcases Nat.lt_or_ge i listed.size with h' | h'
        · simp [h'] at h0 h1; rw [h0] at h1; cases h1
        · simp [Array.getElem?_eq_none h'] at h1
      have hone' : one = true → (listed.setIfInBounds j true).getD z false = false := fun ho => by
        have hjz : j ≠ z := fun e => by
          subst e
          obtain ⟨e, he, hb, h⟩ := hD ho oj hoj
          exact hnot e he hb h
        rw [getD_set_ne false hjz]
        exact hone ho
      have h2 := wpOp_putIf hoj (hfree j oj hoj hji hjun hnot) (fun cs b => hsel i oi cs b hi) (fun cs b => hsel j oj cs b hoj) hQ hy h1
      have hfree' : ∀ k ok, ops[k]? = some ok → k ≠ i → (listed.setIfInBounds j true).getD k true = false →
          (∀ e ∈ ok.after, Region.binds md e = true → e.on ≠ i) → oi.apart ops ok = true := fun k ok hk hki hun hno => by
        refine hfree k ok hk hki ?_ hno
        by_cases hjk : j = k
        · subst hjk; exact hjun
        · rw [getD_set_ne true hjk] at hun; exact hun
      refine wpOp_mono (fun a' w' h3 => ?_) h2
      have h4 : heldTill S1 S2 z (listed.setIfInBounds j true) w' := by
        have h5 := h3.2.1
        rw [Array.setIfInBounds_comm _ _ (Ne.symm hji)] at h5
        exact (heldTill.set hz).1 h5
      refine ⟨h4, ih (listed.setIfInBounds j true) a' w' hfree' (ready_mono hr (Ne.symm hji)) h3.1 h4 hone' ?_⟩
      rw [Array.setIfInBounds_comm _ _ hji]
      exact h3.2.2

theorem wpAnyD_take {i : Nat} {oi : Oper} {v : Value} {fuel : Nat} {listed : Array Bool} {a : Act} {w : World} (one : Bool) (d : Option Tmp) (hi : ops[i]? = some oi) (hd : oi.dst = d)
    (hs : Region.noSelect ops = true) (hz : (i != z) = true) (hw : (!one || waits md ops z i) = true) (hl : (!one || !(listed.getD z false)) = true) (hf : Region.free md ops listed i = true) (hr : (Region.ready md ops listed).contains i = true)
    (hQ : ∀ c a w, Q (.panic c) (a.put oi.dst v) w → Q (.panic c) a w) (hwt : Region.wanted oi (yielded ops a.tmps) = true) (hS : heldTill S1 S2 z listed w)
    (hy : ∀ w, heldBy S1 S2 one w → (execOp a.eval oi).run P w = .ok (.value v) w)
    (h : heldTill S1 S2 z (listed.setIfInBounds i true) w → wpAnyD P md ops Q S1 S2 z fuel (listed.setIfInBounds i true) (a.put d v) w) : wpAnyD P md ops Q S1 S2 z (fuel + 1) listed a w := by
  subst hd
  have hz' : i ≠ z := by simpa using hz
  refine wpAnyD_first one hi (Region.noSelect_spec hs) hQ hz' (fun ho => ?_) fuel listed a w (Region.free_spec hi hf) (by simpa using hr) (.inl ⟨hwt, hy⟩) hS (fun ho => ?_) (h ((heldTill.set hz').2 hS))
  · subst ho
    exact waits_spec (by simpa using hw)
  · subst ho
    simpa using hl

/-- Each of those that come up next. -/
def AllReadyD (P : Program) (md : Region.Mode) (ops : Array Oper) (Q : Exit → Act → World → Prop) (S1 S2 : World → Prop) (z : Nat) (fuel : Nat) (listed : Array Bool) (a : Act) (w : World) (rs : List Nat) : Prop :=
  ∀ i ∈ rs, wpOp P ops Q i (fun a' w' => heldTill S1 S2 z (listed.setIfInBounds i true) w' ∧ wpAnyD P md ops Q S1 S2 z fuel (listed.setIfInBounds i true) a' w') a w
theorem AllReadyD.nil {fuel : Nat} {listed : Array Bool} {a : Act} {w : World} : AllReadyD P md ops Q S1 S2 z fuel listed a w [] := fun _ h => by cases h
theorem AllReadyD.cons {fuel : Nat} {listed : Array Bool} {a : Act} {w : World} {i : Nat} {o : Oper} {rs : List Nat} (ho : ops[i]? = some o)
    (h : ∀ K' : Act → World → Prop, Shut (∀ a w, heldTill S1 S2 z (listed.setIfInBounds i true) w → (heldTill S1 S2 z (listed.setIfInBounds i true) w → wpAnyD P md ops Q S1 S2 z fuel (listed.setIfInBounds i true) a w) → K' a w) → if Region.wanted o (yielded ops a.tmps) = true then Oper.wp P o a w K' Q else K' (a.put o.dst undef) w)
    (hs : AllReadyD P md ops Q S1 S2 z fuel listed a w rs) : AllReadyD P md ops Q S1 S2 z fuel listed a w (i :: rs) := fun j hj => by
  rcases List.mem_cons.1 hj with rfl | hj
  · exact wpOp_step ho (fun K' hK => h K' (fun a w hS hW => hK a w ⟨hS, hW hS⟩))
  · exact hs j hj
theorem wpAnyD_ready {rs : List Nat} {fuel : Nat} {listed : Array Bool} {a : Act} {w : World} (hr : Region.ready md ops listed = rs) (hne : rs ≠ [])
    (h : AllReadyD P md ops Q S1 S2 z fuel listed a w rs) : wpAnyD P md ops Q S1 S2 z (fuel + 1) listed a w :=
  ⟨fun h0 => absurd (hr ▸ h0) hne, fun i hi => h i (hr ▸ hi)⟩
theorem wpAnyD_done {listed : Array Bool} {a : Act} {w : World} (hr : Region.ready md ops listed = []) (h : Q .normal a w) :
    ∀ fuel, wpAnyD P md ops Q S1 S2 z fuel listed a w
  | 0 => ⟨hr, h⟩
  | _ + 1 => ⟨fun _ => h, by rw [hr]; simp⟩
theorem wp_region_dem {id : Nat} {a : Act} {w : World} (S1 S2 : World → Prop) (z : Nat) (hm : P.follows .mixedOrders = true) (h1 : S1 w.drew) (h2 : S2 w.drew)
    (h : heldTill S1 S2 z (Array.replicate ops.size false) w.drew → wpAnyD P .any ops (NoPanic Q) S1 S2 z ops.size (Array.replicate ops.size false) a w.drew) : (Code.region id ops true).wp P Q a w :=
  wp_region_noPanic (wp_region_any hm (wpAny_of_dem _ _ _ _ (h ⟨fun _ => h1, h2⟩)))
end
end Go.Proofs.YtkjgkjmaoebeoaaDoor
