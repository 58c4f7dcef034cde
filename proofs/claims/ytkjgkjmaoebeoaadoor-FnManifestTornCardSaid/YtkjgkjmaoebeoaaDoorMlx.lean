/-
  impl.ManifestRead on what the law hands it.
-/
import Derived.Test.YtkjgkjmaoebeoaaDoorMis
import Derived.Test.YtkjgkjmaoebeoaaDoorMlc
import Derived.Test.YtkjgkjmaoebeoaaDoorMcs
import Derived.Test.YtkjgkjmaoebeoaaDoorMct
namespace Go.Proofs.YtkjgkjmaoebeoaaDoor
open Go Go.RowKit
open Go.Proofs

theorem setsB_mono (Ls : List (List Chg)) {i j : Nat} (h : i ≤ j) : (setsB (Ls.take i)).length ≤ (setsB (Ls.take j)).length := by
  have e : Ls.take i = (Ls.take j).take i := by rw [List.take_take, Nat.min_eq_left h]
  rw [e, setsB_split (Ls.take j) i, List.length_append]
  omega

theorem chgs_at {Ls : List (List RC)} {j : Nat} (h : j < Ls.length) : (chgs Ls).take (j + 1) = (chgs Ls).take j ++ [Ls[j].map RC.chg] := by
  unfold chgs
  rw [List.take_add_one, List.getElem?_map, List.getElem?_eq_getElem h]
  rfl
theorem chgs_len (Ls : List (List RC)) (j : Nat) : (chgs Ls).take j = chgs (Ls.take j) := by simp [chgs, List.map_take]
theorem sets_le {Ls : List (List RC)} (h : OkSets Ls) (j : Nat) : (setsB ((chgs Ls).take j)).length ≤ 448 * j := by
  induction j with
  | zero => simp [setsB]
  | succ j ih =>
    by_cases hj : j < Ls.length
    · rw [chgs_at hj]
      have h0 : setsB ((chgs Ls).take j ++ [Ls[j].map RC.chg]) = setsB ((chgs Ls).take j) ++ setB (Ls[j].map RC.chg) := by simp [setsB]
      obtain ⟨h1, h2, h3⟩ := h.each _ (List.getElem_mem hj)
      have h4 := bodyB_le (l := Ls[j].map RC.chg) (fun c hc => by
        obtain ⟨x, hx, rfl⟩ := List.mem_map.1 hc
        obtain ⟨k1, k2, k3, k4⟩ := h3 x hx
        exact ⟨by show x.id < _; omega, by show x.lev.toNat < _; omega⟩)
      rw [h0, List.length_append, setB_length]
      simp at h4
      omega
    · have e : (chgs Ls).take (j + 1) = (chgs Ls).take j := by
        rw [List.take_of_length_le (by simp [chgs]; omega), List.take_of_length_le (by simp [chgs]; omega)]
      rw [e]
      omega

theorem run_lev {b : Bok} {m : Nat} (hb : ∀ g v, b.f g = some v → v ≤ m) : ∀ l : List Chg, (∀ x, x ∈ l → x.lev ≤ m) → ∀ g v, (b.run l).f g = some v → v ≤ m
  | [], _, g, v, hg => hb g v hg
  | c :: l, hl, g, v, hg => by
    have hb' : ∀ g v, (b.step c).f g = some v → v ≤ m := fun g v hg => by
      unfold Bok.step at hg
      split at hg
      · simp only at hg
        split at hg
        · cases hg
        · exact hb g v hg
      · simp only at hg
        split at hg
        · injection hg with e
          rw [← e]
          exact hl c (by simp)
        · exact hb g v hg
    exact run_lev hb' l (fun x hx => hl x (by simp [hx])) g v hg

theorem ok_flat {Ls : List (List RC)} (h : OkSets Ls) (q : Nat) : ∀ x, x ∈ ((chgs Ls).take q).flatten → 1 ≤ x.id ∧ x.id < 1001 ∧ x.lev ≤ 6 := fun x hx => by
  obtain ⟨M, hM, hxM⟩ := List.mem_flatten.1 hx
  obtain ⟨M', hM2, rfl⟩ := List.mem_map.1 (List.mem_of_mem_take hM)
  obtain ⟨y, hy, rfl⟩ := List.mem_map.1 hxM
  obtain ⟨k1, k2, k3, k4⟩ := (h.each M' hM2).2.2 y hy
  exact ⟨k1, by show y.id < _; omega, by show y.lev.toNat ≤ _; omega⟩
theorem lims {Ls : List (List RC)} (h : OkSets Ls) (q : Nat) : ∀ g v, (bok0.run ((chgs Ls).take q).flatten).f g = some v → g < 1000000 ∧ v ≤ 6 := fun g v hg => by
  have h1 := run_has (b := bok0) (m := 1001) (fun g hg => by cases hg) _ (fun x hx => (ok_flat h q x hx).2.1) g (by rw [hg]; rfl)
  have h2 := run_lev (b := bok0) (m := 6) (fun g v hg => by cases hg) _ (fun x hx => (ok_flat h q x hx).2.2) g v hg
  exact ⟨by omega, h2⟩
theorem take_oks {Ls : List (List RC)} (h : OkSets Ls) (q : Nat) : ∀ j (hj : j < ((chgs Ls).take q).length), (bok0.run (((chgs Ls).take q).take j).flatten).oks ((chgs Ls).take q)[j] := fun j hj => by
  have hj' : j < q ∧ j < Ls.length := by
    have h0 : j < min q Ls.length := by simpa [chgs] using hj
    omega
  have h0 := h.oks j hj'.2
  have e1 : ((chgs Ls).take q).take j = chgs (Ls.take j) := by
    rw [List.take_take, Nat.min_eq_left (Nat.le_of_lt hj'.1)]
    simp [chgs, List.map_take]
  have e2 : ((chgs Ls).take q)[j] = Ls[j].map RC.chg := by simp [chgs]
  rw [e1, e2]
  exact h0
theorem take_lims {Ls : List (List RC)} (h : OkSets Ls) (q : Nat) : ∀ L, L ∈ (chgs Ls).take q → L.length ≤ 1000 ∧ ∀ x, x ∈ L → 1 ≤ x.id ∧ x.id < 1000000 ∧ x.lev ≤ 6 := fun L hL => by
  have hL' := List.mem_of_mem_take hL
  obtain ⟨M, hM, rfl⟩ := List.mem_map.1 hL'
  obtain ⟨k1, k2, k3⟩ := h.each M hM
  refine ⟨by rw [List.length_map]; omega, fun x hx => ?_⟩
  obtain ⟨y, hy, rfl⟩ := List.mem_map.1 hx
  obtain ⟨q1, q2, q3, q4⟩ := k3 y hy
  exact ⟨q1, by show y.id < _; omega, by show y.lev.toNat ≤ _; omega⟩
theorem take_few {Ls : List (List RC)} (h : OkSets Ls) (q : Nat) : ((chgs Ls).take q).length ≤ 100 := by
  have h0 := h.len
  rw [List.length_take]
  have : (chgs Ls).length = Ls.length := by simp [chgs]
  omega

/-- A manifest of these sets, cut anywhere behind its head. -/
theorem read_same {Ls : List (List RC)} {Cs : List (List Chg)} (h : OkSets Ls) (hCs : chgs Ls = Cs) (m q t : Nat) (l tail : List UInt8) (w W : World) (hgs : Gs w.heap.size w) (hC : Ch [] w W) (hm : m < 65536)
    (hl : l = headB m ++ (setsB (Cs.take q) ++ tail)) (hN : l.length = t) (ht : t ≤ 1000000) (hcut : CutT tail t) :
    Calls Tryd.prog 11 #[.string ⟨l.toArray⟩, .int .u16 (m : Int)] W fun e w' => RmOk (bok0.run (Cs.take q).flatten) (8 + (setsB (Cs.take q)).length) W e w' ∧ Ch [] W w' := by
  subst hCs
  refine (implManifestRead_any true false m m l tail [] ((chgs Ls).take q) W ((hgs.ch hC (by simp)).mono hC.size) (by omega) hm (lims h q) (fun h => by cases h) (fun _ => ⟨rfl, hl, take_oks h q, take_lims h q, take_few h q, .inr ⟨rfl, by rw [hN]; exact hcut⟩⟩)).mono ?_
  rintro e w' ⟨⟨_, _, h1⟩ | ⟨h1, _⟩, h2⟩
  · exact ⟨h1, h2⟩
  · rcases h1 with h1 | h1 <;> cases h1
/-- One whose check is wrong. -/
theorem read_bad {Ls : List (List RC)} {Cs : List (List Chg)} (h : OkSets Ls) (hCs : chgs Ls = Cs) (m q t : Nat) (l tail : List UInt8) (w W : World) (hgs : Gs w.heap.size w) (hC : Ch [] w W) (hm : m < 65536)
    (hl : l = headB m ++ (setsB (Cs.take q) ++ tail)) (hN : l.length = t) (ht : t ≤ 1000000) (hbad : BadT tail t) :
    Calls Tryd.prog 11 #[.string ⟨l.toArray⟩, .int .u16 (m : Int)] W fun e w' => RmNo e ∧ Ch [] W w' := by
  subst hCs
  refine (implManifestRead_any true true m m l tail [] ((chgs Ls).take q) W ((hgs.ch hC (by simp)).mono hC.size) (by omega) hm (lims h q) (fun h => by cases h) (fun _ => ⟨rfl, hl, take_oks h q, take_lims h q, take_few h q, .inl ⟨rfl, by rw [hN]; exact hbad⟩⟩)).mono ?_
  rintro e w' ⟨⟨_, h1, _⟩ | ⟨_, h1⟩, h2⟩
  · cases h1
  · exact ⟨h1, h2⟩
/-- One of another magic. -/
theorem read_other (m mg t : Nat) (l rest : List UInt8) (w W : World) (hgs : Gs w.heap.size w) (hC : Ch [] w W) (hm : m < 65536) (hmg : m ≠ mg)
    (hl : l = headB m ++ rest) (hN : l.length = t) (ht : t ≤ 1000000) :
    Calls Tryd.prog 11 #[.string ⟨l.toArray⟩, .int .u16 (mg : Int)] W fun e w' => RmNo e ∧ Ch [] W w' := by
  refine (implManifestRead_any false false m mg l [] rest [] W ((hgs.ch hC (by simp)).mono hC.size) (by omega) hm (fun g v hg => by cases hg) (fun _ => ⟨hl, hmg⟩) (fun h => by cases h)).mono ?_
  rintro e w' ⟨⟨h1, _⟩ | ⟨_, h1⟩, h2⟩
  · cases h1
  · exact ⟨h1, h2⟩
end Go.Proofs.YtkjgkjmaoebeoaaDoor
