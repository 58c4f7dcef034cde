/-
  Discard stats as a list of files and numbers, in the order of the files: plain laws of one step.
-/
import Derived.Sort.AssemblyPlain
import Derived.Test.YtjioghedokbgcaaDoorDisP
namespace Go.Proofs.YtjioghedokbgcaaDoor
open Go
open Go.Proofs

/-- In the order of the files, each once. -/
def Asc (d : List (Nat × Nat)) : Prop := d.Pairwise fun x y => x.1 < y.1

theorem lookup_none : ∀ {d : List (Nat × Nat)} {f : Nat}, (∀ x ∈ d, x.1 ≠ f) → d.lookup f = none
  | [], f, _ => rfl
  | (a, b) :: r, f, h => by
    have h1 : a ≠ f := h (a, b) (by simp)
    rw [List.lookup_cons, show (f == a) = false by simpa using Ne.symm h1]
    exact lookup_none fun x hx => h x (by simp [hx])

theorem lookup_mem : ∀ {d : List (Nat × Nat)} {f v : Nat}, Asc d → (d.lookup f = some v ↔ (f, v) ∈ d)
  | [], f, v, _ => by simp
  | (a, b) :: r, f, v, h => by
    have h1 := List.pairwise_cons.1 h
    rw [List.lookup_cons]
    by_cases e : f = a
    · subst e
      simp
      constructor
      · intro e; exact .inl e.symm
      · rintro (e | hm)
        · exact e.symm
        · exact absurd (h1.1 _ hm) (Nat.lt_irrefl _)
    · rw [show (f == a) = false by simpa using e]
      have := @lookup_mem r f v h1.2
      simp [this, e]

/-- Two lists that say the same of each file answer alike. -/
theorem lookup_eq {d d' : List (Nat × Nat)} (h : Asc d) (h' : Asc d') {g : Nat} (hm : ∀ v, (g, v) ∈ d ↔ (g, v) ∈ d') : d.lookup g = d'.lookup g := by
  apply Option.ext
  intro v
  rw [lookup_mem h, lookup_mem h', hm v]

theorem asc_get {d : List (Nat × Nat)} (h : Asc d) {i j : Nat} (hij : i < j) (hj : j < d.length) : (d[i]'(by omega)).1 < d[j].1 := List.pairwise_iff_getElem.1 h i j (by omega) hj hij

/-- What a step makes of a file's number. -/
def stepV (o : Option Nat) (N : Int) : Option Nat := if N < 0 then o.map fun _ => 0 else if N = 0 then o else some (o.getD 0 + N.toNat)

section
variable {d : Array (Nat × Nat)} {k f v : Nat}

theorem bang_get (d : Array (Nat × Nat)) {i : Nat} (h : i < d.size) : d[i]! = d.toList[i]'(by simpa using h) := by
  simp [h]

theorem found_law (h : Asc d.toList) (hk : k < d.size) (hf : d[k]!.1 = f) : d.toList.lookup f = some d[k]!.2 := by
  rw [lookup_mem h, ← hf, bang_get d hk]
  exact List.getElem_mem _

theorem found_set (h : Asc d.toList) (hk : k < d.size) (hf : d[k]!.1 = f) (v : Nat) : Asc (d.set! k (f, v)).toList ∧ ∀ g, (d.set! k (f, v)).toList.lookup g = if g = f then some v else d.toList.lookup g := by
  have hkl : k < d.toList.length := by simpa using hk
  have hfk : (d.toList[k]).1 = f := by rw [← bang_get d hk]; exact hf
  have e : (d.set! k (f, v)).toList = d.toList.set k (f, v) := by simp
  have key : ∀ i (hi : i < d.toList.length), ((d.toList.set k (f, v))[i]'(by simpa using hi)).1 = (d.toList[i]).1 := fun i hi => by
    rw [List.getElem_set]
    split
    · rename_i e; subst e; exact hfk.symm
    · rfl
  have hA : Asc (d.toList.set k (f, v)) := by
    refine List.pairwise_iff_getElem.2 fun i j hi hj hij => ?_
    rw [key i (by simpa using hi), key j (by simpa using hj)]
    exact asc_get h hij (by simpa using hj)
  rw [e]
  refine ⟨hA, fun g => ?_⟩
  split
  · rename_i eg
    subst eg
    rw [lookup_mem hA]
    exact List.mem_iff_getElem.2 ⟨k, by simpa using hk, by simp⟩
  · rename_i eg
    refine lookup_eq hA h fun u => ?_
    constructor
    · intro hm
      obtain ⟨i, hi, he⟩ := List.mem_iff_getElem.1 hm
      rw [List.getElem_set] at he
      split at he
      · injection he with e1; exact absurd e1.symm eg
      · exact List.mem_iff_getElem.2 ⟨i, by simpa using hi, he⟩
    · intro hm
      obtain ⟨i, hi, he⟩ := List.mem_iff_getElem.1 hm
      have hik : k ≠ i := fun e2 => by subst e2; rw [he] at hfk; exact eg hfk
      exact List.mem_iff_getElem.2 ⟨i, by simpa using hi, by rw [List.getElem_set_ne hik]; exact he⟩

theorem absent_law (h : Asc d.toList) (hk : k ≤ d.size) (h1 : k < d.size → f < d[k]!.1) (h2 : ∀ i, i + 1 = k → d[i]!.1 < f) : ∀ x ∈ d.toList, x.1 ≠ f := by
  intro x hx
  obtain ⟨i, hi, rfl⟩ := List.mem_iff_getElem.1 hx
  have hid : i < d.size := by simpa using hi
  rcases Nat.lt_or_ge i k with hik | hik
  · have h3 := h2 (k - 1) (by omega)
    rw [bang_get d (by omega)] at h3
    rcases Nat.lt_or_ge i (k - 1) with h4 | h4
    · have := asc_get h h4 (by simp; omega)
      omega
    · have : i = k - 1 := by omega
      subst this
      omega
  · have h3 := h1 (by omega)
    rw [bang_get d (by omega)] at h3
    rcases Nat.lt_or_ge k i with h4 | h4
    · have := asc_get h h4 (by simpa using hid)
      omega
    · have : i = k := by omega
      subst this
      omega

theorem sort_new (h : Asc d.toList) (hn : ∀ x ∈ d.toList, x.1 ≠ f) (v : Nat) :
    Asc (Sort.sort (fun x y : Nat × Nat => decide (x.1 < y.1)) (d.push (f, v))).toList ∧ (Sort.sort (fun x y : Nat × Nat => decide (x.1 < y.1)) (d.push (f, v))).size = d.size + 1 ∧
      (∀ x, x ∈ (Sort.sort (fun x y : Nat × Nat => decide (x.1 < y.1)) (d.push (f, v))).toList ↔ x ∈ d.toList ∨ x = (f, v)) ∧
      ∀ g, (Sort.sort (fun x y : Nat × Nat => decide (x.1 < y.1)) (d.push (f, v))).toList.lookup g = if g = f then some v else d.toList.lookup g := by
  obtain ⟨⟨hsz, -, hp⟩, hs⟩ := Sort.sort_sorts (fun x y : Nat × Nat => decide (x.1 < y.1)) ⟨fun x => by simp, fun x y z h1 h2 => by simp at h1 h2 ⊢; omega, fun x y z h1 h2 => by simp at h1 h2 ⊢; omega⟩ (d.push (f, v))
  obtain ⟨e, he⟩ : ∃ e, Sort.sort (fun x y : Nat × Nat => decide (x.1 < y.1)) (d.push (f, v)) = e := ⟨_, rfl⟩
  rw [he] at hsz hp hs ⊢
  rw [Array.size_push] at hsz
  have hp2 : e.toList.Perm (d.toList ++ [(f, v)]) := by
    have e1 : e.extract 0 (d.push (f, v)).size = e := by rw [Array.size_push, ← hsz]; exact Array.extract_size
    have e2 : (d.push (f, v)).extract 0 (d.push (f, v)).size = d.push (f, v) := Array.extract_size
    rw [e1, e2] at hp
    simpa using hp
  have hm : ∀ x, x ∈ e.toList ↔ x ∈ d.toList ∨ x = (f, v) := fun x => by rw [hp2.mem_iff]; simp
  have hne : (d.toList ++ [(f, v)]).Pairwise fun x y => x.1 ≠ y.1 := by
    rw [List.pairwise_append]
    exact ⟨h.imp fun hxy => by omega, by simp, fun x hx y hy => by simp at hy; subst hy; exact hn x hx⟩
  have hne2 : e.toList.Pairwise fun x y => x.1 ≠ y.1 := (hp2.pairwise_iff fun hxy => Ne.symm hxy).2 hne
  have hA : Asc e.toList := by
    refine List.pairwise_iff_getElem.2 fun i j hi hj hij => ?_
    have h1 := hs i j (Nat.zero_le _) hij (by rw [Array.size_push, ← hsz]; simpa using hj)
    rw [bang_get e (by simpa using hj), bang_get e (by simpa using hi)] at h1
    have h2 := List.pairwise_iff_getElem.1 hne2 i j hi hj hij
    simp at h1 h2 ⊢
    omega
  refine ⟨hA, hsz, hm, fun g => ?_⟩
  split
  · rename_i eg
    subst eg
    rw [lookup_mem hA, hm]
    exact .inr rfl
  · rename_i eg
    refine lookup_eq hA h fun u => ?_
    rw [hm]
    constructor
    · rintro (h1 | h1)
      · exact h1
      · injection h1 with h1; exact absurd h1 eg
    · exact .inl
end
end Go.Proofs.YtjioghedokbgcaaDoor
