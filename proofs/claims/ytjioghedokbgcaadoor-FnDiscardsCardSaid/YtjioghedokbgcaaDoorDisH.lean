/-
  What steps leave of each file's number: plain laws.
-/
import Derived.Test.YtjioghedokbgcaaDoorDisL
namespace Go.Proofs.YtjioghedokbgcaaDoor
open Go
open Go.Proofs

/-- What the steps leave of a file's number. -/
def hasOf (l : List (Nat × Int)) (g : Nat) : Option Nat := l.foldl (fun o x => if g = x.1 then stepV o x.2 else o) none
theorem hasOf_snoc (l : List (Nat × Int)) (x : Nat × Int) (g : Nat) : hasOf (l ++ [x]) g = if g = x.1 then stepV (hasOf l x.1) x.2 else hasOf l g := by
  unfold hasOf
  rw [List.foldl_append]
  simp only [List.foldl_cons, List.foldl_nil]
  split
  · rename_i h; subst h; rfl
  · rfl
/-- What a step tells. -/
def toldOf (l : List (Nat × Int)) : Nat → Nat := fun j => (hasOf (l.take (j + 1)) (l.getD j (0, 0)).1).getD 0

theorem stepV_le (o : Option Nat) (N : Int) (b : Nat) (h : o.getD 0 ≤ b) (hN : N ≤ 1099511627776) : (stepV o N).getD 0 ≤ b + 1099511627776 := by
  unfold stepV
  split
  · cases o <;> simp
  · split
    · omega
    · simp; omega

theorem take_snoc {l : List (Nat × Int)} {n : Nat} (h : n < l.length) : l.take (n + 1) = l.take n ++ [l[n]] := by
  rw [List.take_add_one]
  simp [h]

theorem hasOf_le {l : List (Nat × Int)} (h : ∀ x, x ∈ l → x.2 ≤ 1099511627776) : ∀ (n : Nat), n ≤ l.length → ∀ g, (hasOf (l.take n) g).getD 0 ≤ n * 1099511627776
  | 0, _, g => by simp [hasOf]
  | n + 1, hn, g => by
    rw [take_snoc (by omega), hasOf_snoc]
    have ih := hasOf_le h n (by omega)
    rw [Nat.succ_mul]
    split
    · exact stepV_le _ (l[n]).2 _ (ih (l[n]).1) (h _ (List.getElem_mem _))
    · exact Nat.le_trans (ih g) (Nat.le_add_right _ _)

/-- The first file below m that has most. -/
def bestN (h : Nat → Nat) : Nat → Nat × Nat
  | 0 => (0, 0)
  | m + 1 => if (bestN h m).2 < h m then (m, h m) else bestN h m

theorem asc_nodup {d : List (Nat × Nat)} (h : Asc d) : (d.map Prod.fst).Nodup := by
  unfold List.Nodup
  rw [List.pairwise_map]
  exact h.imp fun hxy => by omega

theorem keys_mem {d : List (Nat × Nat)} (h : Asc d) (g : Nat) : g ∈ d.map Prod.fst ↔ (d.lookup g).isSome = true := by
  rw [List.mem_map, Option.isSome_iff_exists]
  constructor
  · rintro ⟨⟨a, b⟩, hm, rfl⟩
    exact ⟨b, (lookup_mem h).2 hm⟩
  · rintro ⟨v, hv⟩
    exact ⟨(g, v), (lookup_mem h).1 hv, rfl⟩

theorem keys_count {d : List (Nat × Nat)} (h : Asc d) {f : Nat → Option Nat} (hf : ∀ g, d.lookup g = f g) {ks : List Nat} (hn : ks.Nodup) (hk : ∀ g, g ∈ ks ↔ (f g).isSome = true) : ks.length = d.length := by
  have h1 : ∀ g, g ∈ ks ↔ g ∈ d.map Prod.fst := fun g => by rw [hk, keys_mem h, hf]
  have e1 := List.Nodup.length_le_of_subset hn (fun g hg => (h1 g).1 hg)
  have e2 := List.Nodup.length_le_of_subset (asc_nodup h) (fun g hg => (h1 g).2 hg)
  rw [List.length_map] at e1 e2
  omega

theorem filter_split {d : List (Nat × Nat)} (h : Asc d) (m : Nat) : d.filter (fun x => decide (x.1 < m + 1)) = d.filter (fun x => decide (x.1 < m)) ++ d.filter (fun x => decide (x.1 = m)) := by
  induction d with
  | nil => rfl
  | cons a r ih =>
    obtain ⟨h1, h2⟩ := List.pairwise_cons.1 h
    have ih' := ih h2
    simp only [List.filter_cons]
    rcases Nat.lt_trichotomy a.1 m with e | e | e
    · rw [if_pos (by simp; omega), if_pos (by simp; omega), if_neg (by simp; omega), ih']
      rfl
    · rw [if_pos (by simp; omega), if_neg (by simp; omega), if_pos (by simp; omega), ih']
      have hz : r.filter (fun x => decide (x.1 < m)) = [] := by
        rw [List.filter_eq_nil_iff]
        intro x hx
        have := h1 x hx
        simp; omega
      rw [hz]
      rfl
    · rw [if_neg (by simp; omega), if_neg (by simp; omega), if_neg (by simp; omega), ih']

theorem filter_at {d : List (Nat × Nat)} (h : Asc d) (m : Nat) : d.filter (fun x => decide (x.1 = m)) = match d.lookup m with | none => [] | some v => [(m, v)] := by
  induction d with
  | nil => rfl
  | cons a r ih =>
    obtain ⟨h1, h2⟩ := List.pairwise_cons.1 h
    obtain ⟨x, y⟩ := a
    rw [List.filter_cons, List.lookup_cons]
    by_cases e : x = m
    · subst e
      have hz : r.filter (fun z => decide (z.1 = x)) = [] := by
        rw [List.filter_eq_nil_iff]
        intro z hz
        have := h1 z hz
        simp at this ⊢; omega
      simp [hz]
    · have e2 : (m == x) = false := by simpa using fun h => e h.symm
      rw [if_neg (by simpa using e), e2, ih h2]

theorem bestN_law {d : List (Nat × Nat)} (h : Asc d) {f : Nat → Option Nat} (hf : ∀ g, d.lookup g = f g) : ∀ m, (d.filter (fun x => decide (x.1 < m))).foldl (fun b x => if b.2 < x.2 then x else b) (0, 0) = bestN (fun g => (f g).getD 0) m
  | 0 => by
    have hz : d.filter (fun x => decide (x.1 < 0)) = [] := by
      rw [List.filter_eq_nil_iff]
      intro x _
      simp
    rw [hz]
    rfl
  | m + 1 => by
    rw [filter_split h, List.foldl_append, bestN_law h hf m, filter_at h, hf m]
    cases hfm : f m with
    | none => simp [bestN, hfm]
    | some v => simp [bestN, hfm]

theorem bestN_all {d : List (Nat × Nat)} (h : Asc d) {f : Nat → Option Nat} (hf : ∀ g, d.lookup g = f g) {m : Nat} (hm : ∀ x, x ∈ d → x.1 < m) : d.foldl (fun b x => if b.2 < x.2 then x else b) (0, 0) = bestN (fun g => (f g).getD 0) m := by
  rw [← bestN_law h hf m, List.filter_eq_self.2 (fun x hx => by simpa using hm x hx)]

theorem hasOf_none {l : List (Nat × Int)} {g : Nat} (h : ∀ x, x ∈ l → x.1 ≠ g) : hasOf l g = none := by
  unfold hasOf
  suffices ∀ o : Option Nat, o = none → l.foldl (fun o x => if g = x.1 then stepV o x.2 else o) o = none from this _ rfl
  induction l with
  | nil => intro o ho; exact ho
  | cons a r ih =>
    intro o ho
    rw [List.foldl_cons, if_neg (fun e => h a (by simp) e.symm)]
    exact ih (fun x hx => h x (by simp [hx])) o ho
end Go.Proofs.YtjioghedokbgcaaDoor
