/-
  Discard stats in memory: what single steps of Update leave.
-/
import Derived.Test.YtjioghedokbgcaaDoorDisM
namespace Go.Proofs.YtjioghedokbgcaaDoor
open Go Go.RowKit
open Go.Proofs

section
variable {sb mb fb kb nb db s : Nat} {cs : Array Value} {nodes now name synced md at_ : Value} {rest : List UInt8} {d : Array (Nat × Nat)} {W w w' : World}

/-- The bytes turn: other rows stand there. -/
theorem StatAt.bytes (h : StatAt sb mb fb kb nb db s cs nodes now name synced md at_ rest d W) {d' : Array (Nat × Nat)} {rest' : List UInt8} (hs : d'.size = d.size) (hr : rest'.length = rest.length) (hf : Fits d')
    (hB : Bk w' db 5 (Lib.byteCells (rowsB d'.toList ++ rest')).toArray) (hc : Ch [db] W w') : StatAt sb mb fb kb nb db s cs nodes now name synced md at_ rest' d' w' := by
  have hl : (rowsB d'.toList ++ rest').length = (rowsB d.toList ++ rest).length := by
    have e1 := rowsB_length d'.toList
    have e2 := rowsB_length d.toList
    simp only [Array.length_toList] at e1 e2
    rw [List.length_append, List.length_append]
    omega
  refine ⟨?_, by rw [hl, hs]; exact h.room, by rw [hl]; exact h.most, by rw [hl]; exact h.least, by rw [hl]; exact h.steps, hf, by rw [hs]; exact h.few⟩
  rw [hl, hs]
  exact h.mem.data hl hB hc

/-- What Update leaves. -/
def UpdPost (sb mb fb kb nb db : Nat) (nodes now name md at_ : Value) (d : Array (Nat × Nat)) (f : Nat) (o : Option Nat) (W w' : World) : Prop :=
  (∃ (db' s' : Nat) (cs' : Array Value) (synced' : Value) (rest' : List UInt8) (d' : Array (Nat × Nat)), StatAt sb mb fb kb nb db' s' cs' nodes now name synced' md at_ rest' d' w' ∧ 16 * d'.size + 16 ≤ (rowsB d'.toList ++ rest').length ∧ Asc d'.toList ∧ d'.size ≤ d.size + 1 ∧
    (∀ g, d'.toList.lookup g = if g = f then o else d.toList.lookup g) ∧ (db' = db ∨ W.heap.size ≤ db')) ∧ Ch [sb, mb, nb, kb, db] W w'

theorem upd_same (h : StatAt sb mb fb kb nb db s cs nodes now name synced md at_ rest d w) (hroom : 16 * d.size + 16 ≤ (rowsB d.toList ++ rest).length) (hA : Asc d.toList) (hc : Ch [] W w) (f : Nat) (o : Option Nat) (ho : o = d.toList.lookup f) :
    UpdPost sb mb fb kb nb db nodes now name md at_ d f o W w :=
  ⟨⟨db, s, cs, synced, rest, d, h, hroom, hA, Nat.le_succ _, fun g => by
      split
      · rename_i e; rw [ho, e]
      · rfl, .inl rfl⟩, hc.mono fun k hk => by cases hk⟩

theorem upd_set (h : StatAt sb mb fb kb nb db s cs nodes now name synced md at_ rest d w) (hroom : 16 * d.size + 16 ≤ (rowsB d.toList ++ rest).length) (hA : Asc d.toList) (hc : Ch [] W w) (k f v : Nat) (hk : k < d.size) (hkf : d[k]!.1 = f) (hv : v < 9223372036854775808)
    (hB : Bk w' db 5 (Lib.byteCells (splice (rowsB d.toList ++ rest) (16 * k + 8) (Lib.beBytes 8 v))).toArray) (hg : w.grownBy w' (some db)) :
    UpdPost sb mb fb kb nb db nodes now name md at_ d f (some v) W w' := by
  have hkl : k < d.toList.length := by simpa using hk
  have hfk : (d.toList[k]).1 = f := by rw [← bang_get d hk]; exact hkf
  obtain ⟨hA', hl'⟩ := found_set hA hk hkf v
  have hsz : (d.set! k (f, v)).size = d.size := by simp
  have e : (d.set! k (f, v)).toList = d.toList.set k (f, v) := by simp
  have hf' : Fits (d.set! k (f, v)) := fun i hi => by
    rw [hsz] at hi
    by_cases e : i = k
    · subst e
      rw [show (d.set! i (f, v))[i]! = (f, v) by simp [hi]]
      exact ⟨by have := (h.fits i hi).1; rw [hkf] at this; exact this, hv⟩
    · rw [show (d.set! k (f, v))[i]! = d[i]! by simp [hi, Ne.symm e]]
      exact h.fits i hi
  rw [rowsB_val _ _ _ hkl, hfk, ← e] at hB
  have h2 := h.bytes hsz rfl hf' hB (Ch.of_grown hg)
  refine ⟨⟨db, s, cs, synced, rest, d.set! k (f, v), h2, ?_, hA', by rw [hsz]; omega, hl', .inl rfl⟩, ?_⟩
  · rw [hsz, h2.len, hsz]
    rw [h.len] at hroom
    exact hroom
  · exact (hc.mono fun k hk => by cases hk).trans ((Ch.of_grown hg).mono fun k hk => .inl (by simp at hk ⊢; simp [hk]))

theorem fits_push {d : Array (Nat × Nat)} (h : Fits d) (f v : Nat) (hf : f < 4294967296) (hv : v < 9223372036854775808) : Fits (d.push (f, v)) := fun i hi => by
  rw [Array.size_push] at hi
  by_cases e : i < d.size
  · rw [show (d.push (f, v))[i]! = d[i]! by simp [Array.getElem_push, e, hi]]
    exact h i e
  · have : i = d.size := by omega
    subst this
    rw [show (d.push (f, v))[d.size]! = (f, v) by simp]
    exact ⟨hf, hv⟩

/-- A row more. -/
theorem StatAt.push (h : StatAt sb mb fb kb nb db s cs nodes now name synced md at_ rest d w) (hroom : 16 * d.size + 16 ≤ (rowsB d.toList ++ rest).length) (f v : Nat) (hf : f < 4294967296) (hv : v < 9223372036854775808) (hd : d.size ≤ 100)
    (hB : Bk w' db 5 (Lib.byteCells (splice (splice (rowsB d.toList ++ rest) (16 * d.size) (Lib.beBytes 8 f)) (16 * d.size + 8) (Lib.beBytes 8 v))).toArray) (hc : Ch [db] w w') :
    StatAt sb mb fb kb nb db s (cs.setIfInBounds 44 (.int .i64 ((d.size + 1 : Nat) : Int))) nodes now name synced md at_ (rest.drop 16) (d.push (f, v)) (w'.setCell ⟨sb, 44, none⟩ (.int .i64 ((d.size + 1 : Nat) : Int))) := by
  rw [h.len] at hroom
  have hb := rowsB_push d.toList rest f v (by omega)
  rw [Array.length_toList] at hb
  rw [hb] at hB
  have e : (d.push (f, v)).toList = d.toList ++ [(f, v)] := by simp
  rw [← e] at hB
  have hl : (rowsB (d.push (f, v)).toList ++ rest.drop 16).length = (rowsB d.toList ++ rest).length := by
    rw [h.len, List.length_append, rowsB_length, Array.length_toList, Array.size_push, List.length_drop]; omega
  have hm := h.mem.data (L' := rowsB (d.push (f, v)).toList ++ rest.drop 16) hl hB hc
  have s1 : kb ≠ sb := h.mem.file.disk.apart h.mem.stat (by decide)
  have s2 : fb ≠ sb := h.mem.file.file.apart h.mem.stat (by decide)
  have s3 : nb ≠ sb := h.mem.file.node.apart h.mem.stat (by decide)
  have s4 : mb ≠ sb := h.mem.map.apart h.mem.stat (by decide)
  have s5 : db ≠ sb := Ne.symm h.mem.sd
  have hc44 := Array.getElem?_eq_some_iff.1 h.mem.c44
  refine ⟨?_, ?_, by rw [hl]; exact h.most, by rw [hl]; exact h.least, by rw [hl]; exact h.steps, fits_push h.fits f v hf hv, by rw [Array.size_push]; omega⟩
  · rw [hl, Array.size_push]
    refine ⟨⟨hm.file.disk.far (p := ⟨sb, 44, none⟩) s1 _, hm.file.file.far (p := ⟨sb, 44, none⟩) s2 _, hm.file.node.far (p := ⟨sb, 44, none⟩) s3 _, hm.file.data.far (p := ⟨sb, 44, none⟩) s5 _⟩, hm.map.far (p := ⟨sb, 44, none⟩) s4 _, hm.stat.set 44 _, ?_, ?_⟩
    · rw [Array.getElem?_setIfInBounds, if_neg (by omega)]
      exact h.mem.c0
    · rw [Array.getElem?_setIfInBounds, if_pos rfl, if_pos hc44.1]
  · rw [hl, Array.size_push, h.len]
    omega

/-- The file has grown. -/
theorem StatAt.grow (h : StatAt sb mb fb kb nb db s cs nodes now name synced md at_ rest d w) {S db' : Nat} {synced' : Value} (hS : S = 2 * (rowsB d.toList ++ rest).length) (hS4 : S ≤ 4000) (hF : FileMem fb kb nb db' S (s + 2) nodes now name synced' md at_ ((rowsB d.toList ++ rest) ++ List.replicate (S - (rowsB d.toList ++ rest).length) 0) w')
    (hM : Bk w' mb 77 #[.slice (some ⟨db', 0, none⟩) S S, .pointer (some ⟨fb, 0, none⟩)]) (hc : Ch [mb, nb, kb] w w') :
    StatAt sb mb fb kb nb db' (s + 2) cs nodes now name synced' md at_ (rest ++ List.replicate (S - (rowsB d.toList ++ rest).length) 0) d w' := by
  have s1 : sb ≠ mb := Ne.symm (h.mem.map.apart h.mem.stat (by decide))
  have s2 : sb ≠ nb := Ne.symm (h.mem.file.node.apart h.mem.stat (by decide))
  have s3 : sb ≠ kb := Ne.symm (h.mem.file.disk.apart h.mem.stat (by decide))
  have hl : (rowsB d.toList ++ (rest ++ List.replicate (S - (rowsB d.toList ++ rest).length) (0 : UInt8))).length = S := by
    rw [← List.append_assoc, List.length_append, List.length_replicate]; omega
  rw [List.append_assoc] at hF
  have h1 := h.room
  have h2 := h.least
  have h3 := h.steps
  refine ⟨⟨?_, ?_, h.mem.stat.ch hc (by simp; exact ⟨s1, s2, s3⟩), h.mem.c0, h.mem.c44⟩, by rw [hl]; omega, by rw [hl]; omega, by rw [hl]; omega, by rw [hl]; omega, h.fits, h.few⟩
  · rw [hl]; exact hF
  · rw [hl]; exact hM

/-- Zeros behind the rows. -/
theorem StatAt.zeros (h : StatAt sb mb fb kb nb db s cs nodes now name synced md at_ rest d w) (hroom : 16 * d.size + 16 ≤ (rowsB d.toList ++ rest).length) (z1 z2 : List UInt8) (hz1 : z1.length = 8) (hz2 : z2.length = 8)
    (hB : Bk w' db 5 (Lib.byteCells (splice (splice (rowsB d.toList ++ rest) (16 * d.size) z1) (16 * d.size + 8) z2)).toArray) (hg : w.grownBy w' (some db)) :
    ∃ rest', rest'.length = rest.length ∧ StatAt sb mb fb kb nb db s cs nodes now name synced md at_ rest' d w' := by
  have hr : (rowsB d.toList).length = 16 * d.size := by rw [rowsB_length, Array.length_toList]
  obtain ⟨R1, e1, l1⟩ := splice_rest (rowsB d.toList) rest z1 (16 * d.size) (by omega) (by omega)
  rw [e1] at hB
  have hl1 : (rowsB d.toList ++ R1).length = (rowsB d.toList ++ rest).length := by rw [List.length_append, List.length_append, l1]
  obtain ⟨R2, e2, l2⟩ := splice_rest (rowsB d.toList) R1 z2 (16 * d.size + 8) (by omega) (by omega)
  rw [e2] at hB
  exact ⟨R2, l2.trans l1, h.bytes rfl (l2.trans l1) h.fits hB (Ch.of_grown hg)⟩

theorem DisR.ch_db {n : Nat} (h : DisR db n rest W w' d) : Ch [db] W w' := ⟨h.os, h.tape, h.out, h.grow, fun k hk hn => h.keep k hk (by simpa using hn)⟩

/-- The rows in another order. -/
theorem StatAt.perm (h : StatAt sb mb fb kb nb db s cs nodes now name synced md at_ rest d w) {d' : Array (Nat × Nat)} (hR : DisR db d.size rest w w' d') (hm : ∀ x, x ∈ d'.toList → x ∈ d.toList) :
    StatAt sb mb fb kb nb db s cs nodes now name synced md at_ rest d' w' := by
  refine h.bytes hR.sz rfl (fun i hi => ?_) hR.blk hR.ch_db
  rw [bang_get d' hi]
  obtain ⟨j, hj, e⟩ := List.mem_iff_getElem.1 (hm _ (List.getElem_mem _))
  rw [← e, ← bang_get d (by simpa using hj)]
  exact h.fits j (by simpa using hj)
end
end Go.Proofs.YtjioghedokbgcaaDoor
