/-
  Discard stats in memory, whole; a row's two numbers read.
-/
import Derived.Test.YtjioghedokbgcaaDoorDisL
import Derived.Test.YtjioghedokbgcaaDoorDis9
namespace Go.Proofs.YtjioghedokbgcaaDoor
open Go Go.RowKit
open Go.Proofs

section
theorem splice_at {β : Type} (a m b v : List β) (o : Nat) (ho : a.length = o) (h : v.length = m.length) : splice (a ++ (m ++ b)) o v = a ++ (v ++ b) := by
  subst ho
  exact splice_mid a m b v h

theorem rowsB_val (l : List (Nat × Nat)) (rest : List UInt8) (j : Nat) (hj : j < l.length) (v : Nat) : splice (rowsB l ++ rest) (16 * j + 8) (Lib.beBytes 8 v) = rowsB (l.set j (l[j].1, v)) ++ rest := by
  have h1 : l = l.take j ++ l[j] :: l.drop (j + 1) := by rw [← List.drop_eq_getElem_cons hj, List.take_append_drop]
  have h2 : (rowsB (l.take j)).length = 16 * j := by rw [rowsB_length, List.length_take]; congr 1; omega
  have h3 : l.set j (l[j].1, v) = l.take j ++ (l[j].1, v) :: l.drop (j + 1) := by rw [List.set_eq_take_append_cons_drop, if_pos hj]
  have h4 : rowsB l ++ rest = (rowsB (l.take j) ++ Lib.beBytes 8 l[j].1) ++ (Lib.beBytes 8 l[j].2 ++ (rowsB (l.drop (j + 1)) ++ rest)) := by
    conv => lhs; rw [h1]
    rw [rowsB_append, rowsB, rowB]
    simp
  rw [h4, h3, splice_at _ _ _ _ _ (by simp [h2, Lib.beBytes_length]) (by simp [Lib.beBytes_length]), rowsB_append, rowsB, rowB]
  simp

theorem rowsB_push (l : List (Nat × Nat)) (rest : List UInt8) (f v : Nat) (hr : 16 ≤ rest.length) : splice (splice (rowsB l ++ rest) (16 * l.length) (Lib.beBytes 8 f)) (16 * l.length + 8) (Lib.beBytes 8 v) = rowsB (l ++ [(f, v)]) ++ rest.drop 16 := by
  have h1 : rest = rest.take 8 ++ ((rest.drop 8).take 8 ++ rest.drop 16) := by
    have h := List.take_append_drop 8 (rest.drop 8)
    rw [List.drop_drop] at h
    rw [h, List.take_append_drop]
  have h2 : (rowsB l).length = 16 * l.length := rowsB_length l
  have e1 : splice (rowsB l ++ rest) (16 * l.length) (Lib.beBytes 8 f) = rowsB l ++ (Lib.beBytes 8 f ++ ((rest.drop 8).take 8 ++ rest.drop 16)) := by
    conv => lhs; rw [h1]
    exact splice_at _ _ _ _ _ h2 (by rw [Lib.beBytes_length, List.length_take]; omega)
  rw [e1, ← List.append_assoc, splice_at _ _ _ _ _ (by simp [h2, Lib.beBytes_length]) (by rw [Lib.beBytes_length, List.length_take, List.length_drop]; omega), rowsB_append, rowsB, rowB, rowsB]
  simp

/-- What stands behind the rows turns: the rows stay. -/
theorem splice_rest (A R : List UInt8) (v : List UInt8) (o : Nat) (h : A.length ≤ o) (hl : o + v.length ≤ (A ++ R).length) : ∃ R', splice (A ++ R) o v = A ++ R' ∧ R'.length = R.length := by
  rw [List.length_append] at hl
  refine ⟨splice R (o - A.length) v, ?_, splice_len _ _ _ (by omega)⟩
  unfold splice
  have e : o = A.length + (o - A.length) := by omega
  have e1 : (A ++ R).take o = A ++ R.take (o - A.length) := by
    conv => lhs; rw [e]
    exact List.take_length_add_append _
  have e2 : (A ++ R).drop (o + v.length) = R.drop (o - A.length + v.length) := by
    rw [show o + v.length = A.length + (o - A.length + v.length) by omega]
    exact List.drop_length_add_append _
  rw [e1, e2]
  simp
end

/-- Numbers of files and what they have, as they fit their places. -/
def Fits (d : Array (Nat × Nat)) : Prop := ∀ i, i < d.size → d[i]!.1 < 4294967296 ∧ d[i]!.2 < 9223372036854775808

structure StatAt (sb mb fb kb nb db s : Nat) (cs : Array Value) (nodes now name synced md at_ : Value) (rest : List UInt8) (d : Array (Nat × Nat)) (W : World) : Prop where
  mem : StatMem sb mb fb kb nb db (rowsB d.toList ++ rest).length d.size s cs nodes now name synced md at_ (rowsB d.toList ++ rest) W
  room : 16 * d.size ≤ (rowsB d.toList ++ rest).length
  most : (rowsB d.toList ++ rest).length ≤ 4000
  least : 64 ≤ (rowsB d.toList ++ rest).length
  steps : s ≤ (rowsB d.toList ++ rest).length
  fits : Fits d
  few : d.size ≤ 101

section
variable {sb mb fb kb nb db s cap n : Nat} {cs : Array Value} {nodes now name synced md at_ : Value} {L rest : List UInt8} {d : Array (Nat × Nat)} {W W' : World}

theorem FileMem.ch (h : FileMem fb kb nb db cap s nodes now name synced md at_ L W) {S : List Nat} (hc : Ch S W W') (hf : fb ∉ S) (hk : kb ∉ S) (hn : nb ∉ S) (hd : db ∉ S) : FileMem fb kb nb db cap s nodes now name synced md at_ L W' :=
  ⟨h.disk.ch hc hk, h.file.ch hc hf, h.node.ch hc hn, h.data.ch hc hd⟩
theorem StatMem.ch_nil (h : StatMem sb mb fb kb nb db cap n s cs nodes now name synced md at_ L W) (hc : Ch [] W W') : StatMem sb mb fb kb nb db cap n s cs nodes now name synced md at_ L W' :=
  ⟨h.file.ch hc (by simp) (by simp) (by simp) (by simp), h.map.ch hc (by simp), h.stat.ch hc (by simp), h.c0, h.c44⟩
theorem StatAt.ch (h : StatAt sb mb fb kb nb db s cs nodes now name synced md at_ rest d W) (hc : Ch [] W W') : StatAt sb mb fb kb nb db s cs nodes now name synced md at_ rest d W' :=
  ⟨h.mem.ch_nil hc, h.room, h.most, h.least, h.steps, h.fits, h.few⟩
theorem StatAt.below (h : StatAt sb mb fb kb nb db s cs nodes now name synced md at_ rest d W) (hc : Below W.heap.size W W') : StatAt sb mb fb kb nb db s cs nodes now name synced md at_ rest d W' := h.ch (Ch.of_below hc)

theorem StatMem.sd (h : StatMem sb mb fb kb nb db cap n s cs nodes now name synced md at_ L W) : sb ≠ db := h.stat.apart h.file.data (by decide)
theorem StatMem.md_ (h : StatMem sb mb fb kb nb db cap n s cs nodes now name synced md at_ L W) : mb ≠ db := h.map.apart h.file.data (by decide)

/-- The bytes turn: all else stays. -/
theorem StatMem.data (h : StatMem sb mb fb kb nb db cap n s cs nodes now name synced md at_ L W) {L' : List UInt8} (hl : L'.length = L.length) (hB : Bk W' db 5 (Lib.byteCells L').toArray) (hc : Ch [db] W W') :
    StatMem sb mb fb kb nb db cap n s cs nodes now name synced md at_ L' W' :=
  ⟨⟨h.file.disk.ch hc (by simpa using h.file.disk.apart h.file.data (by decide)), h.file.file.ch hc (by simpa using h.file.file.apart h.file.data (by decide)), by rw [hl]; exact h.file.node.ch hc (by simpa using h.file.node.apart h.file.data (by decide)), hB⟩,
   by rw [hl]; exact h.map.ch hc (by simpa using h.md_), h.stat.ch hc (by simpa using h.sd), h.c0, h.c44⟩

theorem StatAt.len (_ : StatAt sb mb fb kb nb db s cs nodes now name synced md at_ rest d W) : (rowsB d.toList ++ rest).length = 16 * d.size + rest.length := by
  rw [List.length_append, rowsB_length, Array.length_toList]

theorem StatAt.fix (h : StatAt sb mb fb kb nb db s cs nodes now name synced md at_ rest d W) : DisFix sb mb db (rowsB d.toList ++ rest).length (rowsB d.toList ++ rest).length d.size rest W :=
  ⟨h.mem.mem, h.mem.stat.lt, h.mem.map.lt, h.mem.file.data.lt, h.mem.sd, h.mem.md_, h.len, Nat.le_refl _, by have := h.most; omega, by have := h.few; omega⟩
theorem StatAt.rel (h : StatAt sb mb fb kb nb db s cs nodes now name synced md at_ rest d W) : DisR db d.size rest W W d :=
  ⟨h.mem.file.data, fun _ _ _ => rfl, Nat.le_refl _, rfl, rfl, rfl, fun i hi => by have := h.fits i hi; omega, rfl⟩

/-- A row's file. -/
theorem StatAt.fid (h : StatAt sb mb fb kb nb db s cs nodes now name synced md at_ rest d W) {i : Nat} (hi : i < d.size) :
    Calls Tryd.prog 16 #[.pointer (some ⟨sb, 0, none⟩), .int .i64 ((16 * i : Nat) : Int)] W fun e w' => e = .returned (.int .u64 (d[i]!.1 : Nat)) ∧ Below W.heap.size W w' := by
  have h1 := disGet_any sb mb db _ _ d.size (16 * i) _ W h.mem.mem h.mem.file.data rfl (Nat.le_refl _) (by have := h.room; omega) (by have := h.most; omega)
  rw [h.rel.fid hi] at h1
  exact h1

/-- A row's number. -/
theorem StatAt.val (h : StatAt sb mb fb kb nb db s cs nodes now name synced md at_ rest d W) {i : Nat} (hi : i < d.size) :
    Calls Tryd.prog 16 #[.pointer (some ⟨sb, 0, none⟩), .int .i64 ((16 * i + 8 : Nat) : Int)] W fun e w' => e = .returned (.int .u64 (d[i]!.2 : Nat)) ∧ Below W.heap.size W w' := by
  have h1 := disGet_any sb mb db _ _ d.size (16 * i + 8) _ W h.mem.mem h.mem.file.data rfl (Nat.le_refl _) (by have := h.room; omega) (by have := h.most; omega)
  have e : Lib.beNat (((rowsB d.toList ++ rest).drop (16 * i + 8)).take 8) = d[i]!.2 := by
    rw [← List.drop_drop, h.rel.at_ hi, rowB, List.append_assoc, List.drop_left' (Lib.beBytes_length 8 _), List.take_left' (Lib.beBytes_length 8 _), Lib.beNat_beBytes 8 _ (by have := (h.fits i hi).2; omega)]
  rw [e] at h1
  exact h1
end
end Go.Proofs.YtjioghedokbgcaaDoor
