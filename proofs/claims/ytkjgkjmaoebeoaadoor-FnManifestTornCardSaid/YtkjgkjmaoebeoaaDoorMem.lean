/-
  Words for memory that the texts of this claim share: a slice that reads as bytes, a block known whole, conversions between strings and byte slices. No statement of the claim stands here.
-/
import Derived.WalkKit
import Derived.Handy
import Derived.WalkLawsBesides
import Derived.Lib.ConvBytes
import Derived.Lib.Hide
import Derived.Lib.Endian
import Derived.Lib.EndianMore
import Derived.Lib.UnsafeStr
import Derived.Laws.CopyOwn
import Derived.Laws.BytesArg
import Derived.Deep.QuietTactic
import Derived.BigQuiet
import Derived.Maps.AppendAt
import Derived.Deep.AppendLies
import Derived.Deep.Draws
namespace Go.Proofs.YtkjgkjmaoebeoaaDoor
open Go Go.RowKit

/-- THE BYTES l STAND in block b from place o on. -/
def Bs (w : World) (b o : Nat) (l : List UInt8) : Prop := ∀ j (h : j < l.length), w.cell? ⟨b, o + j, none⟩ = some (.int .u8 ((l[j]).toNat : Int))

section
variable {w w' : World} {B b o : Nat} {l : List UInt8}
theorem Bs.below (h : Bs w b o l) (hb : Below B w w') (hB : b < B) : Bs w' b o l := fun j hj => (hb.cell (p := ⟨b, o + j, none⟩) hB).trans (h j hj)
theorem Bs.get (h : Bs w b o l) {j : Nat} (hj : j < l.length) : w.cell? ⟨b, o + j, none⟩ = some (.int .u8 ((l[j]).toNat : Int)) := h j hj
theorem Bs.drop (h : Bs w b o l) (k : Nat) : Bs w b (o + k) (l.drop k) := by
  intro j hj
  have hj' : k + j < l.length := by simp at hj; omega
  rw [Nat.add_assoc, h (k + j) hj']
  simp
theorem Bs.take (h : Bs w b o l) (k : Nat) : Bs w b o (l.take k) := by
  intro j hj
  have hj' : j < l.length := by simp at hj; omega
  rw [h j hj']
  simp
theorem Bs.nil : Bs w b o [] := fun j hj => absurd hj (by simp)
theorem Bs.lt (h : Bs w b o l) (hl : 0 < l.length) : b < w.heap.size := block_lt_of_cell (h 0 hl)
end

theorem foldl_eq_strOf (l : List UInt8) : strOfNums (l.map fun u => (u.toNat : Int)) = ⟨l.toArray⟩ := by
  simp [strOfNums, Function.comp_def]

theorem below_drewN {B : Nat} {a w : World} (h : Below B a w) (n : Nat) : Below B a (w.drewN n) := ⟨h.os, h.tape, h.output, h.size, h.block⟩
theorem below_step {B : Nat} {a w w' : World} (h : Below B a w) (hB : B ≤ w.heap.size) (h2 : Below w.heap.size w w') : Below B a w' := h.trans (h2.mono hB)

theorem res_tmp4 {fn : Func} {t u v x : Tmp} (h : fn.results = #[.tmp t, .tmp u, .tmp v, .tmp x]) (tmps : Array Value) (P : Program) (w : World) :
    (results fn tmps).run P w = .ok (.tuple #[tmps.getD t undef, tmps.getD u undef, tmps.getD v undef, tmps.getD x undef]) w := by simp [results, h]

/-- A byte of a string, written out as a list. -/
theorem run_index_mk {P : Program} (t : TypeId) (h : P.underlying t = some .string) (l : List UInt8) (k : IntKind) (i : Nat) (b : UInt8) (hb : l[i]? = some b) (w : World) :
    (Instr.index t (.string ⟨l.toArray⟩) (.int k (i : Int))).run P w = .ok (.int .u8 (b.toNat : Int)) w := by
  obtain ⟨hi, rfl⟩ := List.getElem?_eq_some_iff.1 hb
  rw [run_index_string w t ⟨l.toArray⟩ k i h]
  have h1 : 0 ≤ (i : Int) ∧ (i : Int) < ((ByteArray.mk l.toArray).size : Nat) := ⟨by omega, by simp [ByteArray.size]; omega⟩
  rw [dif_pos h1]
  congr 3

theorem extract_mk (l : List UInt8) (i j : Nat) : (ByteArray.mk l.toArray).extract i j = ⟨((l.take j).drop i).toArray⟩ := by
  apply ByteArray.ext
  apply Array.ext'
  simp [ByteArray.data_extract, List.drop_take]

/-- 's[:j]', 's[i:]', 's[i:j]' of a string, written out as a list. -/
theorem run_sliceTo_mk {P : Program} (t : TypeId) (h : P.underlying t = some .string) (l : List UInt8) (k : IntKind) (j : Nat) (hj : j ≤ l.length) (w : World) :
    (Instr.slice t (.string ⟨l.toArray⟩) none (some (.int k (j : Int))) none).run P w = .ok (.string ⟨(l.take j).toArray⟩) w := by
  rw [run_slice_string_to_if w t ⟨l.toArray⟩ k j h, if_pos ⟨by omega, by simp [ByteArray.size]; omega⟩, Int.toNat_natCast, extract_mk l 0 j]
  simp
theorem run_sliceFrom_mk {P : Program} (t : TypeId) (h : P.underlying t = some .string) (l : List UInt8) (k : IntKind) (i : Nat) (hi : i ≤ l.length) (w : World) :
    (Instr.slice t (.string ⟨l.toArray⟩) (some (.int k (i : Int))) none none).run P w = .ok (.string ⟨(l.drop i).toArray⟩) w := by
  have hs : (ByteArray.mk l.toArray).size = l.length := by simp [ByteArray.size]
  rw [run_slice_string_from_if w t ⟨l.toArray⟩ k i h, if_pos ⟨by omega, by rw [hs]; omega⟩, Int.toNat_natCast, hs, extract_mk l i l.length]
  simp
theorem run_sliceIn_mk {P : Program} (t : TypeId) (h : P.underlying t = some .string) (l : List UInt8) (k k' : IntKind) (i j : Nat) (hi : i ≤ j) (hj : j ≤ l.length) (w : World) :
    (Instr.slice t (.string ⟨l.toArray⟩) (some (.int k (i : Int))) (some (.int k' (j : Int))) none).run P w = .ok (.string ⟨((l.take j).drop i).toArray⟩) w := by
  rw [run_slice_string w t ⟨l.toArray⟩ k k' i j h (by omega) (by omega) (by simp [ByteArray.size]; omega), Int.toNat_natCast, Int.toNat_natCast, extract_mk l i j]

/-- BLOCK g IS JUST THE CELLS cs, of element type t, none frozen. -/
def Bk (w : World) (g : Nat) (t : TypeId) (cs : Array Value) : Prop := w.heap[g]? = some (.cells cs t (0, 0))

section
variable {w w' : World} {B g g' : Nat} {t t' : TypeId} {cs cs' : Array Value}
theorem Bk.lt (h : Bk w g t cs) : g < w.heap.size := lt_of_block h
theorem Bk.cell (h : Bk w g t cs) (i : Nat) : w.cell? ⟨g, i, none⟩ = cs[i]? := cell_of_row w g i cs t (0, 0) h
theorem Bk.free (h : Bk w g t cs) (i : Nat) : w.frozen? ⟨g, i, none⟩ = false := by unfold Bk at h; simp [World.frozen?, h]
theorem Bk.new (w : World) (t : TypeId) (cs : Array Value) : Bk (w.alloc (.cells cs t)) w.heap.size t cs := heap_alloc_new w _
theorem Bk.at_ (w : World) (n : Nat) (t : TypeId) (cs : Array Value) (hn : n = w.heap.size) : Bk (w.alloc (.cells cs t)) n t cs := by subst hn; exact Bk.new w t cs
theorem Bk.drew (h : Bk w g t cs) : Bk w.drew g t cs := h
theorem Bk.drewN (h : Bk w g t cs) (n : Nat) : Bk (w.drewN n) g t cs := h
theorem Bk.alloc (h : Bk w g t cs) (o : Obj) : Bk (w.alloc o) g t cs := (Below.heap_alloc w o g h.lt).trans h
theorem Bk.set (h : Bk w g t cs) (i : Nat) (u : Value) : Bk (w.setCell ⟨g, i, none⟩ u) g t (cs.setIfInBounds i u) := heap_setCell_same w g i cs t u h
theorem Bk.far (h : Bk w g t cs) {p : Addr} (hp : g ≠ p.block) (u : Value) : Bk (w.setCell p u) g t cs := (heap_setCell_other w p g u hp).trans h
theorem Bk.below (h : Bk w g t cs) (hb : Below B w w') (hg : g < B) : Bk w' g t cs := (hb.block g hg).trans h
theorem Bk.grown {row : Option Nat} (h : Bk w g t cs) (hb : w.grownBy w' row) (hg : some g ≠ row) : Bk w' g t cs := (hb.block g h.lt hg).trans h
/-- Blocks of two element types are two blocks. -/
theorem Bk.apart (h : Bk w g t cs) (h' : Bk w g' t' cs') (hne : t ≠ t') : g ≠ g' := by
  rintro rfl
  unfold Bk at h h'
  rw [h] at h'
  simp only [Option.some.injEq, Obj.cells.injEq] at h'
  exact hne h'.2.1
/-- What is owned with another element type lies elsewhere. -/
theorem own_apart {base e size n : Nat} {v : Value} {xs : List Value} (h : w.ownsRow base e size v n xs) (hg : Bk w g t cs) (hne : e ≠ t) : v.ownBlock ≠ some g := by
  rcases h.2 with ⟨rfl, _⟩ | ⟨g', cap, cur, rfl, _, hh, _⟩
  · simp [Value.ownBlock]
  · intro he
    obtain rfl : g' = g := by simpa [Value.ownBlock] using he
    exact (Bk.apart (t := e) hh hg hne) rfl
theorem Bs.of_own {base e n : Nat} {l : List UInt8} {cap : Nat} (h : w.ownsRow base e 1 (.slice (some ⟨g, 0, none⟩) n cap) n (Lib.byteCells l)) : Bs w g 0 l := by
  intro j hj
  have h1 := h.cells (g := g) rfl j (.int .u8 ((l[j]).toNat : Int)) (by simp [Lib.byteCells, hj])
  rw [Addr.add_lit] at h1
  exact h1
theorem Bs.grown {b o : Nat} {l : List UInt8} {row : Option Nat} (h : Bs w b o l) (hg : w.grownBy w' row) (hne : some b ≠ row) : Bs w' b o l :=
  fun j hj => hg.cell (h j hj) hne
theorem Bs.alloc {b o : Nat} {l : List UInt8} (h : Bs w b o l) (ob : Obj) : Bs (w.alloc ob) b o l :=
  fun j hj => (World.cell?_alloc_lt w ob _ (block_lt_of_cell (h j hj))).trans (h j hj)
theorem Bs.far {b o : Nat} {l : List UInt8} (h : Bs w b o l) {p : Addr} (hp : b ≠ p.block) (u : Value) : Bs (w.setCell p u) b o l :=
  fun j hj => (World.cell?_setCell_other w p _ u (fun e => hp (by rw [e]))).trans (h j hj)
theorem Bs.drew {b o : Nat} {l : List UInt8} (h : Bs w b o l) : Bs w.drew b o l := h
theorem Bs.drewN {b o : Nat} {l : List UInt8} (h : Bs w b o l) (n : Nat) : Bs (w.drewN n) b o l := h
end

theorem list_seg_gen {α : Type} : ∀ (l : List α) (k : Nat) (v : α) (rest : List α), k + (rest.length + 1) ≤ l.length →
    (l.set k v).take (k + 1) ++ (rest ++ (l.set k v).drop (k + 1 + rest.length)) = l.take k ++ (v :: rest ++ l.drop (k + (rest.length + 1))) := by
  intro l k v rest hk
  have h1 : (l.set k v).take (k + 1) = l.take k ++ [v] := by
    rw [List.take_succ_eq_append_getElem (by simp; omega), List.getElem_set_self, List.take_set_of_le (by omega)]
  have h2 : (l.set k v).drop (k + 1 + rest.length) = l.drop (k + (rest.length + 1)) := by
    rw [List.drop_set_of_lt (by omega)]
    congr 1
    omega
  rw [h1, h2]
  simp

theorem splice_set {α : Type} (L : List α) (o : Nat) (v : α) (r : List α) (h : o + (r.length + 1) ≤ L.length) : splice (L.set o v) (o + 1) r = splice L o (v :: r) := by
  have := list_seg_gen L o v r h
  simpa [splice, Nat.add_assoc, Nat.add_comm 1] using this

/-- Stores one behind the other into a block that is known whole. -/
theorem bk_setCells {g : Nat} {t : TypeId} : ∀ (vs : List Value) (w : World) (L : List Value) (o : Nat), Bk w g t L.toArray → o + vs.length ≤ L.length → Bk (w.setCells g o vs) g t (splice L o vs).toArray
  | [], _, L, o, h, _ => by simpa [World.setCells, splice] using h
  | v :: r, w, L, o, h, hl => by
    have h1 := h.set o v
    rw [List.setIfInBounds_toArray] at h1
    have h2 := bk_setCells r (w.setCell ⟨g, o, none⟩ v) (L.set o v) (o + 1) h1 (by simp at hl ⊢; omega)
    rw [splice_set L o v r (by simpa using hl)] at h2
    exact h2

section
variable {a w w' : World} {row : Option Nat}
theorem grown_trans (h : a.grownBy w row) (k : w.grownBy w' row) : a.grownBy w' row :=
  ⟨k.os.trans h.os, k.tape.trans h.tape, k.output.trans h.output, Nat.le_trans h.size k.size, fun i hi hne => (k.block i (Nat.lt_of_lt_of_le hi h.size) hne).trans (h.block i hi hne)⟩
theorem grown_of_below (h : Below a.heap.size a w) (row : Option Nat) : a.grownBy w row := ⟨h.os, h.tape, h.output, h.size, fun i hi _ => h.block i hi⟩
theorem grown_drew (h : a.grownBy w row) : a.grownBy w.drew row := ⟨h.os, h.tape, h.output, h.size, h.block⟩
theorem grown_drewN (h : a.grownBy w row) (n : Nat) : a.grownBy (w.drewN n) row := ⟨h.os, h.tape, h.output, h.size, h.block⟩
theorem grown_alloc (h : a.grownBy w row) (o : Obj) : a.grownBy (w.alloc o) row := grown_trans h (World.grownBy_alloc w o row)
theorem grown_setCell {p : Addr} (h : a.grownBy w row) (hp : row = some p.block ∨ a.heap.size ≤ p.block) (u : Value) : a.grownBy (w.setCell p u) row :=
  ⟨h.os, h.tape, h.output, by simpa using h.size, fun i hi hne => (heap_setCell_other w p i u (by
    rintro rfl
    rcases hp with hp | hp
    · exact hne hp.symm
    · omega)).trans (h.block i hi hne)⟩
theorem below_of_grown {B : Nat} (h : a.grownBy w row) (hB : B ≤ a.heap.size) (hr : ∀ k, row = some k → B ≤ k) : Below B a w :=
  (Below.refl B a).grown h hB hr
/-- A writing that reaches only what is new is none of the old. -/
theorem grown_new {r : Option Nat} (h : a.grownBy w row) (hr : ∀ k, row = some k → a.heap.size ≤ k) : a.grownBy w r :=
  ⟨h.os, h.tape, h.output, h.size, fun i hi _ => h.block i hi (fun e => by have := hr i e.symm; omega)⟩
end

theorem grown_setCells {a : World} (g : Nat) : ∀ (vs : List Value) (w : World) (o : Nat) {row : Option Nat}, a.grownBy w row → (row = some g ∨ a.heap.size ≤ g) → a.grownBy (w.setCells g o vs) row
  | [], _, _, _, h, _ => h
  | v :: r, _, o, _, h, hr => grown_setCells g r _ (o + 1) (grown_setCell h (p := ⟨g, o, none⟩) hr v) hr

/-- 'make([]T, n, c)' as an equation for every world. -/
theorem run_make_rowN {P : Program} (t e : TypeId) (i : TypeInfo) (z : Value) (ht : P.underlying t = some (.slice e)) (hi : P.info? e = some i) (hz : i.zero = some z)
    (kl kc : IntKind) (n c : Nat) (hnc : n ≤ c) (hbytes : i.bytes * c ≤ 281474976710656) (h63 : c ≤ 9223372036854775807) (w : World) :
    (Instr.makeSlice t (.int kl (n : Int)) (.int kc (c : Int))).run P w = .ok (.slice (some ⟨w.heap.size, 0, none⟩) n c) (w.alloc (.cells (madeCells z.cells (c * i.size)) e)) := by
  have hb : (i.bytes : Int) * (c : Int) ≤ 281474976710656 := by
    have h : ((i.bytes * c : Nat) : Int) ≤ 281474976710656 := by omega
    rwa [Int.natCast_mul] at h
  have hr := run_make (P := P) w t e i z ht hi hz kl kc n c (by omega) (by omega) hb (by omega)
  simp only [Int.toNat_natCast] at hr
  exact hr

/-- Behind a writing into one of the call's own blocks. -/
theorem below_own {B g : Nat} {w0 w w' : World} (h : Below B w0 w) (hB : B ≤ w.heap.size) (hg : w.grownBy w' (some g)) (hBg : B ≤ g) : Below B w0 w' :=
  h.grown hg hB (fun k hk => by cases hk; exact hBg)

section
variable {P : Program} {w : World} {ops : Array Oper} {rest : List Oper} {o : Oper} {a : Act} {Q : Exit → Act → World → Prop}

/-- 'string(b)', b a byte slice whose bytes are known. -/
theorem wpList_b2s (hg : o.guard = none) (src dst e : TypeId) (x : Operand) (hop : o.op = Op.convert src dst x)
    (hs : P.underlying src = some (.slice e)) (he : P.underlying e = some (.int .u8)) (hd : P.underlying dst = some .string)
    (b off n c : Nat) (hx : a.eval x = .slice (some ⟨b, off, none⟩) n c) (l : List UInt8) (hl : l.length = n) (hc : Bs w b off l)
    (hK : wpList P ops Q rest (a.put o.dst (.string ⟨l.toArray⟩)) w) : wpList P ops Q (o :: rest) a w := by
  refine wpList_plain hg fun K hK' => ?_
  have hrun := run_convert_bytes_arg (P := P) w src e hs he b off n c (l.map fun u => (u.toNat : Int)) (by simpa using hl)
    (fun i hi => by subst hl; rw [hc i hi]; simp [List.getD, hi]) dst hd
  rw [foldl_eq_strOf] at hrun
  unfold Oper.wp
  simp [execOp, hop, hx, hrun, Result.andThen]
  exact hK' _ _ hK

/-- 'string(b)', b nil. -/
theorem wpList_b2s_nil (hg : o.guard = none) (src dst e : TypeId) (x : Operand) (hop : o.op = Op.convert src dst x)
    (hs : P.underlying src = some (.slice e)) (he : P.underlying e = some (.int .u8)) (hd : P.underlying dst = some .string)
    (n c : Nat) (hx : a.eval x = .slice none n c)
    (hK : wpList P ops Q rest (a.put o.dst (.string ByteArray.empty)) w) : wpList P ops Q (o :: rest) a w := by
  refine wpList_plain hg fun K hK' => ?_
  have hrun := run_convert_bytes_nil (P := P) w src e hs he n c dst hd
  unfold Oper.wp
  simp [execOp, hop, hx, hrun, Result.andThen]
  exact hK' _ _ hK

/-- '[]byte(s)'. -/
theorem wpList_s2b (hg : o.guard = none) (src dst e : TypeId) (x : Operand) (hop : o.op = Op.convert src dst x)
    {u : TypeDesc} (hs : P.underlying src = some u) (hd : P.underlying dst = some (.slice e)) (he : P.underlying e = some (.int .u8))
    (s : ByteArray) (hx : a.eval x = .string s)
    (hK : ∀ w' c, Below w.heap.size w w' → w'.heap.size = w.heap.size + 1 → Bs w' w.heap.size 0 s.data.toList → s.size ≤ c →
      wpList P ops Q rest (a.put o.dst (.slice (some ⟨w.heap.size, 0, none⟩) s.size c)) w') : wpList P ops Q (o :: rest) a w := by
  refine wpList_plain hg fun K hK' => ?_
  have hrun := Lib.run_convert_string_bytes (P := P) w src dst e s hs hd he
  unfold Oper.wp
  simp [execOp, hop, hx, hrun, Result.andThen]
  have hfr : ∀ (v : World) (p : Addr) (n : Nat), (v.freeze p n).os = v.os ∧ (v.freeze p n).tape = v.tape ∧ (v.freeze p n).output = v.output := by
    intro v p n
    unfold World.freeze
    split <;> exact ⟨rfl, rfl, rfl⟩
  refine hK' _ _ (hK _ _ ⟨(hfr _ _ _).1, (hfr _ _ _).2.1, (hfr _ _ _).2.2, ?_, fun k hk => Lib.bytesWorld_at_old w e s k hk⟩ (Lib.bytesWorld_size w e s) ?_ (grownCap_ge w _ _ _))
  · rw [Lib.bytesWorld_size]; omega
  · intro j hj
    have hj' : j < s.size := by rw [Array.length_toList] at hj; exact hj
    have h2 := Lib.bytesWorld_cell w e s j hj'
    rw [Nat.zero_add, h2]
    simp only [List.getD, List.getElem?_eq_getElem hj, Option.getD_some]

/-- The bytes src are what a slice of address A and length m reads. -/
def Src (w : World) (A : Option Addr) (m : Nat) (src : List UInt8) : Prop := src.length = m ∧ (0 < m → ∃ b o, A = some ⟨b, o, none⟩ ∧ Bs w b o src)

theorem Src.at_ {b off : Nat} {l : List UInt8} (h : Bs w b off l) : Src w (some ⟨b, off, none⟩) l.length l := ⟨rfl, fun _ => ⟨b, off, rfl, h⟩⟩
theorem Src.none_ (A : Option Addr) : Src w A 0 [] := ⟨rfl, fun h => absurd h (by omega)⟩

theorem Src.alloc {A : Option Addr} {m : Nat} {src : List UInt8} (h : Src w A m src) (ob : Obj) : Src (w.alloc ob) A m src :=
  ⟨h.1, fun hm => by
    obtain ⟨b, o, e, hb⟩ := h.2 hm
    exact ⟨b, o, e, hb.alloc ob⟩⟩
theorem Src.below {A : Option Addr} {m : Nat} {src : List UInt8} {w' : World} (h : Src w A m src) (hb : Below w.heap.size w w') : Src w' A m src :=
  ⟨h.1, fun hm => by
    obtain ⟨b, o, e, hbs⟩ := h.2 hm
    exact ⟨b, o, e, hbs.below hb (hbs.lt (by rw [h.1]; exact hm))⟩⟩

theorem oneCell_bytes (l : List UInt8) : ∀ u ∈ Lib.byteCells l, u.oneCell' = true := by
  intro u hu
  obtain ⟨b, _, rfl⟩ := List.mem_map.1 hu
  rfl

theorem byteCells_append (l m : List UInt8) : Lib.byteCells (l ++ m) = Lib.byteCells l ++ Lib.byteCells m := by simp [Lib.byteCells]

/-- The bytes l are owned: v is a slice of the call's own whose elements they are. -/
def OwnB (w : World) (base : Nat) (e : TypeId) (v : Value) (l : List UInt8) : Prop := w.ownsRow base e 1 v l.length (Lib.byteCells l)

theorem OwnB.nil (w : World) (base : Nat) (e : TypeId) : OwnB w base e (.slice none 0 0) [] := World.ownsRow_nil w base e 1
theorem OwnB.alloc {base : Nat} {e : TypeId} {v : Value} {l : List UInt8} (h : OwnB w base e v l) (ob : Obj) : OwnB (w.alloc ob) base e v l := World.ownsRow.alloc h ob
theorem OwnB.drew {base : Nat} {e : TypeId} {v : Value} {l : List UInt8} (h : OwnB w base e v l) : OwnB w.drew base e v l := h
theorem OwnB.drewN {base : Nat} {e : TypeId} {v : Value} {l : List UInt8} (h : OwnB w base e v l) (n : Nat) : OwnB (w.drewN n) base e v l := h
theorem OwnB.lt {base : Nat} {e : TypeId} {v : Value} {l : List UInt8} (h : OwnB w base e v l) : ∀ k, v.ownBlock = some k → base ≤ k ∧ k < w.heap.size := World.ownsRow.lt h
theorem OwnB.kept {base : Nat} {e : TypeId} {v : Value} {l : List UInt8} {w' : World} {row : Option Nat} (h : OwnB w base e v l) (hg : w.grownBy w' row) (hne : v.ownBlock = none ∨ v.ownBlock ≠ row) : OwnB w' base e v l := World.ownsRow.kept h hg hne
theorem OwnB.apart {base : Nat} {e t : TypeId} {v : Value} {l : List UInt8} {g : Nat} {cs : Array Value} (h : OwnB w base e v l) (hg : Bk w g t cs) (hne : e ≠ t) : v.ownBlock ≠ some g := own_apart h hg hne
/-- Its bytes, as a source; nil or not. -/
theorem OwnB.src {base : Nat} {e : TypeId} {v : Value} {l : List UInt8} (h : OwnB w base e v l) : ∃ A c, v = .slice A l.length c ∧ l.length ≤ c ∧ Src w A l.length l := by
  have h' := h
  rcases h.2 with ⟨rfl, h0⟩ | ⟨g, cap, cur, rfl, _, _, hnc, _⟩
  · obtain rfl := List.eq_nil_of_length_eq_zero h0
    exact ⟨none, 0, rfl, Nat.le_refl _, rfl, fun h => absurd h (by simp)⟩
  · exact ⟨_, cap, rfl, hnc, Src.at_ (Bs.of_own h')⟩
theorem OwnB.form {base : Nat} {e : TypeId} {v : Value} {l : List UInt8} (h : OwnB w base e v l) (hl : 0 < l.length) : ∃ g cap, v = .slice (some ⟨g, 0, none⟩) l.length cap ∧ l.length ≤ cap ∧ base ≤ g ∧ Bs w g 0 l := by
  have h' := h
  rcases h.2 with ⟨_, h0⟩ | ⟨g, cap, cur, rfl, hb, _, hnc, _⟩
  · omega
  · exact ⟨g, cap, rfl, hnc, hb, Bs.of_own h'⟩

/-- 'append(s, x...)' of bytes onto a row of the call's own; r names what is there behind it. -/
theorem wpList_appendB (hg : o.guard = none) (s x : Operand) (t : TypeId)
    (hop : o.op = Op.call { callee := .builtin .append, args := #[s, x], argTypes := #[t, t] })
    (e : TypeId) (i : TypeInfo) (hu : P.underlying t = some (.slice e)) (hi : P.info? e = some i) (hz : i.zero = some (.int .u8 0)) (hsz : i.size = 1) (hby : i.bytes = 1)
    (base : Nat) (v : Value) (l : List UInt8) (hs : a.eval s = v) (hown : OwnB w base e v l)
    (A : Option Addr) (m c : Nat) (hx : a.eval x = .slice A m c) (src : List UInt8) (hsrc : Src w A m src)
    (hlen : l.length + src.length ≤ 140737488355328) (hbase : base ≤ w.heap.size) (r : List UInt8) (hr : l ++ src = r)
    (hK : ∀ v' w', OwnB w' base e v' r → w.grownBy w' v.ownBlock → (v'.ownBlock = v.ownBlock ∨ v'.ownBlock = some w.heap.size) →
      wpList P ops Q rest (a.put o.dst v') w') : wpList P ops Q (o :: rest) a w := by
  subst hr
  obtain ⟨rfl, hsrc⟩ := hsrc
  by_cases h0 : src.length = 0
  · obtain rfl : src = [] := List.eq_nil_of_length_eq_zero h0
    refine wpList_plain hg fun K hK' => ?_
    have hrun : (Builtin.append_ #[t, t] o.type #[v, .slice A 0 c]).run P w = .ok v w := by
      rcases hown.2 with ⟨rfl, hl0⟩ | ⟨g, cap, cur, rfl, _, hgg, hnc, _⟩
      · rcases A with _ | ad <;> simp [Builtin.append_, run_underlying hu, sizeOf, typeInfo, hi, Builtin.lenOf, Builtin.firstCells, loadCells, loadCellsFrom]
      · rcases A with _ | ad <;> simp [Builtin.append_, run_underlying hu, sizeOf, typeInfo, hi, Builtin.lenOf, Builtin.firstCells, loadCells, loadCellsFrom, hnc, storeCells]
    unfold Oper.wp
    simp [execOp, hop, resolve, invoke, builtin, hs, hx, hrun, Result.andThen]
    exact hK' _ _ (hK v w (by simpa using hown) (World.grownBy.refl w _) (.inl rfl))
  · obtain ⟨b, off, rfl, hbs⟩ := hsrc (by omega)
    refine wpList_append_own_at w hg s x t hop base e i (.int .u8 0) 1 1 hu hi hz hsz hby rfl (by omega) v l.length (Lib.byteCells l) hs hown ⟨b, off, none⟩ src.length c (Lib.byteCells src) hx
      (by simp [Lib.byteCells]) ?_ (oneCell_bytes src) (by unfold maxLen; omega) (by omega) hbase ?_
    · intro j u hj
      rw [Addr.add_lit]
      have hjl : j < src.length := by
        have := (List.getElem?_eq_some_iff.1 hj).1
        simpa [Lib.byteCells] using this
      rw [hbs j hjl]
      simpa [Lib.byteCells, hjl] using hj
    · intro v' w' h1 h2 _ h4
      refine hK v' w' ?_ h2 h4
      unfold OwnB
      rw [byteCells_append, List.length_append]
      exact h1

/-- 'copy(dst, src)' of bytes into a block that is known whole. -/
theorem wpList_copyB (hg : o.guard = none) (d s : Operand) (dT sT : TypeId) (hop : o.op = Op.call { callee := .builtin .copy, args := #[d, s], argTypes := #[dT, sT] })
    (e : TypeId) (hu : P.underlying dT = some (.slice e)) (hsz : (P.info? e).map (·.size) = some 1)
    (g off dLen dCap : Nat) (hd : a.eval d = .slice (some ⟨g, off, none⟩) dLen dCap) (A : Option Addr) (m c : Nat) (hs : a.eval s = .slice A m c) (src : List UInt8) (hsrc : Src w A m src)
    (L : List Value) (t : TypeId) (hb : Bk w g t L.toArray) (hfit : off + min m dLen ≤ L.length)
    (hK : ∀ w', Bk w' g t (splice L off (Lib.byteCells (src.take dLen))).toArray → w.grownBy w' (some g) → wpList P ops Q rest (a.put o.dst (.int .i64 ((min m dLen : Nat) : Int))) w') :
    wpList P ops Q (o :: rest) a w := by
  obtain ⟨rfl, hsrc⟩ := hsrc
  have hlen : (Lib.byteCells (src.take dLen)).length = Nat.min src.length dLen := by simp [Lib.byteCells, Nat.min_comm]
  refine wpList_plain hg fun K hK' => ?_
  by_cases h0 : Nat.min src.length dLen = 0
  · have hrun := run_copy_none (P := P) w dT sT o.type e (some ⟨g, off, none⟩) A dLen dCap src.length c hu hsz h0
    unfold Oper.wp
    simp [execOp, hop, resolve, invoke, builtin, hd, hs, hrun, Result.andThen]
    have hnil : Lib.byteCells (src.take dLen) = [] := List.eq_nil_of_length_eq_zero (hlen.trans h0)
    have h1 := hK w (by rw [hnil]; simpa [splice] using hb) (World.grownBy.refl w _)
    have h0' : min src.length dLen = 0 := h0
    rw [h0'] at h1
    exact hK' _ _ h1
  · have hpos : 0 < src.length := by
      rcases Nat.eq_zero_or_pos src.length with h | h
      · exact absurd (by rw [h]; exact Nat.zero_min _) h0
      · exact h
    obtain ⟨b, so, rfl, hbs⟩ := hsrc hpos
    have hrun := run_copy_row (P := P) w dT sT o.type e g off dLen dCap ⟨b, so, none⟩ src.length c L.toArray t (Lib.byteCells (src.take dLen)) hu hsz hb hlen ?_ (by rw [hlen]; simpa using hfit) (oneCell_bytes _)
    · unfold Oper.wp
      simp only [List.append_assoc] at hrun
      simp only [execOp, hop, resolve, invoke, builtin, Sem.run_bind, Sem.run_pure, Result.andThen_ok, List.map_toArray, List.map_cons, List.map_nil, hd, hs, hrun]
      have h1 := hK (w.setRow g (splice L off (Lib.byteCells (src.take dLen))).toArray) (setRow_heap w g _ _ _ _ hb) ⟨rfl, rfl, rfl, by simp, fun k _ hk => setRow_other w g k _ (fun e => hk (by rw [e]))⟩
      unfold splice at h1
      have e2 : ((min src.length dLen : Nat) : Int) = ((Lib.byteCells (src.take dLen)).length : Int) := by rw [hlen]
      rw [e2] at h1
      exact hK' _ _ h1
    · intro j u hj
      rw [Addr.add_lit]
      have hjl : j < (src.take dLen).length := by
        have := (List.getElem?_eq_some_iff.1 hj).1
        simpa [Lib.byteCells] using this
      rw [hbs.take dLen j hjl, ← hj]
      unfold Lib.byteCells
      rw [List.getElem?_map, List.getElem?_eq_getElem hjl]
      rfl
end
end Go.Proofs.YtkjgkjmaoebeoaaDoor
