/-
  The closure of ZZDiscards that collects all rows; the rows collected.
-/
import Derived.Test.YtjioghedokbgcaaDoorDisX
import Derived.Test.YtjioghedokbgcaaDoorRow
namespace Go.Proofs.YtjioghedokbgcaaDoor
open Go Go.RowKit
open Go.Proofs

/-- The cells of rows of two numbers. -/
def rowCs (l : List (Nat × Nat)) : List Value := l.flatMap fun x => [.int .u64 (x.1 : Int), .int .u64 (x.2 : Int)]
theorem rowCs_append (l m : List (Nat × Nat)) : rowCs (l ++ m) = rowCs l ++ rowCs m := by simp [rowCs]

set_option maxHeartbeats 2000000 in
set_option maxRecDepth 20000 in
theorem allFn_any (ab B f v : Nat) (l : List (Nat × Nat)) (vv : Value) (w : World) (hb : Bk w ab 29 #[vv]) (hown : w.ownsRow B 33 2 vv l.length (rowCs l)) (hB : B ≤ w.heap.size) (hl : l.length ≤ 1000000) :
    Calls Tryd.prog 11 #[.int .u64 (f : Int), .int .u64 (v : Int), .pointer (some ⟨ab, 0, none⟩)] w fun e w' => e = .returned (.tuple #[]) ∧
      (∃ vv', Bk w' ab 29 #[vv'] ∧ w'.ownsRow B 33 2 vv' (l ++ [(f, v)]).length (rowCs (l ++ [(f, v)]))) ∧ ∃ S, Ch S w w' ∧ ∀ b, b ∈ S → b = ab ∨ B ≤ b := by
  have c0 := hb.cell 0
  have f0 := hb.free 0
  simp at c0
  obtain ⟨av, cv, rfl⟩ := own_form hown
  have hone : ∀ u ∈ [Value.int .u64 (f : Int), .int .u64 (v : Int)], u.oneCell' = true := by
    intro u hu
    simp only [List.mem_cons, List.not_mem_nil, or_false] at hu
    rcases hu with rfl | rfl <;> rfl
  have hlbn : ab ∉ (Value.slice av l.length cv).ownBlock.toList := ty_notin hown hb.ty (by decide)
  have k2w := World.ownsRow.alloc hown (.cells #[.int .u64 (f : Int), .int .u64 (v : Int)] 33)
  have hone' := Lib.hid hone
  clear hone
  have hb' := Lib.hid hb
  have hown' := Lib.hid hown
  have k2w' := Lib.hid k2w
  have hlbn' := Lib.hid hlbn
  clear hlbn k2w hown hb
  go_enter Tryd.func11, Tryd.ntmps11
  go_wp2_with (at_builtin; refine wpList_append1 rfl (.tmp 5) (.tmp 9) 29 rfl B 33 2 Tryd.underlying29 (by kernel_rfl) (by omega) _ l.length (rowCs l) rfl k2w'.out w.heap.size 1 [.int .u64 (f : Int), .int .u64 (v : Int)] rfl rfl (Bk.at_ _ _ _ _ (by simp)) hone'.out (by omega) (by simp; omega) ?_; intro A' c' w1 hown1 hc1 hat1; have k1b := (hb'.out.alloc _).ch hc1 hlbn'.out; have d0 := k1b.cell 0; have g0 := k1b.free 0; simp at d0; have k1b' := Lib.hid k1b; have hown1' := Lib.hid hown1; have hc1' := Lib.hid hc1; clear k1b hown1 hc1)
  go_end0
  have hcw : Ch (Value.slice av l.length cv).ownBlock.toList w w1 := ((Ch.refl _ w).alloc _).trans hc1'.out
  have hcl : Ch [ab] w1 (w1.setCell ⟨ab, 0, none⟩ (.slice A' (l.length + 1) c')) := (Ch.refl [ab] w1).setCell (p := ⟨ab, 0, none⟩) (.inl (by simp)) _
  refine ⟨rfl, ⟨_, k1b'.out.set 0 _, ?_⟩, (Value.slice av l.length cv).ownBlock.toList ++ [ab], (hcw.mono fun y hy => .inl (List.mem_append_left _ hy)).trans' hcl (fun y hy => .inl (List.mem_append_right _ hy)), ?_⟩
  · rw [rowCs_append, List.length_append]
    refine own_ch ?_ hcl (fun g hg => by simpa using (own_ty hown1'.out hg).ne k1b'.out.ty (by decide))
    exact hown1'.out
  · intro b hb
    rcases List.mem_append.1 hb with h | h
    · exact .inr (hown'.out.lt b (by simpa using h)).1
    · simp at h; exact .inl h

set_option maxHeartbeats 2000000 in
theorem allRows_any (sb mb fb kb nb db s ab : Nat) (cs : Array Value) (nodes now name synced md at_ : Value) (rest : List UInt8) (d : Array (Nat × Nat)) (W : World)
    (h : StatAt sb mb fb kb nb db s cs nodes now name synced md at_ rest d W) (ha : Bk W ab 29 #[.slice none 0 0]) :
    Calls Tryd.prog 10 #[.pointer (some ⟨sb, 0, none⟩), .func (.func 11) #[] #[.pointer (some ⟨ab, 0, none⟩)]] W fun e w' => e = .returned (.tuple #[]) ∧
      (∃ vv, Bk w' ab 29 #[vv] ∧ w'.ownsRow W.heap.size 33 2 vv d.size (rowCs d.toList)) ∧ Ch [ab] W w' := by
  have hsix := h.six
  have hal := ha.lt
  have a1 := h.mem.stat.apart ha (by decide)
  have a2 := h.mem.map.apart ha (by decide)
  have a3 := h.mem.file.file.apart ha (by decide)
  have a4 := h.mem.file.disk.apart ha (by decide)
  have a5 := h.mem.file.node.apart ha (by decide)
  have a6 := h.mem.file.data.apart ha (by decide)
  have hfew := h.few
  have ht : d.toList.take d.size = d.toList := List.take_of_length_le (Nat.le_of_eq Array.length_toList)
  refine (iterAll_any sb mb fb kb nb db s cs nodes now name synced md at_ rest d W ab
    (fun i w => StatAt sb mb fb kb nb db s cs nodes now name synced md at_ rest d w ∧ (∃ vv, Bk w ab 29 #[vv] ∧ w.ownsRow W.heap.size 33 2 vv (d.toList.take i).length (rowCs (d.toList.take i))) ∧ Ch [ab] W w)
    (fun i w hR => hR.1)
    (fun i w w' hR hb => ⟨hR.1.below hb, by
      obtain ⟨vv, h1, h2⟩ := hR.2.1
      exact ⟨vv, h1.below hb h1.lt, own_ch h2 (Ch.of_below hb : Ch [] w w') (fun g _ hm => by cases hm)⟩, hR.2.2.trans_nil (Ch.of_below hb)⟩)
    (fun i w hi hR => ?_) ⟨h, ⟨_, ha, World.ownsRow_nil W W.heap.size _ _⟩, Ch.refl _ _⟩).mono ?_
  · obtain ⟨h1, ⟨vv, h2, h3⟩, h4⟩ := hR
    refine (allFn_any ab W.heap.size d[i]!.1 d[i]!.2 _ vv w h2 h3 h4.size (by simp; omega)).mono ?_
    rintro e w' ⟨rfl, ⟨vv', k1, k2⟩, S, k3, k4⟩
    have hS : ∀ k, k < W.heap.size → k ≠ ab → k ∉ S := fun k hk hn hm => by
      rcases k4 k hm with e | e
      · exact hn e
      · omega
    refine ⟨rfl, h1.ch6 k3 (hS _ (by omega) a1) (hS _ (by omega) a2) (hS _ (by omega) a3) (hS _ (by omega) a4) (hS _ (by omega) a5) (hS _ (by omega) a6), ⟨vv', k1, ?_⟩, h4.trans' k3 fun k hk => ?_⟩
    · have e : d.toList.take (i + 1) = d.toList.take i ++ [(d[i]!.1, d[i]!.2)] := by
        rw [List.take_add_one]
        simp [hi]
      rw [e]
      exact k2
    · rcases k4 k hk with e | e
      · exact .inl (by simp [e])
      · exact .inr e
  · rintro e w' ⟨rfl, h1, ⟨vv, h2, h3⟩, h4⟩
    rw [ht, Array.length_toList] at h3
    exact ⟨rfl, ⟨vv, h2, h3⟩, h4⟩
end Go.Proofs.YtjioghedokbgcaaDoor
