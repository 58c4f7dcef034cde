/-
  Words for what a log's loop gathers; the contract of ZZEach's closure.
-/
import Derived.Test.YtpndlcjilgcfkaaGreatDoorIt0
import Derived.Maps.AppendAt
namespace Go.Proofs.YtpndlcjilgcfkaaGreatDoor
open Go Go.RowKit
open Go.Proofs

/-- Two lists, element by element. -/
inductive All2 {α β : Type} (R : α → β → Prop) : List α → List β → Prop
  | nil : All2 R [] []
  | cons {a : α} {b : β} {us : List α} {vs : List β} : R a b → All2 R us vs → All2 R (a :: us) (b :: vs)
section
variable {α β : Type} {R R' : α → β → Prop}
theorem All2.length {us : List α} {vs : List β} (h : All2 R us vs) : us.length = vs.length := by
  induction h with
  | nil => rfl
  | cons _ _ ih => simp [ih]
theorem All2.imp {us : List α} {vs : List β} (h : All2 R us vs) (f : ∀ a b, R a b → R' a b) : All2 R' us vs := by
  induction h with
  | nil => exact .nil
  | cons h _ ih => exact .cons (f _ _ h) ih
theorem All2.app {us us' : List α} {vs vs' : List β} (h : All2 R us vs) (h' : All2 R us' vs') : All2 R (us ++ us') (vs ++ vs') := by
  induction h with
  | nil => exact h'
  | cons h _ ih => exact .cons h ih
theorem All2.snoc {us : List α} {vs : List β} {a : α} {b : β} (h : All2 R us vs) (hr : R a b) : All2 R (us ++ [a]) (vs ++ [b]) := h.app (.cons hr .nil)
theorem All2.get {us : List α} {vs : List β} (h : All2 R us vs) : ∀ {j : Nat} (hj : j < vs.length), ∃ a, us[j]? = some a ∧ R a vs[j] := by
  induction h with
  | nil => intro j hj; simp at hj
  | @cons a b us vs h hs ih =>
    intro j hj
    cases j with
    | zero => exact ⟨a, rfl, h⟩
    | succ j => exact ih (by simpa using hj)
end

theorem own_form {w : World} {base e size n : Nat} {v : Value} {xs : List Value} (h : w.ownsRow base e size v n xs) : ∃ A c, v = .slice A n c := by
  rcases h.2 with ⟨rfl, rfl⟩ | ⟨g, cap, cur, rfl, _⟩
  · exact ⟨_, _, rfl⟩
  · exact ⟨_, _, rfl⟩

theorem row_parts {P : Program} {t : TypeId} {k : Nat} (h : (P.info? t).map (fun i => (i.zero.map (·.cells.size), i.size, decide (i.bytes ≤ 128))) = some (some k, k, true)) :
    ∃ i z, P.info? t = some i ∧ i.zero = some z ∧ i.size = k ∧ z.cells.size = k ∧ i.bytes ≤ 128 := by
  cases hi : P.info? t with
  | none => rw [hi] at h; cases h
  | some i =>
    rw [hi] at h
    simp only [Option.map_some, Option.some.injEq, Prod.mk.injEq, decide_eq_true_eq] at h
    cases hz : i.zero with
    | none => rw [hz] at h; simp at h
    | some z =>
      rw [hz] at h
      simp at h
      exact ⟨i, z, rfl, hz, h.2.1, h.1, h.2.2⟩

/-- 'append(s, x)' of one element that was just laid. -/
theorem wpList_append1 {P : Program} {w : World} {ops : Array Oper} {rest : List Oper} {o : Oper} {a : Act} {Q : Exit → Act → World → Prop} (hgd : o.guard = none) (s x : Operand) (t : TypeId)
    (ho : o.op = .call { callee := .builtin .append, args := #[s, x], argTypes := #[t, t] })
    (base : Nat) (e : TypeId) (size : Nat) (ht : P.underlying t = some (.slice e)) (hrow : (P.info? e).map (fun i => (i.zero.map (·.cells.size), i.size, decide (i.bytes ≤ 128))) = some (some size, size, true)) (hsz : 0 < size)
    (v : Value) (n : Nat) (xs : List Value) (hs : a.eval s = v) (hown : w.ownsRow base e size v n xs)
    (nb c : Nat) (news : List Value) (hx : a.eval x = .slice (some ⟨nb, 0, none⟩) 1 c) (hl : news.length = size) (hb : Bk w nb e news.toArray) (h1 : ∀ u ∈ news, u.oneCell' = true)
    (hn : n ≤ 1000000000000) (hbase : base ≤ w.heap.size)
    (h : ∀ A' c' w', w'.ownsRow base e size (.slice A' (n + 1) c') (n + 1) (xs ++ news) → Ch v.ownBlock.toList w w' → wpList P ops Q rest (a.put o.dst (.slice A' (n + 1) c')) w') :
    wpList P ops Q (o :: rest) a w := by
  obtain ⟨i, z, hi, hz, h2, h3, h4⟩ := row_parts hrow
  refine wpList_append_own_at w hgd s x t ho base e i z size i.bytes ht hi hz h2 rfl h3 hsz v n xs hs hown ⟨nb, 0, none⟩ 1 c news hx (by omega) ?_ h1 (by unfold maxLen; omega) ?_ hbase ?_
  · intro j u hj
    rw [Addr.add_lit, Nat.zero_add, hb.cell]
    simpa using hj
  · have : (n + 1) * i.bytes ≤ (1000000000000 + 1) * 128 := Nat.mul_le_mul (by omega) h4
    omega
  · intro v' w' k1 k2 _ _
    obtain ⟨A', c', rfl⟩ := own_form k1
    refine h A' c' w' k1 ⟨k2.os, k2.tape, k2.output, k2.size, fun k hk hkn => k2.block k hk fun he => hkn ?_⟩
    rw [← he]
    simp

/-- badger.ZZEntry, one entry told. -/
def ZzAt (B : Nat) (w : World) (cs : List Value) (e : LEnt) : Prop :=
  ∃ A1 c1 A2 c2 hd, cs = [.slice A1 e.key.length c1, .slice A2 e.val.length c2, .int .u8 (e.bits : Int), .int .u8 (e.um : Int), .int .u64 (e.exp : Int), .int .u32 (e.off : Int), .int .u32 (e.len : Int), .int .u32 hd] ∧
    SrcU B w A1 e.key.length e.key ∧ SrcU B w A2 e.val.length e.val
theorem ZzAt.ch {B : Nat} {S : List Nat} {w w' : World} {cs : List Value} {e : LEnt} (h : ZzAt B w cs e) (hc : Ch S w w') (hS : ∀ b, TyAt w b 5 → B ≤ b → b ∉ S) : ZzAt B w' cs e := by
  obtain ⟨A1, c1, A2, c2, hd, h1, h2, h3⟩ := h
  exact ⟨A1, c1, A2, c2, hd, h1, h2.ch hc hS, h3.ch hc hS⟩

/-- What is gathered so far: behind the variable at lb. -/
def Zz (B lb : Nat) (w : World) (l : List LEnt) : Prop :=
  ∃ v css, Bk w lb 52 #[v] ∧ w.ownsRow B 58 8 v l.length css.flatten ∧ All2 (ZzAt B w) css l
theorem Zz.ch {B lb : Nat} {S : List Nat} {w w' : World} {l : List LEnt} (h : Zz B lb w l) (hc : Ch S w w') (h1 : lb ∉ S) (hS : ∀ b, TyAt w b 5 → B ≤ b → b ∉ S) (hZ : ∀ b, TyAt w b 58 → B ≤ b → b ∉ S) : Zz B lb w' l := by
  obtain ⟨v, css, k1, k2, k3⟩ := h
  exact ⟨v, css, k1.ch hc h1, own_ch k2 hc (fun g hg => hZ g (own_ty k2 hg) (k2.lt g hg).1), k3.imp fun _ _ h => h.ch hc hS⟩

/-- A valuePointer as cells. -/
def vpC (fid len off : Nat) : Array Value := #[.int .u32 (fid : Int), .int .u32 (len : Int), .int .u32 (off : Int)]

set_option maxHeartbeats 8000000 in
set_option maxRecDepth 100000 in
theorem zzFn_any (B lb fid off0 hl : Nat) (A1 A2 : Option Addr) (c1 c2 : Nat) (e : LEnt) (l : List LEnt) (w : World) (hz : Zz B lb w l) (h1 : SrcU B w A1 e.key.length e.key) (h2 : SrcU B w A2 e.val.length e.val) (hl1 : l.length ≤ 1000000000) (hB : B ≤ w.heap.size) (hh : hl ≤ 1000000000) :
    Calls Tryz.prog 38 #[.agg (entC (.slice A1 e.key.length c1) (.slice A2 e.val.length c2) e.exp off0 e.um e.bits hl), .agg (vpC fid e.len e.off), .pointer (some ⟨lb, 0, none⟩)] w fun x w' =>
      x = .returned .nilIface ∧ Zz B lb w' (l ++ [e]) ∧ ∃ S, Ch S w w' ∧ (∀ b, b ∈ S → b = lb ∨ B ≤ b) ∧ (∀ b t, TyAt w b t → t ≠ 58 → t ≠ 52 → b ∉ S) := by
  obtain ⟨v, css, k1, k2, k3⟩ := hz
  have c0 := k1.cell 0
  have f0 := k1.free 0
  simp at c0
  obtain ⟨av, cv, rfl⟩ := own_form k2
  have hlw := k1.lt
  have wh : IntKind.u32.wrap (hl : Int) = (hl : Int) := IntWalk.u32_in _ (by omega)
  have hone : ∀ u ∈ [Value.slice A1 e.key.length c1, .slice A2 e.val.length c2, .int .u8 (e.bits : Int), .int .u8 (e.um : Int), .int .u64 (e.exp : Int), .int .u32 (e.off : Int), .int .u32 (e.len : Int), .int .u32 (hl : Int)], u.oneCell' = true := by
    intro u hu
    simp only [List.mem_cons, List.not_mem_nil, or_false] at hu
    rcases hu with rfl | rfl | rfl | rfl | rfl | rfl | rfl | rfl <;> rfl
  have hlbn : lb ∉ (Value.slice av l.length cv).ownBlock.toList := ty_notin k2 k1.ty (by decide)
  have k2w := World.ownsRow.alloc (World.ownsRow.alloc (World.ownsRow.alloc k2 (.cells (entC (.slice A1 e.key.length c1) (.slice A2 e.val.length c2) e.exp off0 e.um e.bits hl) 64)) (.cells (vpC fid e.len e.off) 101))
    (.cells #[.slice A1 e.key.length c1, .slice A2 e.val.length c2, .int .u8 (e.bits : Int), .int .u8 (e.um : Int), .int .u64 (e.exp : Int), .int .u32 (e.off : Int), .int .u32 (e.len : Int), .int .u32 (hl : Int)] 58)
  unfold entC vpC at *
  have hone' := Lib.hid hone
  clear hone
  have k1' := Lib.hid k1
  have k2' := Lib.hid k2
  have k3' := Lib.hid k3
  have h1' := Lib.hid h1
  have h2' := Lib.hid h2
  have k2w' := Lib.hid k2w
  have hlbn' := Lib.hid hlbn
  clear hlbn k2w h2 h1 k3 k2 k1
  go_enter Tryz.func38, Tryz.ntmps38
  go_wp2_with (at_builtin; refine wpList_append1 rfl (.tmp 6) (.tmp 25) 52 rfl B 58 8 Tryz.underlying52 (by kernel_rfl) (by omega) _ l.length css.flatten rfl k2w'.out (w.heap.size + 1 + 1) 1 [Value.slice A1 e.key.length c1, .slice A2 e.val.length c2, .int .u8 (e.bits : Int), .int .u8 (e.um : Int), .int .u64 (e.exp : Int), .int .u32 (e.off : Int), .int .u32 (e.len : Int), .int .u32 (hl : Int)] rfl rfl (Bk.at_ _ _ _ _ (by simp)) hone'.out (by omega) (by simp; omega) ?_; intro A' c' w1 hown1 hc1; have k1b := (((k1'.out.alloc _).alloc _).alloc _).ch hc1 hlbn'.out; have d0 := k1b.cell 0; have g0 := k1b.free 0; simp at d0; have k1b' := Lib.hid k1b; have hown1' := Lib.hid hown1; have hc1' := Lib.hid hc1; clear k1b hown1 hc1)
  go_ret
  have hcw : Ch (Value.slice av l.length cv).ownBlock.toList w w1 := (((Ch.refl _ w).alloc _).alloc _).alloc _ |>.trans hc1'.out
  have hlt1 : w.heap.size ≤ w1.heap.size := hcw.size
  have hS : ∀ b, TyAt w b 5 → B ≤ b → b ∉ (Value.slice av l.length cv).ownBlock.toList := fun b h _ => ty_notin k2'.out h (by decide)
  have hcl : Ch [lb] w1 (w1.setCell ⟨lb, 0, none⟩ (.slice A' (l.length + 1) c')) := (Ch.refl [lb] w1).setCell (p := ⟨lb, 0, none⟩) (.inl (by simp)) _
  have hS2 : ∀ b, TyAt w1 b 5 → B ≤ b → b ∉ [lb] := fun b h _ => by simpa using h.ne k1b'.out.ty (by decide)
  refine ⟨rfl, ⟨_, css ++ [_], k1b'.out.set 0 _, ?_, ((k3'.out.imp fun _ _ h => h.ch hcw hS).snoc (⟨A1, c1, A2, c2, hl, rfl, h1'.out.ch hcw hS, h2'.out.ch hcw hS⟩ : ZzAt B w1 _ e)).imp fun _ _ h => h.ch hcl hS2⟩,
    (Value.slice av l.length cv).ownBlock.toList ++ [lb], (hcw.mono fun y hy => .inl (List.mem_append_left _ hy)).trans' hcl (fun y hy => .inl (List.mem_append_right _ hy)), ?_, ?_⟩
  · rw [List.flatten_append, List.length_append]
    refine own_ch ?_ hcl (fun g hg => by simpa using (own_ty hown1'.out hg).ne k1b'.out.ty (by decide))
    simpa using hown1'.out
  · intro b hb
    rcases List.mem_append.1 hb with h | h
    · exact .inr (k2'.out.lt b (by simpa using h)).1
    · simp at h; exact .inl h
  · intro b t h n1 n2 hb
    rcases List.mem_append.1 hb with h2 | h2
    · exact ty_notin k2'.out h n1 h2
    · simp at h2; exact h.ne k1'.out.ty n2 h2

/-- A pointer to an entry of the log that was read. -/
def EpAt (B : Nat) (w : World) (v : Value) (e : LEnt) : Prop :=
  ∃ eb A1 c1 A2 c2 hl, v = .pointer (some ⟨eb, 0, none⟩) ∧ Bk w eb 64 (entC (.slice A1 e.key.length c1) (.slice A2 e.val.length c2) e.exp e.off e.um e.bits hl) ∧ SrcU B w A1 e.key.length e.key ∧ SrcU B w A2 e.val.length e.val ∧ e.key.length ≤ c1 ∧ e.val.length ≤ c2 ∧ hl ≤ 1000000000 ∧ B ≤ eb
theorem EpAt.ch {B : Nat} {S : List Nat} {w w' : World} {v : Value} {e : LEnt} (h : EpAt B w v e) (hc : Ch S w w') (hS : ∀ b, TyAt w b 5 → B ≤ b → b ∉ S) (hE : ∀ b, TyAt w b 64 → B ≤ b → b ∉ S) : EpAt B w' v e := by
  obtain ⟨eb, A1, c1, A2, c2, hl, h1, h2, h3, h4, h5, h6, h7, h8⟩ := h
  exact ⟨eb, A1, c1, A2, c2, hl, h1, h2.ch hc (hE eb h2.ty h8), h3.ch hc hS, h4.ch hc hS, h5, h6, h7, h8⟩
/-- A valuePointer of it. -/
def VpAt (cs : List Value) (e : LEnt) : Prop := ∃ fid : Nat, cs = [.int .u32 (fid : Int), .int .u32 (e.len : Int), .int .u32 (e.off : Int)]

/-- What is open: the entries and their pointers. -/
def Eps (B : Nat) (w : World) (v : Value) (l : List LEnt) : Prop := ∃ xs, w.ownsRow B 60 1 v l.length xs ∧ All2 (EpAt B w) xs l
def Vps (B : Nat) (w : World) (v : Value) (l : List LEnt) : Prop := ∃ ys, w.ownsRow B 101 3 v l.length ys.flatten ∧ All2 VpAt ys l
theorem Eps.ch {B : Nat} {S : List Nat} {w w' : World} {v : Value} {l : List LEnt} (h : Eps B w v l) (hc : Ch S w w') (hS : ∀ b, TyAt w b 5 → B ≤ b → b ∉ S) (hE : ∀ b, TyAt w b 64 → B ≤ b → b ∉ S) (hP : ∀ b, TyAt w b 60 → B ≤ b → b ∉ S) : Eps B w' v l := by
  obtain ⟨xs, h1, h2⟩ := h
  exact ⟨xs, own_ch h1 hc (fun g hg => hP g (own_ty h1 hg) (h1.lt g hg).1), h2.imp fun _ _ h => h.ch hc hS hE⟩
theorem Vps.ch {B : Nat} {S : List Nat} {w w' : World} {v : Value} {l : List LEnt} (h : Vps B w v l) (hc : Ch S w w') (hP : ∀ b, TyAt w b 101 → B ≤ b → b ∉ S) : Vps B w' v l := by
  obtain ⟨xs, h1, h2⟩ := h
  exact ⟨xs, own_ch h1 hc (fun g hg => hP g (own_ty h1 hg) (h1.lt g hg).1), h2⟩
end Go.Proofs.YtpndlcjilgcfkaaGreatDoor
