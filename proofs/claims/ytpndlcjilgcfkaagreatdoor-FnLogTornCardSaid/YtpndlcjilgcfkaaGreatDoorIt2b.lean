/-
  For the end of a transaction: bytes to a string whatever they are, strconv.ParseUint in one law, and what its answer says of the digits.
-/
import Derived.Test.YtpndlcjilgcfkaaGreatDoorIt2a
import Derived.Lib.AtoiErrMem
namespace Go.Proofs.YtpndlcjilgcfkaaGreatDoor
open Go Go.RowKit
open Go.Proofs

/-- 'string(b)' of bytes in memory, of none of them too. -/
theorem run_b2sU (src dst e : TypeId) (hs : Tryz.prog.underlying src = some (.slice e)) (he : Tryz.prog.underlying e = some (.int .u8)) (hd : Tryz.prog.underlying dst = some .string) (A : Option Addr) (n c : Nat) (l : List UInt8) (w : World) (h : Src w A n l) :
    (convert src dst (.slice A n c)).run Tryz.prog w = .ok (.string ⟨l.toArray⟩) w := by
  obtain ⟨hl, h2⟩ := h
  by_cases hn : 0 < n
  · obtain ⟨b, off, rfl, hc⟩ := h2 hn
    have hrun := run_convert_bytes_arg (P := Tryz.prog) w src e hs he b off n c (l.map fun u => (u.toNat : Int)) (by simpa using hl)
      (fun i hi => by subst hl; rw [hc i hi]; simp [List.getD, hi]) dst hd
    rw [foldl_eq_strOf] at hrun
    exact hrun
  · obtain rfl : n = 0 := by omega
    obtain rfl : l = [] := List.eq_nil_of_length_eq_zero hl
    cases A with
    | none => exact run_convert_bytes_nil w src e hs he 0 c dst hd
    | some a =>
      rw [run_convert_bytes_string w src dst e _ 0 c hs he hd, run_bytesToString w a 0 c [] (run_loadCells_list (P := Tryz.prog) w a [] (fun j v hj => by simp at hj))]
      rfl

/-- strconv.ParseUint(s, 10, 64). -/
theorem parseUint_any (l : List UInt8) (w : World) (hl : l.length ≤ 1000000000) (h1 : ∃ te pe, w.cell? ⟨11, 0, none⟩ = some (.iface te pe)) (h2 : ∃ te pe, w.cell? ⟨12, 0, none⟩ = some (.iface te pe)) :
    Calls Tryz.prog 58 #[.string ⟨l.toArray⟩, .int .i64 10, .int .i64 64] w fun e w' => Ch [] w w' ∧
      ((∃ u : Nat, Lib.parseUintB 64 l = .ok u ∧ e = .returned (.tuple #[.int .u64 (u : Int), .nilIface])) ∨ ((∀ u, Lib.parseUintB 64 l ≠ .ok u) ∧ ∃ (n : Nat) (a : Addr), e = .returned (.tuple #[.int .u64 (n : Int), .iface 207 (.pointer (some a))]))) := by
  obtain ⟨t1, p1, h1⟩ := h1
  obtain ⟨t2, p2, h2⟩ := h2
  have hd : (⟨l.toArray⟩ : ByteArray).data.toList = l := by simp
  have hs : (⟨l.toArray⟩ : ByteArray).size = l.length := by simp [ByteArray.size]
  rcases hp : Lib.parseUintB 64 l with u | _ | _
  · refine (Tryz.strconv_ParseUint_10_at64_ok ⟨l.toArray⟩ (by omega) u (by rw [hd]; exact hp) w).mono ?_
    rintro e w' ⟨rfl, hw⟩
    refine ⟨?_, .inl ⟨u, rfl, rfl⟩⟩
    rcases hw with rfl | rfl
    · exact Ch.refl _ _
    · exact Ch.of_below (Lib.bytesWorld_below _ _ _)
  · refine (Tryz.strconv_ParseUint_10_at64_syntax ⟨l.toArray⟩ (by omega) (fun u h => by rw [hd, hp] at h; cases h) (fun h => by rw [hd, hp] at h; cases h) _ w h1 (.inr ⟨_, _, rfl⟩)).mono ?_
    rintro e w' ⟨N, rfl, _, _, hb⟩
    exact ⟨Ch.of_below hb, .inr ⟨(fun u h => by cases h), 0, _, rfl⟩⟩
  · refine (Tryz.strconv_ParseUint_10_at64_range ⟨l.toArray⟩ (by omega) (by rw [hd]; exact hp) _ w h2 (.inr ⟨_, _, rfl⟩)).mono ?_
    rintro e w' ⟨N, rfl, _, _, hb⟩
    exact ⟨Ch.of_below hb, .inr ⟨(fun u h => by cases h), 18446744073709551615, _, rfl⟩⟩

/-- A number that was read is the version iff the bytes are its digits; a leading zero or sign is not asked about. -/
theorem parse_ver {l : List UInt8} {n : Nat} (hn : n < 18446744073709551616) (hq : l ≠ dec n → l = [] ∨ (l.getD 0 0).toNat ≠ 48 ∧ (l.getD 0 0).toNat ≠ 43) :
    (l = dec n → Lib.parseUintB 64 l = .ok n) ∧ (∀ u, Lib.parseUintB 64 l = .ok u → l ≠ dec n → u ≠ n) := by
  refine ⟨fun h => by rw [h]; exact parseB_dec hn, ?_⟩
  intro u hu hne he
  subst he
  rcases hq hne with h | h
  · subst h
    simp [Lib.parseUintB] at hu
  · exact hne (parseB_eq hu h.1)

/-- A transaction has ended: its entries are told. -/
theorem it_end {B0 B lb rb bb zb db sb lfb k : Nat} {b : List UInt8} {r : List LEnt × Nat × Bool} {s : LSt} {E : LEnt} {v14 v15 : Value} {w w3 : World}
    (hbun : Bun B0 B lb rb bb zb db sb lfb b (s.at_ + E.len) (s.l ++ s.op) w w3) (heps : Eps B w3 v14 []) (hvps : Vps B w3 v15 [])
    (hk : b.length < k + s.at_) (hrun : lRun b k s = r) (hstep : lStep b s = .inl ⟨s.l ++ s.op, [], 0, s.at_ + E.len, s.at_ + E.len⟩)
    (hat : s.at_ + E.len ≤ b.length) (hel : 0 < E.len) (h6 : s.l.length + s.op.length ≤ s.at_) (hat0 : s.at_ ≤ b.length) :
    ItRel B0 B lb rb bb zb db sb lfb b r ⟨s.l ++ s.op, [], 0, s.at_ + E.len, s.at_ + E.len⟩ v14 v15 w w3 := by
  obtain ⟨k, rfl⟩ : ∃ j, k = j + 1 := ⟨k - 1, by omega⟩
  rw [lRun_step hstep] at hrun
  exact {
    h1 := hat
    h3 := ⟨k, by simp; omega, hrun⟩
    h4 := by simp
    h5 := hat
    h6 := by simp; omega
    rd := hbun.rd
    sb := hbun.sb
    gs := hbun.gs
    zz := hbun.zz
    ep := heps
    vp := hvps
    ch := hbun.ch }

/-- What the closure leaves: the rest stays as it was. -/
theorem Bun.told {B0 B lb rb bb zb db sb lfb at_ : Nat} {b : List UInt8} {l l' : List LEnt} {S : List Nat} {w wc w3 : World} (hbun : Bun B0 B lb rb bb zb db sb lfb b at_ l w wc)
    (hz : Zz B lb w3 l') (hc : Ch S wc w3) (hS1 : ∀ g, g ∈ S → g = lb ∨ B ≤ g) (hS2 : ∀ g t, TyAt wc g t → t ≠ 58 → t ≠ 52 → g ∉ S)
    (hne : rb ≠ lb ∧ bb ≠ lb ∧ zb ≠ lb ∧ db ≠ lb ∧ B0 ≤ lb) : Bun B0 B lb rb bb zb db sb lfb b at_ l' w w3 := by
  obtain ⟨k1, k2, k3, k4, k5, k6, k7⟩ := hbun.lt
  obtain ⟨n1, n2, n3, n4, n5⟩ := hne
  have hlow : ∀ g, g < B → g ≠ lb → g ∉ S := fun g hg hn hm => by rcases hS1 g hm with h | h <;> omega
  obtain ⟨a1, m1, c1, a2, m2, c2, hsb⟩ := hbun.sb
  exact {
    rd := hbun.rd.ch hc (hlow _ k1 n1) (hlow _ k2 n2) (hlow _ k3 n3) (hlow _ k4 n4)
    sb := ⟨a1, m1, c1, a2, m2, c2, hsb.ch hc (hS2 _ _ hsb.ty (by decide) (by decide))⟩
    gs := hbun.gs.ch hc fun g hg => by rcases hS1 g hg with h | h <;> omega
    zz := hz
    ch := hbun.ch.trans' hc fun g hg => by
      rcases hS1 g hg with h | h
      · exact .inl (by simp [h])
      · exact .inr (by omega)
    lt := hbun.lt }
theorem Eps.told {B : Nat} {S : List Nat} {W W' : World} {v : Value} {l : List LEnt} (h : Eps B W v l) (hc : Ch S W W') (hS2 : ∀ g t, TyAt W g t → t ≠ 58 → t ≠ 52 → g ∉ S) : Eps B W' v l :=
  h.ch hc (fun _ hg _ => hS2 _ _ hg (by decide) (by decide)) (fun _ hg _ => hS2 _ _ hg (by decide) (by decide)) (fun _ hg _ => hS2 _ _ hg (by decide) (by decide))
theorem Vps.told {B : Nat} {S : List Nat} {W W' : World} {v : Value} {l : List LEnt} (h : Vps B W v l) (hc : Ch S W W') (hS2 : ∀ g t, TyAt W g t → t ≠ 58 → t ≠ 52 → g ∉ S) : Vps B W' v l :=
  h.ch hc (fun _ hg _ => hS2 _ _ hg (by decide) (by decide))

/-- A row that is cut to nothing: 's[:0]'. -/
theorem own_cut0 {w : World} {base e size n : Nat} {A : Option Addr} {m c : Nat} {xs : List Value} (h : w.ownsRow base e size (.slice A m c) n xs) : w.ownsRow base e size (.slice A 0 c) 0 [] := by
  refine ⟨by simp, ?_⟩
  rcases h.2 with ⟨h1, h2⟩ | ⟨g, cap, cur, h1, h2, h3, h4, h5, h6, h7⟩
  · injection h1 with h1 _ h3
    subst h1
    subst h3
    exact .inl ⟨rfl, rfl⟩
  · injection h1 with h1 _ h3
    subst h1
    subst h3
    exact .inr ⟨g, _, cur, rfl, h2, h3, by omega, h5, h6, by simp⟩

/-- A cell of an owned row. -/
theorem own_cell {w : World} {base e size n : Nat} {A : Option Addr} {c : Nat} {xs : List Value} (h : w.ownsRow base e size (.slice A n c) n xs) {o : Nat} {x : Value} (ho : xs[o]? = some x) :
    ∃ g, A = some ⟨g, 0, none⟩ ∧ base ≤ g ∧ w.cell? ⟨g, o, none⟩ = some x := by
  have hlen := h.1
  rcases h.2 with ⟨_, h2⟩ | ⟨g, cap, cur, h1, h2, h3, h4, h5, h6, h7⟩
  · subst h2
    rw [Nat.zero_mul] at hlen
    rw [List.eq_nil_of_length_eq_zero hlen] at ho
    simp at ho
  · injection h1 with h1 _ _
    refine ⟨g, h1, h2, ?_⟩
    have hb : Bk w g e cur := h3
    rw [hb.cell]
    have hol : o < xs.length := by
      rcases Nat.lt_or_ge o xs.length with h | h
      · exact h
      · rw [List.getElem?_eq_none h] at ho; cases ho
    rw [← h7, List.getElem?_take_of_lt (by omega)] at ho
    simpa using ho

theorem vps_flat {ys : List (List Value)} {l : List LEnt} (h : All2 VpAt ys l) : ∀ {j : Nat} (hj : j < l.length), ∃ fid : Nat, ys.flatten[j * 3]? = some (.int .u32 (fid : Int)) ∧ ys.flatten[j * 3 + 1]? = some (.int .u32 (l[j].len : Int)) ∧ ys.flatten[j * 3 + 2]? = some (.int .u32 (l[j].off : Int)) := by
  induction h with
  | nil => intro j hj; simp at hj
  | @cons a e us vs h hs ih =>
    intro j hj
    obtain ⟨fid, rfl⟩ := h
    cases j with
    | zero => exact ⟨fid, rfl, rfl, rfl⟩
    | succ j =>
      obtain ⟨f, h1, h2, h3⟩ := ih (j := j) (by simpa using hj)
      refine ⟨f, ?_, ?_, ?_⟩
      · rw [show (j + 1) * 3 = j * 3 + 1 + 1 + 1 by omega]; simpa using h1
      · rw [show (j + 1) * 3 + 1 = j * 3 + 1 + 1 + 1 + 1 by omega]; simpa using h2
      · rw [show (j + 1) * 3 + 2 = j * 3 + 2 + 1 + 1 + 1 by omega]; simpa using h3
end Go.Proofs.YtpndlcjilgcfkaaGreatDoor
