/-
  A slice of entries as it is handed in; zzFits6, lEntries over it.
-/
import Derived.Test.YtpndlcjilgcfkaaGreatDoorSame
import Derived.Test.YtpndlcjilgcfkaaGreatDoorEnt
namespace Go.Proofs.YtpndlcjilgcfkaaGreatDoor
open Go Go.RowKit
open Go.Proofs

/-- A slice of entries that is read: the numbers fit their kinds. -/
structure EntsR (w : World) (v : Value) (l : List LEnt) : Prop where
  form : ∃ A c, v = .slice A l.length c
  at_ : ∀ j (hj : j < l.length), ∃ b o c, v = .slice (some ⟨b, o, none⟩) l.length c ∧ b < w.heap.size ∧ w.cell? ⟨b, o + j * 7, none⟩ = some (.string ⟨l[j].key.toArray⟩) ∧ w.cell? ⟨b, o + j * 7 + 1, none⟩ = some (.string ⟨l[j].val.toArray⟩) ∧ w.cell? ⟨b, o + j * 7 + 2, none⟩ = some (.int .u8 (l[j].bits : Int)) ∧
    w.cell? ⟨b, o + j * 7 + 3, none⟩ = some (.int .u8 (l[j].um : Int)) ∧ w.cell? ⟨b, o + j * 7 + 4, none⟩ = some (.int .u64 (l[j].exp : Int)) ∧ w.cell? ⟨b, o + j * 7 + 5, none⟩ = some (.int .u32 (l[j].off : Int)) ∧ w.cell? ⟨b, o + j * 7 + 6, none⟩ = some (.int .u32 (l[j].len : Int))
  wf : ∀ e, e ∈ l → e.bits < 256 ∧ e.um < 256 ∧ e.exp < 18446744073709551616
theorem EntsR.below {w w' : World} {v : Value} {l : List LEnt} (h : EntsR w v l) (hb : Below w.heap.size w w') : EntsR w' v l := by
  refine ⟨h.form, fun j hj => ?_, h.wf⟩
  obtain ⟨b, o, c, e, hlt, c0, c1, c2, c3, c4, c5, c6⟩ := h.at_ j hj
  have hc : ∀ i, w'.cell? ⟨b, i, none⟩ = w.cell? ⟨b, i, none⟩ := fun i => hb.cell (p := ⟨b, i, none⟩) hlt
  exact ⟨b, o, c, e, Nat.lt_of_lt_of_le hlt hb.size, (hc _).trans c0, (hc _).trans c1, (hc _).trans c2, (hc _).trans c3, (hc _).trans c4, (hc _).trans c5, (hc _).trans c6⟩

/-- What zzFits6 tells. -/
def fit5 (e : LEnt) : Bool := decide (e.key.length ≤ 2147483647 ∧ e.val.length ≤ 2147483647)
def fit6 (l : List LEnt) : Bool := decide (l.length ≤ 2147483647) && l.all fit5
/-- What lEntries tells. -/
def small1 (e : LEnt) : Bool := decide (0 < e.key.length ∧ e.key.length ≤ 200 ∧ e.val.length ≤ 500)
def small50 (l : List LEnt) : Bool := l.all small1 && decide (l.length ≤ 50)

theorem all_not {α : Type} {p : α → Bool} {l : List α} {j : Nat} (hj : j < l.length) (h : p l[j] = false) : l.all p = false := by
  rw [List.all_eq_false]
  exact ⟨l[j], List.getElem_mem hj, by rw [h]; decide⟩
theorem take_all {α : Type} {p : α → Bool} {l : List α} {j : Nat} (hj : j < l.length) (h : (l.take j).all p = true) (h1 : p l[j] = true) : (l.take (j + 1)).all p = true := by
  rw [List.take_succ_eq_append_getElem hj, List.all_append, h]
  simp [h1]

set_option maxHeartbeats 4000000 in
set_option maxRecDepth 20000 in
theorem zzFits6_any (l : List LEnt) (v : Value) (w : World) (hv : EntsR w v l) (hl : l.length ≤ 9223372036854775807) :
    Calls Tryz.prog 11 #[v] w fun e w' => e = .returned (.bool (fit6 l)) ∧ Below w.heap.size w w' := by
  obtain ⟨A, c, rfl⟩ := hv.form
  obtain ⟨n, hn⟩ : ∃ n, l.length = n := ⟨_, rfl⟩
  rw [hn] at hv hl
  rw [hn]
  by_cases h0 : 2147483647 < n
  · have hr : fit6 l = false := by unfold fit6; rw [hn, decide_eq_false (by omega)]; rfl
    have h0I : 2147483647 < (n : Int) := by omega
    rw [hr]
    have hv' := Lib.hid hv
    have hn' := Lib.hid hn
    have hr' := Lib.hid hr
    clear hr hn hv
    go_enter Tryz.func11, Tryz.ntmps11
    go_wp2_with fail
    go_ret
    exact ⟨rfl, Below.refl _ _⟩
  · have h0I : ¬ 2147483647 < (n : Int) := by omega
    have hf6 : fit6 l = l.all fit5 := by unfold fit6; rw [hn, decide_eq_true (by omega)]; simp
    rw [hf6]
    have hv' := Lib.hid hv
    have hn' := Lib.hid hn
    have hf6' := Lib.hid hf6
    clear hf6 hn hv
    go_enter Tryz.func11, Tryz.ntmps11
    go_wp2_with fail
    go_loopw [10] (fun s10 wx => ∃ j : Nat, j ≤ n ∧ s10 = .int .i64 (j : Int) ∧ (l.take j).all fit5 = true ∧ Below w.heap.size w wx) (fun s10 _ => n - (intOf s10).toNat)
    case atStart => exact ⟨0, Nat.zero_le _, rfl, rfl, Below.refl _ _⟩
    case round =>
      obtain ⟨j, hj, rfl, hall, hbw⟩ := hrel
      by_cases hlt : j < n
      · have hltI : (j : Int) < (n : Int) := by omega
        have hjl : j < l.length := by have := hn'.out; omega
        obtain ⟨g, o, c2, he, hg, c0, c1, c2', c3, c4, c5, c6⟩ := (hv'.out.below hbw).at_ j hjl
        have hA : A = some ⟨g, o, none⟩ := by injection he
        clear he
        subst hA
        obtain ⟨E, hE⟩ : ∃ E, l[j] = E := ⟨_, rfl⟩
        have hcall := fun W => zzFits5_any ⟨E.key.toArray⟩ ⟨E.val.toArray⟩ E.bits E.um E.exp E.off E.len W
        have hsz1 : (ByteArray.mk E.key.toArray).size = E.key.length := by simp [ByteArray.size]
        have hsz2 : (ByteArray.mk E.val.toArray).size = E.val.length := by simp [ByteArray.size]
        rw [hsz1, hsz2] at hcall
        unfold entCells at hcall
        rw [hE] at c0 c1 c2' c3 c4 c5 c6
        obtain ⟨P, hP⟩ : ∃ P, decide (E.key.length ≤ 2147483647 ∧ E.val.length ≤ 2147483647) = P := ⟨_, rfl⟩
        rw [hP] at hcall
        have hPf : fit5 l[j] = P := by rw [hE]; exact hP
        have hcall' := fun W => Lib.hid (hcall W)
        clear hcall hsz1 hsz2
        have hbw' := Lib.hid hbw
        have hE' := Lib.hid hE
        have hall' := Lib.hid hall
        have hP' := Lib.hid hP
        have hPf' := Lib.hid hPf
        clear hPf hP hall hE hbw
        go_wp2_with fail
        refine (hcall' _).out.mono ?_
        rintro e w2 ⟨rfl, hb2⟩
        have hb3 := below_call_ hb2 (below_alloc_ hbw'.out _)
        have hb2' := Lib.hid hb2
        have hb3' := Lib.hid hb3
        clear hb3 hb2
        cases P with
        | false =>
          have hr := all_not hjl hPf'.out
          have hr' := Lib.hid hr
          clear hr
          go_wp2_with fail
          go_ret
          exact ⟨congrArg (fun b => Ending.returned (.bool b)) hr'.out.symm, hb3'.out⟩
        | true =>
          go_wp2_with fail
          go_roundw
          case rel => exact ⟨j + 1, by omega, by go_num, take_all hjl hall'.out hPf'.out, hb3'.out⟩
          case measure => simp [intOf]; omega
      · obtain rfl : j = n := by omega
        have hT : l.take j = l := List.take_of_length_le (by have := hn'.out; omega)
        rw [hT] at hall
        have hbw' := Lib.hid hbw
        have hT' := Lib.hid hT
        have hall' := Lib.hid hall
        clear hall hT hbw
        go_wp2_with fail
        go_ret
        exact ⟨congrArg (fun b => Ending.returned (.bool b)) hall'.out.symm, hbw'.out⟩

set_option maxHeartbeats 4000000 in
set_option maxRecDepth 20000 in
theorem lEntries_any (l : List LEnt) (v : Value) (w : World) (hv : EntsR w v l) (hl : l.length ≤ 2147483647) :
    Calls Tryz.prog 12 #[v] w fun e w' => e = .returned (.bool (small50 l)) ∧ Below w.heap.size w w' := by
  obtain ⟨A, c, rfl⟩ := hv.form
  obtain ⟨n, hn⟩ : ∃ n, l.length = n := ⟨_, rfl⟩
  rw [hn] at hv hl
  rw [hn]
  have hv' := Lib.hid hv
  have hn' := Lib.hid hn
  clear hn hv
  go_enter Tryz.func12, Tryz.ntmps12
  go_wp2_with fail
  go_loopw [7] (fun s7 wx => ∃ j : Nat, j ≤ n ∧ s7 = .int .i64 (j : Int) ∧ (l.take j).all small1 = true ∧ Below w.heap.size w wx) (fun s7 _ => n - (intOf s7).toNat)
  case atStart => exact ⟨0, Nat.zero_le _, rfl, rfl, Below.refl _ _⟩
  case round =>
    obtain ⟨j, hj, rfl, hall, hbw⟩ := hrel
    by_cases hlt : j < n
    · have hltI : (j : Int) < (n : Int) := by omega
      have hjl : j < l.length := by have := hn'.out; omega
      obtain ⟨g, o, c2, he, hg, c0, c1, c2', c3, c4, c5, c6⟩ := (hv'.out.below hbw).at_ j hjl
      have hA : A = some ⟨g, o, none⟩ := by injection he
      clear he
      subst hA
      obtain ⟨E, hE⟩ : ∃ E, l[j] = E := ⟨_, rfl⟩
      have hcall := fun W => lEntry_any ⟨E.key.toArray⟩ ⟨E.val.toArray⟩ E.bits E.um E.exp E.off E.len W
      have hsz1 : (ByteArray.mk E.key.toArray).size = E.key.length := by simp [ByteArray.size]
      have hsz2 : (ByteArray.mk E.val.toArray).size = E.val.length := by simp [ByteArray.size]
      rw [hsz1, hsz2] at hcall
      unfold entCells at hcall
      rw [hE] at c0 c1 c2' c3 c4 c5 c6
      obtain ⟨P, hP⟩ : ∃ P, decide (0 < E.key.length ∧ E.key.length ≤ 200 ∧ E.val.length ≤ 500) = P := ⟨_, rfl⟩
      rw [hP] at hcall
      have hPf : small1 l[j] = P := by rw [hE]; exact hP
      have hcall' := fun W => Lib.hid (hcall W)
      clear hcall hsz1 hsz2
      have hbw' := Lib.hid hbw
      have hE' := Lib.hid hE
      have hall' := Lib.hid hall
      have hP' := Lib.hid hP
      have hPf' := Lib.hid hPf
      clear hPf hP hall hE hbw
      go_wp2_with fail
      refine (hcall' _).out.mono ?_
      rintro e w2 ⟨rfl, hb2⟩
      have hb3 := below_call_ hb2 (below_alloc_ hbw'.out _)
      have hb2' := Lib.hid hb2
      have hb3' := Lib.hid hb3
      clear hb3 hb2
      cases P with
      | false =>
        have hr : small50 l = false := by unfold small50; rw [all_not hjl hPf'.out]; rfl
        have hr' := Lib.hid hr
        clear hr
        go_wp2_with fail
        go_ret
        exact ⟨congrArg (fun b => Ending.returned (.bool b)) hr'.out.symm, hb3'.out⟩
      | true =>
        go_wp2_with fail
        go_roundw
        case rel => exact ⟨j + 1, by omega, by go_num, take_all hjl hall'.out hPf'.out, hb3'.out⟩
        case measure => simp [intOf]; omega
    · obtain rfl : j = n := by omega
      have hT : l.take j = l := List.take_of_length_le (by have := hn'.out; omega)
      rw [hT] at hall
      have hr : small50 l = decide (j ≤ 50) := by unfold small50; rw [hall, hn'.out]; rfl
      by_cases h50 : j ≤ 50
      · have h50I : (j : Int) ≤ 50 := by omega
        rw [decide_eq_true h50] at hr
        have hbw' := Lib.hid hbw
        have hT' := Lib.hid hT
        have hall' := Lib.hid hall
        have hr' := Lib.hid hr
        clear hr hall hT hbw
        go_wp2_with fail
        go_ret
        exact ⟨congrArg (fun b => Ending.returned (.bool b)) hr'.out.symm, hbw'.out⟩
      · have h50I : ¬ (j : Int) ≤ 50 := by omega
        rw [decide_eq_false h50] at hr
        have hbw' := Lib.hid hbw
        have hT' := Lib.hid hT
        have hall' := Lib.hid hall
        have hr' := Lib.hid hr
        clear hr hall hT hbw
        go_wp2_with fail
        go_ret
        exact ⟨congrArg (fun b => Ending.returned (.bool b)) hr'.out.symm, hbw'.out⟩
end Go.Proofs.YtpndlcjilgcfkaaGreatDoor
