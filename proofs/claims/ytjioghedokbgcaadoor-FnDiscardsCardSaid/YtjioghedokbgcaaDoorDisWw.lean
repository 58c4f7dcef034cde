/-
  laws.FnDiscards: the walk for every argument.
-/
import Derived.Test.YtjioghedokbgcaaDoorDisW
namespace Go.Proofs.YtjioghedokbgcaaDoor
open Go Go.RowKit
open Go.Proofs

set_option maxHeartbeats 2000000 in
set_option maxRecDepth 20000 in
theorem fnDiscards_walk (k : Int) (l : List (Nat × Int)) (hlf : ∀ x, x ∈ l → x.1 < 4294967296) (hlN : ∀ x, x ∈ l → -9223372036854775808 ≤ x.2) (v : Value) (a : Addr) (W : World)
    (hv : AddsR W v l) (hg : W.cell? ⟨0, 0, none⟩ = some (.iface 101 (.pointer (some a)))) :
    Calls Tryd.prog 3 #[.int .i64 k, v] W fun e w' => e = .returned (.bool true) ∧ Ch [] W w' := by
  by_cases hn1 : 2147483647 < l.length
  · obtain ⟨A, c, rfl⟩ := hv.form
    obtain ⟨n, hn⟩ : ∃ n, l.length = n := ⟨_, rfl⟩
    rw [hn] at hn1 ⊢
    have g1 : (2147483647 : Int) < (n : Int) := by omega
    clear hv hn hn1
    go_enter Tryd.func3, Tryd.ntmps3
    go_wp2_with fail
    go_ret
    exact ⟨rfl, Ch.refl _ _⟩
  · by_cases hk1 : k < 4
    · obtain ⟨A, c, rfl⟩ := hv.form
      obtain ⟨n, hn⟩ : ∃ n, l.length = n := ⟨_, rfl⟩
      rw [hn] at hn1 ⊢
      have g1 : ¬ (2147483647 : Int) < (n : Int) := by omega
      clear hv hn hn1
      go_enter Tryd.func3, Tryd.ntmps3
      go_wp2_with fail
      go_ret
      exact ⟨rfl, Ch.refl _ _⟩
    · by_cases hk2 : 100 < k
      · obtain ⟨A, c, rfl⟩ := hv.form
        obtain ⟨n, hn⟩ : ∃ n, l.length = n := ⟨_, rfl⟩
        rw [hn] at hn1 ⊢
        have g1 : ¬ (2147483647 : Int) < (n : Int) := by omega
        clear hv hn hn1
        go_enter Tryd.func3, Tryd.ntmps3
        go_wp2_with fail
        go_ret
        exact ⟨rfl, Ch.refl _ _⟩
      · by_cases hn2 : 100 < l.length
        · obtain ⟨A, c, rfl⟩ := hv.form
          obtain ⟨n, hn⟩ : ∃ n, l.length = n := ⟨_, rfl⟩
          rw [hn] at hn1 hn2 ⊢
          have g1 : ¬ (2147483647 : Int) < (n : Int) := by omega
          have g2 : (100 : Int) < (n : Int) := by omega
          clear hv hn hn1 hn2
          go_enter Tryd.func3, Tryd.ntmps3
          go_wp2_with fail
          go_ret
          exact ⟨rfl, Ch.refl _ _⟩
        · obtain ⟨m, rfl⟩ : ∃ m : Nat, k = (m : Int) := ⟨k.toNat, by omega⟩
          exact fnDiscards_main m (by omega) (by omega) l (by omega) hlf hlN v a W hv hg
end Go.Proofs.YtjioghedokbgcaaDoor
