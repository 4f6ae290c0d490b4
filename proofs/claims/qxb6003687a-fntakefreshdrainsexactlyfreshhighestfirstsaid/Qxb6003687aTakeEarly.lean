import Derived.Test.Qxb6003687aTakeWalks
namespace Go.Proofs.Qxb6003687a.fnTakeFresh
open Go.ChangeShapes Go.WideShapes Go.ChangeAt Go.RowKit
set_option linter.unusedVariables false

set_option maxRecDepth 100000 in
theorem walk_early (a0 a1 a2 : Option Addr) (n0 n1 n2 c0 c1 c2 : Nat) (h0 : n0 ≤ maxLen) (h1 : n1 ≤ maxLen) (h2 : n2 ≤ maxLen) (w : World)
    (h : 1048576 < n0 + n1 + n2 ∨ 1048576 < 8 * n0 + 8 * n1 + n2 ∨ n1 ≠ n0 ∨ n2 ≠ n0) :
    Calls Try.prog 6 #[.slice a0 n0 c0, .slice a1 n1 c1, .slice a2 n2 c2] w fun e w' => e = .returned (.bool true) ∧ Below w.heap.size w w' := by
  by_cases hb : n0 + n1 + n2 ≤ 1048576
  · have hd : decide (n0 + n1 + n2 ≤ 1048576) = true := by simpa using hb
    by_cases h8 : 1048576 < 8 * n0 + 8 * n1 + n2
    · go_enter Try.func6, Try.ntmps6
      go_wp2_with (go_at_call 11; refine (bytes_any _ _ _ _ _ _ _ _ _ h0 h1 h2 _).mono ?_; rintro e w' ⟨rfl, rfl⟩)
      go_ret
      exact ⟨rfl, Below.refl _ _⟩
    · by_cases hn : n1 ≠ n0
      · have hn' : ((n1 : Int) == (n0 : Int)) = false := by simp; omega
        go_enter Try.func6, Try.ntmps6
        go_wp2_with (go_at_call 11; refine (bytes_any _ _ _ _ _ _ _ _ _ h0 h1 h2 _).mono ?_; rintro e w' ⟨rfl, rfl⟩)
        go_ret
        exact ⟨rfl, Below.refl _ _⟩
      · have hn1 : n1 = n0 := by omega
        subst hn1
        have hn' : ((n2 : Int) == (n1 : Int)) = false := by simp; omega
        go_enter Try.func6, Try.ntmps6
        go_wp2_with (go_at_call 11; refine (bytes_any _ _ _ _ _ _ _ _ _ h0 h1 h2 _).mono ?_; rintro e w' ⟨rfl, rfl⟩)
        go_ret
        exact ⟨rfl, Below.refl _ _⟩
  · have hd : decide (n0 + n1 + n2 ≤ 1048576) = false := by simpa using hb
    go_enter Try.func6, Try.ntmps6
    go_wp2_with (go_at_call 11; refine (bytes_any _ _ _ _ _ _ _ _ _ h0 h1 h2 _).mono ?_; rintro e w' ⟨rfl, rfl⟩)
    go_ret
    exact ⟨rfl, Below.refl _ _⟩
end Go.Proofs.Qxb6003687a.fnTakeFresh
