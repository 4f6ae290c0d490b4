namespace Go.Proofs.Qxb6003687a.fnBoundedPowerOfTwoTakesTopBits

theorem plain (k : Nat) (hk : k ≤ 31) (u : Int) (u0 : 0 ≤ u) (u1 : u ≤ 4294967295) :
    ∃ m p : Int, (2 : Int) ^ k % 4294967296 = m ∧ u * m = p ∧ 0 ≤ p ∧ p < 9223372036854775807 ∧ 1 ≤ m ∧ m ≤ 2147483648 ∧ -m % 4294967296 % m = 0 ∧ p / 4294967296 = u / 2 ^ (32 - k) := by
  refine ⟨_, _, rfl, rfl, ?_⟩
  have h : k = 0 ∨ k = 1 ∨ k = 2 ∨ k = 3 ∨ k = 4 ∨ k = 5 ∨ k = 6 ∨ k = 7 ∨ k = 8 ∨ k = 9 ∨ k = 10 ∨ k = 11 ∨ k = 12 ∨ k = 13 ∨ k = 14 ∨ k = 15 ∨ k = 16 ∨ k = 17 ∨ k = 18 ∨ k = 19 ∨ k = 20 ∨ k = 21 ∨ k = 22 ∨ k = 23 ∨ k = 24 ∨ k = 25 ∨ k = 26 ∨ k = 27 ∨ k = 28 ∨ k = 29 ∨ k = 30 ∨ k = 31 := by omega
  rcases h with rfl | rfl | rfl | rfl | rfl | rfl | rfl | rfl | rfl | rfl | rfl | rfl | rfl | rfl | rfl | rfl | rfl | rfl | rfl | rfl | rfl | rfl | rfl | rfl | rfl | rfl | rfl | rfl | rfl | rfl | rfl | rfl
  all_goals
    refine ⟨?_, ?_, by decide, by decide, by decide, ?_⟩ <;> first | omega | (simp; done) | (simp; omega)
end Go.Proofs.Qxb6003687a.fnBoundedPowerOfTwoTakesTopBits
