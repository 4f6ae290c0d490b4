import Derived.Test.Qxb6003687aRows
import Derived.WalkKit
import Derived.ProofKit
import Derived.OpenShut
namespace Go.Proofs.Qxb6003687a.fnTakeFresh
open Go.ChangeShapes Go.WideShapes Go.ChangeAt Go.RowKit
set_option linter.unusedVariables false

theorem bytes_any (a0 a1 a2 : Option Addr) (n0 n1 n2 c0 c1 c2 : Nat) (h0 : n0 ≤ maxLen) (h1 : n1 ≤ maxLen) (h2 : n2 ≤ maxLen) (w : World) :
    Calls Try.prog 11 #[.slice a0 n0 c0, .slice a1 n1 c1, .slice a2 n2 c2] w fun e w' => e = .returned (.bool (decide (n0 + n1 + n2 ≤ 1048576))) ∧ w = w' := by
  unfold maxLen at h0 h1 h2
  by_cases h : n0 + n1 + n2 ≤ 1048576
  · rw [decide_eq_true h]
    go_enter Try.func11, Try.ntmps11
    go_wp2
    go_ret
    exact ⟨rfl, rfl⟩
  · rw [decide_eq_false h]
    go_enter Try.func11, Try.ntmps11
    go_wp2
    all_goals (go_ret; exact ⟨rfl, rfl⟩)

def rankB (fa : Bool) (ma : Int) (fb : Bool) (mb : Int) : Bool := if fa != fb then fa else decide (mb < ma)

theorem rank_any (fa fb : Bool) (ma mb : Int) (w : World) :
    Calls Try.prog 12 #[.bool fa, .int .i64 ma, .bool fb, .int .i64 mb] w fun e w' => e = .returned (.bool (rankB fa ma fb mb)) ∧ w = w' := by
  cases fa <;> cases fb
  all_goals
    go_enter Try.func12, Try.ntmps12
    go_wp2
    go_ret
    exact ⟨rfl, rfl⟩

theorem take_none (P c : Nat) (ao : Option Addr) (w : World) (hc : w.cell? ⟨P, 0, none⟩ = some (.slice ao 0 c)) :
    Calls Try.prog 17 #[.pointer (some ⟨P, 0, none⟩)] w fun e w' => e = .returned (.tuple #[.agg #[.int .i64 0, .int .i64 0, .bool false], .bool false]) ∧ w' = w.alloc (.cells #[.int .i64 0, .int .i64 0, .bool false] 39) := by
  have hP : P < w.heap.size := World.block_lt_of_cell? w _ hc
  go_enter Try.func17, Try.ntmps17
  go_wp2
  exact bodyPost_ret (v := .tuple #[.agg #[.int .i64 0, .int .i64 0, .bool false], .bool false]) (by simp [results, Try.results17, go_sem]) rfl ⟨rfl, rfl⟩

theorem take_stale (P B k c : Nat) (hk : k + 1 ≤ c) (hmax : c ≤ maxLen) (w : World) (hc : w.cell? ⟨P, 0, none⟩ = some (.slice (some ⟨B, 0, none⟩) (k + 1) c)) (h2 : w.cell? ⟨B, k * 3 + 2, none⟩ = some (.bool false)) :
    Calls Try.prog 17 #[.pointer (some ⟨P, 0, none⟩)] w fun e w' => e = .returned (.tuple #[.agg #[.int .i64 0, .int .i64 0, .bool false], .bool false]) ∧ w' = w.alloc (.cells #[.int .i64 0, .int .i64 0, .bool false] 39) := by
  unfold maxLen at hmax
  have hP : P < w.heap.size := World.block_lt_of_cell? w _ hc
  have hB : B < w.heap.size := World.block_lt_of_cell? w _ h2
  go_enter Try.func17, Try.ntmps17
  go_wp2
  exact bodyPost_ret (v := .tuple #[.agg #[.int .i64 0, .int .i64 0, .bool false], .bool false]) (by simp [results, Try.results17, go_sem]) rfl ⟨rfl, rfl⟩

theorem take_fresh (P B k c : Nat) (hne : P ≠ B) (o ma : Int) (hk : k + 1 ≤ c) (hmax : c ≤ maxLen) (w : World) (hc : w.cell? ⟨P, 0, none⟩ = some (.slice (some ⟨B, 0, none⟩) (k + 1) c)) (hf : w.frozen? ⟨P, 0, none⟩ = false)
    (h0 : w.cell? ⟨B, k * 3, none⟩ = some (.int .i64 o)) (h1 : w.cell? ⟨B, k * 3 + 1, none⟩ = some (.int .i64 ma)) (h2 : w.cell? ⟨B, k * 3 + 2, none⟩ = some (.bool true)) :
    Calls Try.prog 17 #[.pointer (some ⟨P, 0, none⟩)] w fun e w' => e = .returned (.tuple #[.agg #[.int .i64 o, .int .i64 ma, .bool true], .bool true]) ∧
      w' = ((w.setCell ⟨P, 0, none⟩ (.slice (some ⟨B, 0, none⟩) k c)).alloc (.cells #[.int .i64 o, .int .i64 ma, .bool true] 39)).alloc (.cells #[.int .i64 o, .int .i64 ma, .bool true] 39) := by
  unfold maxLen at hmax
  have hP : P < w.heap.size := World.block_lt_of_cell? w _ hc
  have hB : B < w.heap.size := World.block_lt_of_cell? w _ h2
  go_enter Try.func17, Try.ntmps17
  go_wp2
  exact bodyPost_ret (v := .tuple #[.agg #[.int .i64 o, .int .i64 ma, .bool true], .bool true]) (by simp [results, Try.results17, go_sem]) rfl ⟨rfl, rfl⟩

theorem zztake_none (c : Nat) (ao : Option Addr) (w : World) :
    Calls Try.prog 13 #[.slice ao 0 c] w fun e w' => e = .returned (.tuple #[.slice ao 0 c, .agg #[.int .i64 0, .int .i64 0, .bool false], .bool false]) ∧ Below w.heap.size w w' := by
  go_enter Try.func13, Try.ntmps13
  go_wp2_with fail
  refine (take_none _ c ao _ (by simp)).mono ?_
  rintro e w' ⟨rfl, rfl⟩
  go_wp2
  go_region
  go_wp2
  exact bodyPost_ret (v := .tuple #[.slice ao 0 c, .agg #[.int .i64 0, .int .i64 0, .bool false], .bool false]) (by simp [results, Try.results13, go_sem]) rfl
    ⟨rfl, Below.drew ((((((Below.refl _ _).alloc (Nat.le_refl _) _).alloc (by simp) _).alloc (by simp; omega) _).alloc (by simp; omega) _))⟩

theorem zztake_stale (B k c : Nat) (hk : k + 1 ≤ c) (hmax : c ≤ maxLen) (w : World) (h2 : w.cell? ⟨B, k * 3 + 2, none⟩ = some (.bool false)) :
    Calls Try.prog 13 #[.slice (some ⟨B, 0, none⟩) (k + 1) c] w fun e w' => e = .returned (.tuple #[.slice (some ⟨B, 0, none⟩) (k + 1) c, .agg #[.int .i64 0, .int .i64 0, .bool false], .bool false]) ∧ Below w.heap.size w w' := by
  have hB : B < w.heap.size := World.block_lt_of_cell? w _ h2
  go_enter Try.func13, Try.ntmps13
  go_wp2_with fail
  refine (take_stale _ B k c hk hmax _ (by simp) (by go_simp)).mono ?_
  rintro e w' ⟨rfl, rfl⟩
  go_wp2
  go_region
  go_wp2
  exact bodyPost_ret (v := .tuple #[.slice (some ⟨B, 0, none⟩) (k + 1) c, .agg #[.int .i64 0, .int .i64 0, .bool false], .bool false]) (by simp [results, Try.results13, go_sem]) rfl
    ⟨rfl, Below.drew ((((((Below.refl _ _).alloc (Nat.le_refl _) _).alloc (by simp) _).alloc (by simp; omega) _).alloc (by simp; omega) _))⟩

theorem zztake_fresh (B k c : Nat) (o ma : Int) (hk : k + 1 ≤ c) (hmax : c ≤ maxLen) (w : World)
    (h0 : w.cell? ⟨B, k * 3, none⟩ = some (.int .i64 o)) (h1 : w.cell? ⟨B, k * 3 + 1, none⟩ = some (.int .i64 ma)) (h2 : w.cell? ⟨B, k * 3 + 2, none⟩ = some (.bool true)) :
    Calls Try.prog 13 #[.slice (some ⟨B, 0, none⟩) (k + 1) c] w fun e w' => e = .returned (.tuple #[.slice (some ⟨B, 0, none⟩) k c, .agg #[.int .i64 o, .int .i64 ma, .bool true], .bool true]) ∧ Below w.heap.size w w' := by
  have hB : B < w.heap.size := World.block_lt_of_cell? w _ h2
  go_enter Try.func13, Try.ntmps13
  go_wp2_with fail
  refine (take_fresh _ B k c (by omega) o ma hk hmax _ (by simp) (by simp) (by go_simp) (by go_simp) (by go_simp)).mono ?_
  rintro e w' ⟨rfl, rfl⟩
  go_wp2
  go_region
  go_wp2
  exact bodyPost_ret (v := .tuple #[.slice (some ⟨B, 0, none⟩) k c, .agg #[.int .i64 o, .int .i64 ma, .bool true], .bool true]) (by simp [results, Try.results13, go_sem]) rfl
    ⟨rfl, Below.drew (((((((Below.refl _ _).alloc (Nat.le_refl _) _).alloc (by simp) _).alloc (by simp; omega) _).alloc (by simp; omega) _).alloc (by simp; omega) _))⟩
end Go.Proofs.Qxb6003687a.fnTakeFresh
