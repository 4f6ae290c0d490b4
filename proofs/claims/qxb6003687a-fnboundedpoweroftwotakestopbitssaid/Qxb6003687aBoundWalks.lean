import Derived.Test.Qxb6003687aRows
import Derived.WalkKit
import Derived.ProofKit
import Derived.OpenShut
namespace Go.Proofs.Qxb6003687a.fnBoundedPowerOfTwoTakesTopBits
open Go.ChangeShapes Go.WideShapes Go.ChangeAt Go.RowKit
set_option linter.unusedVariables false

theorem pcg_any (h l : Int) (w0 w : World) (hg : Grown w0 w) :
    Calls Try.prog 15 #[.int .u64 h, .int .u64 l] w fun e w' => ∃ a, e = .returned (.pointer (some a)) ∧ Grown w0 w' := by
  go_enter Try.func15, Try.ntmps15
  go_wp2
  go_ret
  exact ⟨_, rfl, by repeat (first | exact hg | apply Grown.drew | apply Grown.alloc)⟩

theorem redraw_none (p m : Int) (v : Value) (h0 : 0 ≤ p) (h1 : p < 18446744073709551616) (hm0 : 1 ≤ m) (hm1 : m ≤ 2147483648) (hd : -m % 4294967296 % m = 0) (w : World) :
    Calls Try.prog 18 #[.int .u64 p, .int .u32 m, v] w fun e w' => e = .returned (.int .u64 p) ∧ w = w' := by
  go_enter Try.func18, Try.ntmps18
  go_wp2
  refine wp_loop_rounds 1 ?_
  rw [rounds_succ]
  go_wp2
  go_ret
  exact ⟨rfl, rfl⟩

theorem bounded_none (u m p : Int) (v : Value) (hu0 : 0 ≤ u) (hu1 : u ≤ 4294967295) (hp : u * m = p) (h0 : 0 ≤ p) (h1 : p < 9223372036854775807) (hm0 : 1 ≤ m) (hm1 : m ≤ 2147483648) (hd : -m % 4294967296 % m = 0) (w : World) :
    Calls Try.prog 14 #[.int .u32 u, .int .u32 m, v] w fun e w' => e = .returned (.int .u32 (p / 4294967296)) ∧ w = w' := by
  by_cases hlt : p % 4294967296 < m
  · go_enter Try.func14, Try.ntmps14
    go_wp2_with fail
    refine (redraw_none p m v h0 (by omega) hm0 hm1 hd _).mono ?_
    rintro e w' ⟨rfl, rfl⟩
    go_wp2
    go_ret
    exact ⟨rfl, rfl⟩
  · go_enter Try.func14, Try.ntmps14
    go_wp2
    go_ret
    exact ⟨rfl, rfl⟩

theorem zzbounded_none (u m p h l : Int) (hu0 : 0 ≤ u) (hu1 : u ≤ 4294967295) (hp : u * m = p) (h0 : 0 ≤ p) (h1 : p < 9223372036854775807) (hm0 : 1 ≤ m) (hm1 : m ≤ 2147483648) (hd : -m % 4294967296 % m = 0) (w : World) :
    Calls Try.prog 8 #[.int .u32 u, .int .u32 m, .int .u64 h, .int .u64 l] w fun e w' => e = .returned (.int .u32 (p / 4294967296)) ∧ Grown w w' := by
  have hg := Grown.refl w
  go_enter Try.func8, Try.ntmps8
  go_wp2_with fail
  refine (pcg_any h l w _ hg).mono ?_
  rintro e w1 ⟨a, rfl, hg1⟩
  go_wp2_with fail
  refine (bounded_none u m p _ hu0 hu1 hp h0 h1 hm0 hm1 hd _).mono ?_
  rintro e w' ⟨rfl, rfl⟩
  go_wp2
  go_ret
  exact ⟨rfl, hg1⟩
end Go.Proofs.Qxb6003687a.fnBoundedPowerOfTwoTakesTopBits
