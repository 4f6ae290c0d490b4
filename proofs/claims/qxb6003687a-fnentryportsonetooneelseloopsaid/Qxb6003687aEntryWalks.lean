import Derived.Test.Qxb6003687aRows
import Derived.WalkKit
import Derived.ProofKit
namespace Go.Proofs.Qxb6003687a.fnEntryPortsOneToOneElseLoop
open Go.ChangeShapes Go.WideShapes Go.ChangeAt Go.RowKit
set_option linter.unusedVariables false

theorem entry_loop (fr ls wd j lp : Int) (h : ls ≤ j) (w0 w : World) (hg : Grown w0 w) :
    Calls Try.prog 9 #[.int .u32 fr, .int .i32 ls, .int .i32 wd, .int .i32 j, .int .u32 lp] w fun e w' => e = .returned (.int .u32 lp) ∧ Grown w0 w' := by
  go_enter Try.func9, Try.ntmps9
  go_wp2
  go_ret
  exact ⟨rfl, by repeat (first | exact hg | apply Grown.drew | apply Grown.alloc)⟩

theorem entry_port (fr ls wd j lp : Int) (h : j < ls) (h0 : 0 ≤ j) (h1 : 0 ≤ fr) (h2 : fr + ls ≤ lp) (h3 : lp ≤ 4294967295) (w0 w : World) (hg : Grown w0 w) :
    Calls Try.prog 9 #[.int .u32 fr, .int .i32 ls, .int .i32 wd, .int .i32 j, .int .u32 lp] w fun e w' => e = .returned (.int .u32 (fr + j)) ∧ Grown w0 w' := by
  go_enter Try.func9, Try.ntmps9
  go_wp2
  go_ret
  exact ⟨rfl, by repeat (first | exact hg | apply Grown.drew | apply Grown.alloc)⟩

theorem own_port (e fr ls : Int) (h1 : 0 ≤ fr) (h2 : fr ≤ e) (h3 : e < fr + ls) (h4 : fr + ls ≤ 4294967295) (h5 : 0 ≤ ls) (w0 w : World) (hg : Grown w0 w) :
    Calls Try.prog 10 #[.int .u32 e, .int .u32 fr, .int .i32 ls] w fun e w' => e = .returned (.bool true) ∧ Grown w0 w' := by
  go_enter Try.func10, Try.ntmps10
  go_wp2
  go_ret
  exact ⟨rfl, by repeat (first | exact hg | apply Grown.drew | apply Grown.alloc)⟩
end Go.Proofs.Qxb6003687a.fnEntryPortsOneToOneElseLoop
