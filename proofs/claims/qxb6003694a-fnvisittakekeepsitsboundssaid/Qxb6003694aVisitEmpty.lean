import Derived.Test.Qxb6003694aVisitEarly
namespace Go.Proofs.Qxb6003694a.fnVisitTakeKeepsItsBounds
open Go.ChangeShapes Go.WideShapes Go.ChangeAt Go.RowKit
open Go.Proofs.Qxb6003694a.Own
set_option linter.unusedVariables false

set_option maxRecDepth 100000 in
set_option maxHeartbeats 4000000 in
theorem walk_empty (a0 : Int) (hm0 : -9223372036854775808 ≤ a0) (hm1 : a0 ≤ 9223372036854775807) (a1 a2 : Option Addr) (c1 c2 : Nat) (w : World) :
    Calls Try.prog 5 #[.int .i64 a0, .slice a1 0 c1, .slice a2 0 c2] w fun e w' => e = .returned (.bool true) ∧ Below w.heap.size w w' := by
  go_enter Try.func5, Try.ntmps5
  go_wp2
  refine wp_loop_rounds 1 ?_
  rw [rounds_succ]
  go_wp2_with fail
  refine (cloneInts_empty a1 c1 w).mono ?_
  rintro e w1 ⟨x1, y1, rfl, hb1⟩
  go_wp2_with fail
  refine (cloneInts_empty a2 c2 w1).mono ?_
  rintro e w2 ⟨x2, y2, rfl, hb2⟩
  go_wp2_with fail
  refine (zzvisit_in a0 hm0 hm1 w2).mono ?_
  rintro e w3 ⟨mo, mb, rfl, m1, m2, m3, m4, hb3⟩
  go_wp2_with fail
  refine wp_loop_rounds 1 ?_
  rw [rounds_succ]
  go_wp2
  go_ret
  have s1 := hb1.size
  have s2 := hb2.size
  have s3 := hb3.size
  exact ⟨rfl, (((hb1.trans (hb2.mono s1)).trans (hb3.mono (Nat.le_trans s1 s2))).alloc (by omega) _).alloc (by simp; omega) _⟩
end Go.Proofs.Qxb6003694a.fnVisitTakeKeepsItsBounds
