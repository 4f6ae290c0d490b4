/-
  THE SHELL OF A PROOF OF 'Rows.FnEntryPortsOneToOneElseLoopSaid' ('example.com/churnweave/churnweave/zzlaws_tokens_g2.FnEntryPortsOneToOneElseLoop'), WRITTEN BY PROGRAM (proof-skeleton.mjs) off the guide's own print for that function. Not trusted: Lean checks it.
  The walk is filled in.
-/
import Derived.Test.Qxb6003687aEntryWalks
import Derived.WalkKit
import Derived.ProofKit
import Derived.OpenShut
import Derived.ShutString
namespace Go.Proofs.Qxb6003687a.fnEntryPortsOneToOneElseLoop
open Go.ChangeShapes Go.WideShapes Go.ChangeAt Go.RowKit
open Go.ChangeMaps (open_string shut_string)
set_option linter.unusedVariables false      -- a walk need not use every 'w<i>' (that an integer argument fits its kind)

theorem own : ownKnob Try.prog.godebug = none := by kernel_rfl

/-! ### STEP 1: THE WALK: the Go text returns true. 'Grown w w'': the world has at most new blocks (Derived/RowKit3.lean). Part the cases AHEAD of 'go_enter' where a test parts the walk; take each callee by a contract of your own. -/
set_option maxHeartbeats 2000000 in
theorem walk (a0 : Int) (a1 : Int) (a2 : Int) (a3 : Int) (a4 : Int) (a5 : Int) (w0 : (Lit.int .u32 a0).wf = true) (w1 : (Lit.int .i32 a1).wf = true) (w2 : (Lit.int .i32 a2).wf = true) (w3 : (Lit.int .i32 a3).wf = true) (w4 : (Lit.int .i32 a4).wf = true) (w5 : (Lit.int .u32 a5).wf = true) (w : World) :
    Calls Try.prog 5 #[.int .u32 a0, .int .i32 a1, .int .i32 a2, .int .i32 a3, .int .i32 a4, .int .u32 a5] w fun e w' => e = .returned (.bool true) ∧ Grown w w' := by
  obtain ⟨b0l, b0h⟩ := bounds_u32 w0
  obtain ⟨b1l, b1h⟩ := bounds_i32 w1
  obtain ⟨b5l, b5h⟩ := bounds_u32 w5
  clear w0 w1 w2 w3 w4 w5
  by_cases c1 : a1 < 0
  · go_enter Try.func5, Try.ntmps5
    go_wp2
    go_ret
    exact ⟨rfl, by repeat (first | exact Grown.refl _ | apply Grown.drew | apply Grown.alloc)⟩
  by_cases c2 : a2 < a1
  · go_enter Try.func5, Try.ntmps5
    go_wp2
    go_ret
    exact ⟨rfl, by repeat (first | exact Grown.refl _ | apply Grown.drew | apply Grown.alloc)⟩
  by_cases c3 : a5 < a0 + a1
  · go_enter Try.func5, Try.ntmps5
    go_wp2
    go_ret
    exact ⟨rfl, by repeat (first | exact Grown.refl _ | apply Grown.drew | apply Grown.alloc)⟩
  by_cases c4 : a3 < 0
  · go_enter Try.func5, Try.ntmps5
    go_wp2
    go_ret
    exact ⟨rfl, by repeat (first | exact Grown.refl _ | apply Grown.drew | apply Grown.alloc)⟩
  by_cases c5 : a4 < 0
  · go_enter Try.func5, Try.ntmps5
    go_wp2
    go_ret
    exact ⟨rfl, by repeat (first | exact Grown.refl _ | apply Grown.drew | apply Grown.alloc)⟩
  by_cases c6 : a2 ≤ a3
  · go_enter Try.func5, Try.ntmps5
    go_wp2
    go_ret
    exact ⟨rfl, by repeat (first | exact Grown.refl _ | apply Grown.drew | apply Grown.alloc)⟩
  by_cases c7 : a2 ≤ a4
  · go_enter Try.func5, Try.ntmps5
    go_wp2
    go_ret
    exact ⟨rfl, by repeat (first | exact Grown.refl _ | apply Grown.drew | apply Grown.alloc)⟩
  have hg := Grown.refl w
  have e5 : (a5 == a5) = true := by simp
  by_cases c8 : a3 < a1
  · have d3 : decide (a1 ≤ a3) = false := by simp; omega
    have e3 : (a0 + a3 == a5) = false := by simp; omega
    by_cases c9 : a4 < a1
    · have d4 : decide (a1 ≤ a4) = false := by simp; omega
      have e4 : (a0 + a4 == a5) = false := by simp; omega
      by_cases c10 : a3 = a4
      · subst c10
        have e6 : (a3 == a3) = true := by simp
        go_enter Try.func5, Try.ntmps5
        go_wp2_with fail
        refine (entry_port _ _ _ _ _ (by omega) (by omega) (by omega) (by omega) (by omega) w _ (by assumption)).mono ?_
        rintro e w0 ⟨rfl, hg0⟩
        go_wp2_with fail
        refine (entry_port _ _ _ _ _ (by omega) (by omega) (by omega) (by omega) (by omega) w _ (by assumption)).mono ?_
        rintro e w1 ⟨rfl, hg1⟩
        go_wp2_with fail
        refine (own_port _ _ _ (by omega) (by omega) (by omega) (by omega) (by omega) w _ (by assumption)).mono ?_
        rintro e w2 ⟨rfl, hg2⟩
        go_wp2_with fail
        refine (own_port _ _ _ (by omega) (by omega) (by omega) (by omega) (by omega) w _ (by assumption)).mono ?_
        rintro e w3 ⟨rfl, hg3⟩
        go_wp2
        go_ret
        exact ⟨rfl, hg3⟩
      · have c11 : (a3 == a4) = false := by simpa using c10
        have c12 : (a0 + a3 == a0 + a4) = false := by simp; omega
        go_enter Try.func5, Try.ntmps5
        go_wp2_with fail
        refine (entry_port _ _ _ _ _ (by omega) (by omega) (by omega) (by omega) (by omega) w _ (by assumption)).mono ?_
        rintro e w0 ⟨rfl, hg0⟩
        go_wp2_with fail
        refine (entry_port _ _ _ _ _ (by omega) (by omega) (by omega) (by omega) (by omega) w _ (by assumption)).mono ?_
        rintro e w1 ⟨rfl, hg1⟩
        go_wp2_with fail
        refine (own_port _ _ _ (by omega) (by omega) (by omega) (by omega) (by omega) w _ (by assumption)).mono ?_
        rintro e w2 ⟨rfl, hg2⟩
        go_wp2_with fail
        refine (own_port _ _ _ (by omega) (by omega) (by omega) (by omega) (by omega) w _ (by assumption)).mono ?_
        rintro e w3 ⟨rfl, hg3⟩
        go_wp2
        go_ret
        exact ⟨rfl, hg3⟩
    · have c11 : (a3 == a4) = false := by simp; omega
      have d4 : decide (a1 ≤ a4) = true := by simp; omega
      go_enter Try.func5, Try.ntmps5
      go_wp2_with fail
      refine (entry_port _ _ _ _ _ (by omega) (by omega) (by omega) (by omega) (by omega) w _ (by assumption)).mono ?_
      rintro e w0 ⟨rfl, hg0⟩
      go_wp2_with fail
      refine (entry_loop _ _ _ _ _ (by omega) w _ (by assumption)).mono ?_
      rintro e w1 ⟨rfl, hg1⟩
      go_wp2_with fail
      refine (own_port _ _ _ (by omega) (by omega) (by omega) (by omega) (by omega) w _ (by assumption)).mono ?_
      rintro e w2 ⟨rfl, hg2⟩
      go_wp2
      go_ret
      exact ⟨rfl, hg2⟩
  · have d3 : decide (a1 ≤ a3) = true := by simp; omega
    by_cases c9 : a4 < a1
    · have d4 : decide (a1 ≤ a4) = false := by simp; omega
      have e4 : (a0 + a4 == a5) = false := by simp; omega
      have c11 : (a3 == a4) = false := by simp; omega
      go_enter Try.func5, Try.ntmps5
      go_wp2_with fail
      refine (entry_loop _ _ _ _ _ (by omega) w _ (by assumption)).mono ?_
      rintro e w0 ⟨rfl, hg0⟩
      go_wp2_with fail
      refine (entry_port _ _ _ _ _ (by omega) (by omega) (by omega) (by omega) (by omega) w _ (by assumption)).mono ?_
      rintro e w1 ⟨rfl, hg1⟩
      go_wp2_with fail
      refine (own_port _ _ _ (by omega) (by omega) (by omega) (by omega) (by omega) w _ (by assumption)).mono ?_
      rintro e w2 ⟨rfl, hg2⟩
      go_wp2
      go_ret
      exact ⟨rfl, hg2⟩
    · have d4 : decide (a1 ≤ a4) = true := by simp; omega
      by_cases c10 : a3 = a4
      · subst c10
        have e6 : (a3 == a3) = true := by simp
        go_enter Try.func5, Try.ntmps5
        go_wp2_with fail
        refine (entry_loop _ _ _ _ _ (by omega) w _ (by assumption)).mono ?_
        rintro e w0 ⟨rfl, hg0⟩
        go_wp2_with fail
        refine (entry_loop _ _ _ _ _ (by omega) w _ (by assumption)).mono ?_
        rintro e w1 ⟨rfl, hg1⟩
        go_wp2
        go_ret
        exact ⟨rfl, hg1⟩
      · have c11 : (a3 == a4) = false := by simpa using c10
        go_enter Try.func5, Try.ntmps5
        go_wp2_with fail
        refine (entry_loop _ _ _ _ _ (by omega) w _ (by assumption)).mono ?_
        rintro e w0 ⟨rfl, hg0⟩
        go_wp2_with fail
        refine (entry_loop _ _ _ _ _ (by omega) w _ (by assumption)).mono ?_
        rintro e w1 ⟨rfl, hg1⟩
        go_wp2
        go_ret
        exact ⟨rfl, hg1⟩

/-! ### THE ROW's STEP: WRITTEN OUT: LEAVE IT -/
set_option maxRecDepth 100000 in
theorem lifted (os : Os) (started : os.Started) (H : Type) (enc : TypeId × Value → H) :
    ReturnsInHanded {} Try.checked os 5 .any (Rows.fnEntryPortsOneToOneElseLoopSpec.pre6 enc Try.prog Try.f5 Rows.fnEntryPortsOneToOneElseLoopRow.domain false) (Rows.fnEntryPortsOneToOneElseLoopSpec.post enc Try.prog Try.f5 false true false false) := by
  refine returnsInHanded_of_change (C := Try.checked) own started (by kernel_rfl) Try.func5
    (ChangeSpec.witness6 (enc := enc) (C := Try.checked) false ⟨#[], #[.int .u32 0, .int .i32 0, .int .i32 0, .int .i32 0, .int .i32 0, .int .u32 0], []⟩ 8 (by kernel_rfl) (by kernel_rfl) (by kernel_rfl) (by kernel_rfl)) ?_
  intro W base args ds gs before hval0 hW hcnd _
  have hval : ∀ (j : Nat) t v, Try.f5.params[j]? = some t → args[j]? = some v → Value.okWide Try.prog W .any base t v := hval0
  have hW' := hW
  obtain ⟨p, q, hA0, hV, rfl, hfz, hnd⟩ := hW
  have hA : DataW.TrodAll enc Try.prog W 0 (fun _ => true) true Try.f5.params.toList args.toList ds p := hA0
  rw [Try.params5] at hA hval
  obtain ⟨v0, vs0, d0, ds0, p0, q0, hargs, rfl, rfl, h0, r0⟩ := trodAll_cons hA
  obtain ⟨v1, vs1, d1, ds1, p1, q1, rfl, rfl, rfl, h1, r1⟩ := trodAll_cons r0
  obtain ⟨v2, vs2, d2, ds2, p2, q2, rfl, rfl, rfl, h2, r2⟩ := trodAll_cons r1
  obtain ⟨v3, vs3, d3, ds3, p3, q3, rfl, rfl, rfl, h3, r3⟩ := trodAll_cons r2
  obtain ⟨v4, vs4, d4, ds4, p4, q4, rfl, rfl, rfl, h4, r4⟩ := trodAll_cons r3
  obtain ⟨v5, vs5, d5, ds5, p5, q5, rfl, rfl, rfl, h5, r5⟩ := trodAll_cons r4
  obtain ⟨rfl, rfl, rfl⟩ := trodAll_nil r5
  obtain rfl : args = #[v0, v1, v2, v3, v4, v5] := by cases args; simp_all
  obtain ⟨rfl, rfl⟩ := trodVars_none hV
  obtain ⟨a0, rfl, rfl, rfl, w0⟩ := open_int Try.underlying22 (hval 0 22 v0 rfl rfl) h0
  obtain ⟨a1, rfl, rfl, rfl, w1⟩ := open_int Try.underlying21 (hval 1 21 v1 rfl rfl) h1
  obtain ⟨a2, rfl, rfl, rfl, w2⟩ := open_int Try.underlying21 (hval 2 21 v2 rfl rfl) h2
  obtain ⟨a3, rfl, rfl, rfl, w3⟩ := open_int Try.underlying21 (hval 3 21 v3 rfl rfl) h3
  obtain ⟨a4, rfl, rfl, rfl, w4⟩ := open_int Try.underlying21 (hval 4 21 v4 rfl rfl) h4
  obtain ⟨a5, rfl, rfl, rfl, w5⟩ := open_int Try.underlying22 (hval 5 22 v5 rfl rfl) h5
  clear hA0 hval0
  simp only [List.append_nil] at hW'
  refine (walk a0 a1 a2 a3 a4 a5 w0 w1 w2 w3 w4 w5 W).mono fun e W' ⟨he, hg⟩ => ?_
  subst he
  exact ⟨_, rfl, post_of_same (pa := []) (pv := []) hW' (fun _ _ _ => (trodAll_cons_mk (shut_bool Try.underlying4 _) trodAll_mk0)) (fun sp _ => (trodAll_cons_mk (shut_int Try.underlying22 w0) (trodAll_cons_mk (shut_int Try.underlying21 w1) (trodAll_cons_mk (shut_int Try.underlying21 w2) (trodAll_cons_mk (shut_int Try.underlying21 w3) (trodAll_cons_mk (shut_int Try.underlying21 w4) (trodAll_cons_mk (shut_int Try.underlying22 w5) trodAll_mk0))))))) (fun _ _ => rfl) rfl
    (hg.frame _) hg.2.1 (ok_one (by kernel_rfl) rfl (okWide_bool_mk Try.underlying4 _))⟩

theorem over : Rows.fnEntryPortsOneToOneElseLoopRow.holds Try.pinned (OpenSpec.ofChange Rows.fnEntryPortsOneToOneElseLoopSpec) :=
  OpenClaim.holds_of_wide 5 Try.f5 rfl rfl rfl rfl rfl rfl rfl ⟨rfl, rfl, rfl, rfl, rfl⟩ rfl rfl rfl rfl rfl (by kernel_rfl) Try.func5 (by kernel_rfl)
    (of_decide_eq_true (by kernel_rfl)) (by unfold Func.isWrapper; first | (rw [if_pos (by decide +kernel)]; kernel_rfl) | (rw [if_neg (by decide +kernel)]; exact ⟨rfl, rfl⟩))
    (fun os started H enc _ => lifted os started H enc)

/-- ████ THE STATEMENT ████ -/
theorem proved : Rows.FnEntryPortsOneToOneElseLoopSaid :=
  over
#print axioms proved
end Go.Proofs.Qxb6003687a.fnEntryPortsOneToOneElseLoop
