import Derived.Test.Qxb6003694aOwn
namespace Go.Proofs.Qxb6003694a.fnVisitTakeKeepsItsBounds
open Go.ChangeShapes Go.WideShapes Go.ChangeAt Go.RowKit
open Go.Proofs.Qxb6003694a.Own
set_option linter.unusedVariables false

theorem from_any (a b c d e f : Int) (w : World) :
    Calls Try.prog 23 #[.agg #[.int .i64 a, .int .i64 b, .int .i64 c, .int .i64 d, .int .i64 e, .int .i64 f]] w fun en w' => en = .returned (.agg #[.int .i64 a, .int .i64 b, .int .i64 c, .int .i64 d, .int .i64 e, .int .i64 f]) ∧
      w' = (w.alloc (.cells #[.int .i64 a, .int .i64 b, .int .i64 c, .int .i64 d, .int .i64 e, .int .i64 f] 58)).alloc (.cells #[.int .i64 a, .int .i64 b, .int .i64 c, .int .i64 d, .int .i64 e, .int .i64 f] 44) := by
  go_enter Try.func23, Try.ntmps23
  go_wp2
  exact bodyPost_ret (v := .agg #[.int .i64 a, .int .i64 b, .int .i64 c, .int .i64 d, .int .i64 e, .int .i64 f]) (by simp [results, Try.results23, go_sem]) rfl ⟨rfl, rfl⟩

theorem to_any (a b c d e f : Int) (w : World) :
    Calls Try.prog 25 #[.agg #[.int .i64 a, .int .i64 b, .int .i64 c, .int .i64 d, .int .i64 e, .int .i64 f]] w fun en w' => en = .returned (.agg #[.int .i64 a, .int .i64 b, .int .i64 c, .int .i64 d, .int .i64 e, .int .i64 f]) ∧
      w' = (w.alloc (.cells #[.int .i64 a, .int .i64 b, .int .i64 c, .int .i64 d, .int .i64 e, .int .i64 f] 44)).alloc (.cells #[.int .i64 a, .int .i64 b, .int .i64 c, .int .i64 d, .int .i64 e, .int .i64 f] 58) := by
  go_enter Try.func25, Try.ntmps25
  go_wp2
  exact bodyPost_ret (v := .agg #[.int .i64 a, .int .i64 b, .int .i64 c, .int .i64 d, .int .i64 e, .int .i64 f]) (by simp [results, Try.results25, go_sem]) rfl ⟨rfl, rfl⟩

theorem visit_in (m : Int) (hm0 : -9223372036854775808 ≤ m) (hm1 : m ≤ 9223372036854775807) (w : World) :
    Calls Try.prog 24 #[.int .i64 m] w fun en w' => ∃ mo mb : Int, en = .returned (.agg #[.int .i64 0, .int .i64 0, .int .i64 0, .int .i64 mo, .int .i64 mb, .int .i64 9223372036854775807]) ∧ 1 ≤ mo ∧ mo ≤ 192 ∧ 0 ≤ mb ∧ mb ≤ 393216 ∧ Below w.heap.size w w' := by
  by_cases h : 1 ≤ m
  · have hq0 : 0 ≤ 192 / m := Int.ediv_nonneg (by omega) (by omega)
    have hq1 : 0 ≤ 393216 / m := Int.ediv_nonneg (by omega) (by omega)
    have hq2 : 192 / m ≤ 192 := Int.ediv_le_self m (by omega)
    have hq3 : 393216 / m ≤ 393216 := Int.ediv_le_self m (by omega)
    have hm0' : (m == 0) = false := by simp; omega
    by_cases hq : 1 ≤ 192 / m
    · go_enter Try.func24, Try.ntmps24
      go_wp2
      go_region
      all_goals
        go_wp2
        exact bodyPost_ret (v := .agg #[.int .i64 0, .int .i64 0, .int .i64 0, .int .i64 (192 / m), .int .i64 (393216 / m), .int .i64 9223372036854775807]) (by simp [results, Try.results24, go_sem]) rfl
          ⟨_, _, rfl, by omega, by omega, by omega, by omega, Below.drew ((Below.refl _ _).alloc (Nat.le_refl _) _)⟩
    · go_enter Try.func24, Try.ntmps24
      go_wp2
      go_region
      all_goals
        go_wp2
        exact bodyPost_ret (v := .agg #[.int .i64 0, .int .i64 0, .int .i64 0, .int .i64 (1), .int .i64 (393216 / m), .int .i64 9223372036854775807]) (by simp [results, Try.results24, go_sem]) rfl
          ⟨_, _, rfl, by omega, by omega, by omega, by omega, Below.drew ((Below.refl _ _).alloc (Nat.le_refl _) _)⟩
  · go_enter Try.func24, Try.ntmps24
    go_wp2
    go_region
    all_goals
      go_wp2
      exact bodyPost_ret (v := .agg #[.int .i64 0, .int .i64 0, .int .i64 0, .int .i64 (192), .int .i64 (393216), .int .i64 9223372036854775807]) (by simp [results, Try.results24, go_sem]) rfl
          ⟨_, _, rfl, by omega, by omega, by omega, by omega, Below.drew ((Below.refl _ _).alloc (Nat.le_refl _) _)⟩

theorem take_full (P : Nat) (f mo s ev : Int) (hfull : f = mo) (w : World) (c0 : w.cell? ⟨P, 0, none⟩ = some (.int .i64 f)) (c3 : w.cell? ⟨P, 3, none⟩ = some (.int .i64 mo)) :
    Calls Try.prog 26 #[.pointer (some ⟨P, 0, none⟩), .int .i64 s, .int .i64 ev] w fun en w' => en = .returned (.bool false) ∧ ∃ nq, w' = w.drewN nq := by
  subst hfull
  go_enter Try.func26, Try.ntmps26
  go_wp2
  go_quiet (fail)
  go_wp2
  go_ret
  exact ⟨rfl, _, rfl⟩

theorem take_big (P : Nat) (f b e mo mb me s ev : Int) (hne : (f == mo) = false) (hf : 0 < f) (hbig : mb < b + s) (hev : decide (me < e + ev) = false) (hb : 0 ≤ b) (hb' : b ≤ 4611686018427387904) (hs : 0 ≤ s) (hs' : s ≤ 1048576) (he : 0 ≤ e) (he' : e ≤ 4611686018427387904) (hv : 0 ≤ ev) (hv' : ev ≤ 1048576) (w : World)
    (c0 : w.cell? ⟨P, 0, none⟩ = some (.int .i64 f)) (c1 : w.cell? ⟨P, 1, none⟩ = some (.int .i64 b)) (c2 : w.cell? ⟨P, 2, none⟩ = some (.int .i64 e)) (c3 : w.cell? ⟨P, 3, none⟩ = some (.int .i64 mo)) (c4 : w.cell? ⟨P, 4, none⟩ = some (.int .i64 mb)) (c5 : w.cell? ⟨P, 5, none⟩ = some (.int .i64 me)) :
    Calls Try.prog 26 #[.pointer (some ⟨P, 0, none⟩), .int .i64 s, .int .i64 ev] w fun en w' => en = .returned (.bool false) ∧ ∃ nq, w' = w.drewN nq := by
  go_enter Try.func26, Try.ntmps26
  go_wp2
  go_quiet (fail)
  go_wp2
  go_ret
  exact ⟨rfl, _, rfl⟩

theorem take_yes (P : Nat) (f b e mo mb me s ev : Int) (hne : (f == mo) = false) (hok : f = 0 ∨ 0 < f ∧ decide (mb < b + s) = false) (hev : decide (me < e + ev) = false) (hf : 0 ≤ f) (hf' : f ≤ 1048576) (hb : 0 ≤ b) (hb' : b ≤ 4611686018427387904) (hs : 0 ≤ s) (hs' : s ≤ 1048576) (he : 0 ≤ e) (he' : e ≤ 4611686018427387904) (hv : 0 ≤ ev) (hv' : ev ≤ 1048576) (w : World)
    (c0 : w.cell? ⟨P, 0, none⟩ = some (.int .i64 f)) (c1 : w.cell? ⟨P, 1, none⟩ = some (.int .i64 b)) (c2 : w.cell? ⟨P, 2, none⟩ = some (.int .i64 e)) (c3 : w.cell? ⟨P, 3, none⟩ = some (.int .i64 mo)) (c4 : w.cell? ⟨P, 4, none⟩ = some (.int .i64 mb)) (c5 : w.cell? ⟨P, 5, none⟩ = some (.int .i64 me))
    (hfz : ∀ i, w.frozen? ⟨P, i, none⟩ = false) :
    Calls Try.prog 26 #[.pointer (some ⟨P, 0, none⟩), .int .i64 s, .int .i64 ev] w fun en w' => en = .returned (.bool true) ∧ ∃ nq, w' = (((w.setCell ⟨P, 0, none⟩ (.int .i64 (f + 1))).setCell ⟨P, 1, none⟩ (.int .i64 (b + s))).setCell ⟨P, 2, none⟩ (.int .i64 (e + ev))).drewN nq := by
  rcases hok with rfl | ⟨h0, hnb⟩
  · have hd : decide ((0 : Int) < 0) = false := by simp
    go_enter Try.func26, Try.ntmps26
    go_wp2
    go_quiet (fail)
    go_wp2
    go_ret
    exact ⟨rfl, _, rfl⟩
  · go_enter Try.func26, Try.ntmps26
    go_wp2
    go_quiet (fail)
    go_wp2
    go_ret
    exact ⟨rfl, _, rfl⟩
end Go.Proofs.Qxb6003694a.fnVisitTakeKeepsItsBounds
