import Derived.Test.Qxb6003694aVisitWalks
namespace Go.Proofs.Qxb6003694a.fnVisitTakeKeepsItsBounds
open Go.ChangeShapes Go.WideShapes Go.ChangeAt Go.RowKit
open Go.Proofs.Qxb6003694a.Own
set_option linter.unusedVariables false

theorem bl_cell {w w1 : World} {b t : Nat} {cs : Array Value} (h : w1.heap[b]? = some (.cells cs t (0, 0))) (i : Nat) : w1.cell? ⟨b, i, none⟩ = cs[i]? := by simp [World.cell?, h]
theorem bl_frozen {w1 : World} {b t : Nat} {cs : Array Value} (h : w1.heap[b]? = some (.cells cs t (0, 0))) (i : Nat) : w1.frozen? ⟨b, i, none⟩ = false := by simp [World.frozen?, h]

theorem six {w1 : World} {b t : Nat} {a0 a1 a2 a3 a4 a5 : Value} (h : w1.heap[b]? = some (.cells #[a0, a1, a2, a3, a4, a5] t (0, 0))) :
    w1.cell? ⟨b, 0, none⟩ = some a0 ∧ w1.cell? ⟨b, 1, none⟩ = some a1 ∧ w1.cell? ⟨b, 2, none⟩ = some a2 ∧ w1.cell? ⟨b, 3, none⟩ = some a3 ∧ w1.cell? ⟨b, 4, none⟩ = some a4 ∧ w1.cell? ⟨b, 5, none⟩ = some a5 ∧ ∀ i, w1.frozen? ⟨b, i, none⟩ = false := by
  simp [World.cell?, World.frozen?, h]

theorem set6 {B : Nat} {a w : World} (h : Below B a w) {b : Nat} (hb : B ≤ b) (v0 v1 v2 v3 v4 v5 : Value) :
    Below B a ((((((w.setCell ⟨b, 0, none⟩ v0).setCell ⟨b, 1, none⟩ v1).setCell ⟨b, 2, none⟩ v2).setCell ⟨b, 3, none⟩ v3).setCell ⟨b, 4, none⟩ v4).setCell ⟨b, 5, none⟩ v5) :=
  (((((h.setCell hb _).setCell hb _).setCell hb _).setCell hb _).setCell hb _).setCell hb _
theorem al5 (w : World) (o0 o1 o2 o3 o4 : Obj) : Below w.heap.size w (((((w.alloc o0).alloc o1).alloc o2).alloc o3).alloc o4) :=
  (((((Below.refl _ _).alloc (Nat.le_refl _) _).alloc (by simp) _).alloc (by simp; omega) _).alloc (by simp; omega) _).alloc (by simp; omega) _

theorem zzvisit_in (m : Int) (hm0 : -9223372036854775808 ≤ m) (hm1 : m ≤ 9223372036854775807) (w : World) :
    Calls Try.prog 14 #[.int .i64 m] w fun en w' => ∃ mo mb : Int, en = .returned (.agg #[.int .i64 0, .int .i64 0, .int .i64 0, .int .i64 mo, .int .i64 mb, .int .i64 9223372036854775807]) ∧ 1 ≤ mo ∧ mo ≤ 192 ∧ 0 ≤ mb ∧ mb ≤ 393216 ∧ Below w.heap.size w w' := by
  go_enter Try.func14, Try.ntmps14
  go_wp2_with fail
  refine (visit_in m hm0 hm1 _).mono ?_
  rintro e w1 ⟨mo, mb, rfl, h1, h2, h3, h4, hb⟩
  have hblk := hb.block w.heap.size (by simp)
  rw [heap_alloc_new] at hblk
  obtain ⟨c0, c1, c2, c3, c4, c5, cf⟩ := six hblk
  have hs : w.heap.size < w1.heap.size := by have := hb.size; simp at this; omega
  have hbb : Below w.heap.size w w1 := ((Below.refl _ _).alloc (Nat.le_refl _) _).trans (hb.mono (by simp))
  clear hblk hb
  go_wp2_with fail
  refine (from_any _ _ _ _ _ _ _).mono ?_
  rintro e w2 ⟨rfl, rfl⟩
  go_wp2
  exact bodyPost_ret (v := .agg #[.int .i64 0, .int .i64 0, .int .i64 0, .int .i64 mo, .int .i64 mb, .int .i64 9223372036854775807]) (by simp [results, Try.results14, go_sem, c0, c1, c2, c3, c4, c5, hs]) rfl
    ⟨mo, mb, rfl, h1, h2, h3, h4, ((set6 hbb (Nat.le_refl _) _ _ _ _ _ _).alloc (by simp [World.setCell]; omega) _).alloc (by simp [World.setCell]; omega) _⟩

theorem zztake_no (f b e mo mb me s ev : Int) (hno : f = mo ∨ (f == mo) = false ∧ 0 < f ∧ mb < b + s) (hf : 0 ≤ f) (hf' : f ≤ 1048576) (hb : 0 ≤ b) (hb' : b ≤ 4611686018427387904) (hs : 0 ≤ s) (hs' : s ≤ 1048576) (he : 0 ≤ e) (he' : e ≤ 4611686018427387904) (hv : 0 ≤ ev) (hv' : ev ≤ 1048576) (hev : decide (me < e + ev) = false) (w : World) :
    Calls Try.prog 15 #[.agg #[.int .i64 f, .int .i64 b, .int .i64 e, .int .i64 mo, .int .i64 mb, .int .i64 me], .int .i64 s, .int .i64 ev] w fun en w' => en = .returned (.tuple #[.agg #[.int .i64 f, .int .i64 b, .int .i64 e, .int .i64 mo, .int .i64 mb, .int .i64 me], .bool false]) ∧ Below w.heap.size w w' := by
  have hbb := Below.refl w.heap.size w
  go_enter Try.func15, Try.ntmps15
  go_wp2_with fail
  refine (to_any _ _ _ _ _ _ _).mono ?_
  rintro en w2 ⟨rfl, rfl⟩
  go_wp2_with fail
  have key : ∀ W : World, W.cell? ⟨w.heap.size + 1 + 1 + 1 + 1, 0, none⟩ = some (.int .i64 f) → W.cell? ⟨w.heap.size + 1 + 1 + 1 + 1, 1, none⟩ = some (.int .i64 b) → W.cell? ⟨w.heap.size + 1 + 1 + 1 + 1, 2, none⟩ = some (.int .i64 e) → W.cell? ⟨w.heap.size + 1 + 1 + 1 + 1, 3, none⟩ = some (.int .i64 mo) → W.cell? ⟨w.heap.size + 1 + 1 + 1 + 1, 4, none⟩ = some (.int .i64 mb) → W.cell? ⟨w.heap.size + 1 + 1 + 1 + 1, 5, none⟩ = some (.int .i64 me) →
      Calls Try.prog 26 #[.pointer (some ⟨w.heap.size + 1 + 1 + 1 + 1, 0, none⟩), .int .i64 s, .int .i64 ev] W fun en w' => en = .returned (.bool false) ∧ ∃ nq, w' = W.drewN nq := by
    intro W c0 c1 c2 c3 c4 c5
    rcases hno with h | ⟨h1, h2, h3⟩
    · exact take_full _ f mo s ev h W c0 c3
    · exact take_big _ f b e mo mb me s ev h1 h2 h3 hev hb hb' hs hs' he he' hv hv' W c0 c1 c2 c3 c4 c5
  refine (key _ (by simp [go_sem]) (by simp [go_sem]) (by simp [go_sem]) (by simp [go_sem]) (by simp [go_sem]) (by simp [go_sem])).mono ?_
  rintro en w3 ⟨rfl, nq, rfl⟩
  clear key hno
  go_wp2_with fail
  refine (from_any _ _ _ _ _ _ _).mono ?_
  rintro en w2 ⟨rfl, rfl⟩
  go_wp2
  exact bodyPost_ret (v := .tuple #[.agg #[.int .i64 f, .int .i64 b, .int .i64 e, .int .i64 mo, .int .i64 mb, .int .i64 me], .bool false]) (by simp [results, Try.results15, go_sem]) rfl ⟨rfl, ((set6 (below_drewN (al5 w _ _ _ _ _) _) (Nat.le_succ _) _ _ _ _ _ _).alloc (by simp [World.setCell]; omega) _).alloc (by simp [World.setCell]; omega) _⟩

theorem zztake_yes (f b e mo mb me s ev : Int) (hne : (f == mo) = false) (hok : f = 0 ∨ 0 < f ∧ decide (mb < b + s) = false) (hf : 0 ≤ f) (hf' : f ≤ 1048576) (hb : 0 ≤ b) (hb' : b ≤ 4611686018427387904) (hs : 0 ≤ s) (hs' : s ≤ 1048576) (he : 0 ≤ e) (he' : e ≤ 4611686018427387904) (hv : 0 ≤ ev) (hv' : ev ≤ 1048576) (hev : decide (me < e + ev) = false) (w : World) :
    Calls Try.prog 15 #[.agg #[.int .i64 f, .int .i64 b, .int .i64 e, .int .i64 mo, .int .i64 mb, .int .i64 me], .int .i64 s, .int .i64 ev] w fun en w' => en = .returned (.tuple #[.agg #[.int .i64 (f + 1), .int .i64 (b + s), .int .i64 (e + ev), .int .i64 mo, .int .i64 mb, .int .i64 me], .bool true]) ∧ Below w.heap.size w w' := by
  have hbb := Below.refl w.heap.size w
  go_enter Try.func15, Try.ntmps15
  go_wp2_with fail
  refine (to_any _ _ _ _ _ _ _).mono ?_
  rintro en w2 ⟨rfl, rfl⟩
  go_wp2_with fail
  refine (take_yes _ f b e mo mb me s ev hne hok hev hf hf' hb hb' hs hs' he he' hv hv' _ (by simp [go_sem]) (by simp [go_sem]) (by simp [go_sem]) (by simp [go_sem]) (by simp [go_sem]) (by simp [go_sem]) (by intro i; simp [go_sem])).mono ?_
  rintro en w3 ⟨rfl, nq, rfl⟩
  go_wp2_with fail
  refine (from_any _ _ _ _ _ _ _).mono ?_
  rintro en w2 ⟨rfl, rfl⟩
  go_wp2
  exact bodyPost_ret (v := .tuple #[.agg #[.int .i64 (f + 1), .int .i64 (b + s), .int .i64 (e + ev), .int .i64 mo, .int .i64 mb, .int .i64 me], .bool true]) (by simp [results, Try.results15, go_sem]) rfl ⟨rfl, ((set6 (below_drewN (al5 w _ _ _ _ _) _) (Nat.le_succ _) _ _ _ _ _ _).alloc (by simp [World.setCell]; omega) _).alloc (by simp [World.setCell]; omega) _⟩
end Go.Proofs.Qxb6003694a.fnVisitTakeKeepsItsBounds
