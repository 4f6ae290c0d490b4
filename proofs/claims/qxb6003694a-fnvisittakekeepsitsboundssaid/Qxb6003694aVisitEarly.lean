import Derived.Test.Qxb6003694aVisitCalls
import Derived.Deep.RegionWith
namespace Go.Proofs.Qxb6003694a.fnVisitTakeKeepsItsBounds
open Go.ChangeShapes Go.WideShapes Go.ChangeAt Go.RowKit
open Go.Proofs.Qxb6003694a.Own
set_option linter.unusedVariables false

set_option maxRecDepth 100000 in
set_option maxHeartbeats 1000000 in
theorem walk_early (a0 : Int) (a1 a2 : Option Addr) (n1 n2 c1 c2 : Nat) (h1 : n1 ≤ maxLen) (h2 : n2 ≤ maxLen) (w : World)
    (h : 1024 < n1 ∨ 1024 < n2 ∨ n1 ≠ n2) :
    Calls Try.prog 5 #[.int .i64 a0, .slice a1 n1 c1, .slice a2 n2 c2] w fun e w' => e = .returned (.bool true) ∧ Below w.heap.size w w' := by
  unfold maxLen at h1 h2
  by_cases hb : 1048576 < n1 + n2
  · by_cases h1' : 1048576 < n1
    · go_enter Try.func5, Try.ntmps5
      go_wp2
      go_ret
      exact ⟨rfl, Below.refl _ _⟩
    · by_cases h2' : 1048576 < n2
      · go_enter Try.func5, Try.ntmps5
        go_wp2
        go_ret
        exact ⟨rfl, Below.refl _ _⟩
      · go_enter Try.func5, Try.ntmps5
        go_wp2
        go_ret
        exact ⟨rfl, Below.refl _ _⟩
  · by_cases h1' : 1024 < n1
    · go_enter Try.func5, Try.ntmps5
      go_wp2
      go_ret
      exact ⟨rfl, Below.refl _ _⟩
    · by_cases h2' : 1024 < n2
      · go_enter Try.func5, Try.ntmps5
        go_wp2
        go_ret
        exact ⟨rfl, Below.refl _ _⟩
      · have hne : ((n1 : Int) == (n2 : Int)) = false := by simp; omega
        go_enter Try.func5, Try.ntmps5
        go_wp2
        go_ret
        exact ⟨rfl, Below.refl _ _⟩


theorem bcell {W w1 : World} (hb : Below W.heap.size W w1) : (∀ b o, b < W.heap.size → w1.cell? ⟨b, o, none⟩ = W.cell? ⟨b, o, none⟩) ∧ (∀ b o, b < W.heap.size → w1.frozen? ⟨b, o, none⟩ = W.frozen? ⟨b, o, none⟩) :=
  ⟨fun b o h => hb.cell (p := ⟨b, o, none⟩) h, fun b o h => hb.frozen (p := ⟨b, o, none⟩) h⟩

theorem al_cell {wr : World} {a : Addr} {v : Value} (h : wr.cell? a = some v) (q : Nat) (o : Obj) : ((wr.drewN q).alloc o).cell? a = some v := by
  exact (World.cell?_alloc_lt (wr.drewN q) o a (World.block_lt_of_cell? wr a h)).trans h

theorem bnew6 {wr w4 : World} {q : Nat} {a0 a1 a2 a3 a4 a5 : Value} {t : TypeId} (hb : Below ((wr.drewN q).alloc (.cells #[a0, a1, a2, a3, a4, a5] t)).heap.size ((wr.drewN q).alloc (.cells #[a0, a1, a2, a3, a4, a5] t)) w4) :
    w4.cell? ⟨wr.heap.size, 0, none⟩ = some a0 ∧ w4.cell? ⟨wr.heap.size, 1, none⟩ = some a1 ∧ w4.cell? ⟨wr.heap.size, 2, none⟩ = some a2 ∧ w4.cell? ⟨wr.heap.size, 3, none⟩ = some a3 ∧ w4.cell? ⟨wr.heap.size, 4, none⟩ = some a4 ∧ w4.cell? ⟨wr.heap.size, 5, none⟩ = some a5 ∧ ∀ i, w4.frozen? ⟨wr.heap.size, i, none⟩ = false := by
  have h := hb.block wr.heap.size (by simp)
  have e : ((wr.drewN q).alloc (.cells #[a0, a1, a2, a3, a4, a5] t)).heap[wr.heap.size]? = some (.cells #[a0, a1, a2, a3, a4, a5] t) := heap_alloc_new (wr.drewN q) _
  exact six (h.trans e)

/-- the cells that the call's statement reads -/
theorem held_of {W W' : World} {B k T : Nat} {v0 v1 x0 x1 x2 x3 x4 x5 : Value} (h : ∀ a v, W.cell? a = some v → a.block < W.heap.size → a.block = B ∨ a.block = B + 1 ∨ a.block = T + 1 → W'.cell? a = some v) (s : W.cell? ⟨B, k, none⟩ = some v0 ∧ W.cell? ⟨B + 1, k, none⟩ = some v1 ∧ W.cell? ⟨T + 1, 0, none⟩ = some x0 ∧ W.cell? ⟨T + 1, 1, none⟩ = some x1 ∧ W.cell? ⟨T + 1, 2, none⟩ = some x2 ∧ W.cell? ⟨T + 1, 3, none⟩ = some x3 ∧ W.cell? ⟨T + 1, 4, none⟩ = some x4 ∧ W.cell? ⟨T + 1, 5, none⟩ = some x5) : W'.cell? ⟨B, k, none⟩ = some v0 ∧ W'.cell? ⟨B + 1, k, none⟩ = some v1 ∧ W'.cell? ⟨T + 1, 0, none⟩ = some x0 ∧ W'.cell? ⟨T + 1, 1, none⟩ = some x1 ∧ W'.cell? ⟨T + 1, 2, none⟩ = some x2 ∧ W'.cell? ⟨T + 1, 3, none⟩ = some x3 ∧ W'.cell? ⟨T + 1, 4, none⟩ = some x4 ∧ W'.cell? ⟨T + 1, 5, none⟩ = some x5 := by
  have l : ∀ {a v}, W.cell? a = some v → a.block < W.heap.size := fun e => World.block_lt_of_cell? W _ e
  obtain ⟨a0, a1, a2, a3, a4, a5, a6, a7⟩ := s
  exact ⟨h _ _ a0 (l a0) (.inl rfl), h _ _ a1 (l a1) (.inr (.inl rfl)), h _ _ a2 (l a2) (.inr (.inr rfl)), h _ _ a3 (l a3) (.inr (.inr rfl)), h _ _ a4 (l a4) (.inr (.inr rfl)), h _ _ a5 (l a5) (.inr (.inr rfl)), h _ _ a6 (l a6) (.inr (.inr rfl)), h _ _ a7 (l a7) (.inr (.inr rfl))⟩

theorem held_alloc {W : World} {o : Obj} {B k T : Nat} {v0 v1 x0 x1 x2 x3 x4 x5 : Value} (s : W.cell? ⟨B, k, none⟩ = some v0 ∧ W.cell? ⟨B + 1, k, none⟩ = some v1 ∧ W.cell? ⟨T + 1, 0, none⟩ = some x0 ∧ W.cell? ⟨T + 1, 1, none⟩ = some x1 ∧ W.cell? ⟨T + 1, 2, none⟩ = some x2 ∧ W.cell? ⟨T + 1, 3, none⟩ = some x3 ∧ W.cell? ⟨T + 1, 4, none⟩ = some x4 ∧ W.cell? ⟨T + 1, 5, none⟩ = some x5) : (W.alloc o).cell? ⟨B, k, none⟩ = some v0 ∧ (W.alloc o).cell? ⟨B + 1, k, none⟩ = some v1 ∧ (W.alloc o).cell? ⟨T + 1, 0, none⟩ = some x0 ∧ (W.alloc o).cell? ⟨T + 1, 1, none⟩ = some x1 ∧ (W.alloc o).cell? ⟨T + 1, 2, none⟩ = some x2 ∧ (W.alloc o).cell? ⟨T + 1, 3, none⟩ = some x3 ∧ (W.alloc o).cell? ⟨T + 1, 4, none⟩ = some x4 ∧ (W.alloc o).cell? ⟨T + 1, 5, none⟩ = some x5 :=
  held_of (fun a v e l _ => (World.cell?_alloc_lt W o a l).trans e) s
theorem held_below {W w4 : World} {B k T : Nat} {v0 v1 x0 x1 x2 x3 x4 x5 : Value} (hb : Below W.heap.size W w4) (s : W.cell? ⟨B, k, none⟩ = some v0 ∧ W.cell? ⟨B + 1, k, none⟩ = some v1 ∧ W.cell? ⟨T + 1, 0, none⟩ = some x0 ∧ W.cell? ⟨T + 1, 1, none⟩ = some x1 ∧ W.cell? ⟨T + 1, 2, none⟩ = some x2 ∧ W.cell? ⟨T + 1, 3, none⟩ = some x3 ∧ W.cell? ⟨T + 1, 4, none⟩ = some x4 ∧ W.cell? ⟨T + 1, 5, none⟩ = some x5) : w4.cell? ⟨B, k, none⟩ = some v0 ∧ w4.cell? ⟨B + 1, k, none⟩ = some v1 ∧ w4.cell? ⟨T + 1, 0, none⟩ = some x0 ∧ w4.cell? ⟨T + 1, 1, none⟩ = some x1 ∧ w4.cell? ⟨T + 1, 2, none⟩ = some x2 ∧ w4.cell? ⟨T + 1, 3, none⟩ = some x3 ∧ w4.cell? ⟨T + 1, 4, none⟩ = some x4 ∧ w4.cell? ⟨T + 1, 5, none⟩ = some x5 :=
  held_of (fun a v e l _ => (hb.cell l).trans e) s
theorem held_set6 {W : World} {B k T X : Nat} {v0 v1 x0 x1 x2 x3 x4 x5 : Value} (y0 y1 y2 y3 y4 y5 : Value) (hB : B + 1 < X) (hT : T + 1 < X) (s : W.cell? ⟨B, k, none⟩ = some v0 ∧ W.cell? ⟨B + 1, k, none⟩ = some v1 ∧ W.cell? ⟨T + 1, 0, none⟩ = some x0 ∧ W.cell? ⟨T + 1, 1, none⟩ = some x1 ∧ W.cell? ⟨T + 1, 2, none⟩ = some x2 ∧ W.cell? ⟨T + 1, 3, none⟩ = some x3 ∧ W.cell? ⟨T + 1, 4, none⟩ = some x4 ∧ W.cell? ⟨T + 1, 5, none⟩ = some x5) :
    ((((((W.setCell ⟨X, 0, none⟩ y0).setCell ⟨X, 1, none⟩ y1).setCell ⟨X, 2, none⟩ y2).setCell ⟨X, 3, none⟩ y3).setCell ⟨X, 4, none⟩ y4).setCell ⟨X, 5, none⟩ y5).cell? ⟨B, k, none⟩ = some v0 ∧ ((((((W.setCell ⟨X, 0, none⟩ y0).setCell ⟨X, 1, none⟩ y1).setCell ⟨X, 2, none⟩ y2).setCell ⟨X, 3, none⟩ y3).setCell ⟨X, 4, none⟩ y4).setCell ⟨X, 5, none⟩ y5).cell? ⟨B + 1, k, none⟩ = some v1 ∧ ((((((W.setCell ⟨X, 0, none⟩ y0).setCell ⟨X, 1, none⟩ y1).setCell ⟨X, 2, none⟩ y2).setCell ⟨X, 3, none⟩ y3).setCell ⟨X, 4, none⟩ y4).setCell ⟨X, 5, none⟩ y5).cell? ⟨T + 1, 0, none⟩ = some x0 ∧ ((((((W.setCell ⟨X, 0, none⟩ y0).setCell ⟨X, 1, none⟩ y1).setCell ⟨X, 2, none⟩ y2).setCell ⟨X, 3, none⟩ y3).setCell ⟨X, 4, none⟩ y4).setCell ⟨X, 5, none⟩ y5).cell? ⟨T + 1, 1, none⟩ = some x1 ∧ ((((((W.setCell ⟨X, 0, none⟩ y0).setCell ⟨X, 1, none⟩ y1).setCell ⟨X, 2, none⟩ y2).setCell ⟨X, 3, none⟩ y3).setCell ⟨X, 4, none⟩ y4).setCell ⟨X, 5, none⟩ y5).cell? ⟨T + 1, 2, none⟩ = some x2 ∧ ((((((W.setCell ⟨X, 0, none⟩ y0).setCell ⟨X, 1, none⟩ y1).setCell ⟨X, 2, none⟩ y2).setCell ⟨X, 3, none⟩ y3).setCell ⟨X, 4, none⟩ y4).setCell ⟨X, 5, none⟩ y5).cell? ⟨T + 1, 3, none⟩ = some x3 ∧ ((((((W.setCell ⟨X, 0, none⟩ y0).setCell ⟨X, 1, none⟩ y1).setCell ⟨X, 2, none⟩ y2).setCell ⟨X, 3, none⟩ y3).setCell ⟨X, 4, none⟩ y4).setCell ⟨X, 5, none⟩ y5).cell? ⟨T + 1, 4, none⟩ = some x4 ∧ ((((((W.setCell ⟨X, 0, none⟩ y0).setCell ⟨X, 1, none⟩ y1).setCell ⟨X, 2, none⟩ y2).setCell ⟨X, 3, none⟩ y3).setCell ⟨X, 4, none⟩ y4).setCell ⟨X, 5, none⟩ y5).cell? ⟨T + 1, 5, none⟩ = some x5 := by
  refine held_of (fun a v e l hx => ?_) s
  have ne : ∀ i, (⟨X, i, none⟩ : Addr) ≠ a := fun i h => by subst h; simp at hx; omega
  rw [World.cell?_setCell_other _ _ _ _ (ne 5), World.cell?_setCell_other _ _ _ _ (ne 4), World.cell?_setCell_other _ _ _ _ (ne 3), World.cell?_setCell_other _ _ _ _ (ne 2), World.cell?_setCell_other _ _ _ _ (ne 1), World.cell?_setCell_other _ _ _ _ (ne 0)]
  exact e

section
variable {wr w4 : World} {q : Nat}
theorem kb1 (q : Nat) : Below wr.heap.size wr (wr.drewN q).drew := Below.drew (below_drewN (Below.refl _ _) _)
theorem kb2 (q : Nat) (o : Obj) : Below wr.heap.size wr ((wr.drewN q).alloc o) := (below_drewN (Below.refl _ _) _).alloc (Nat.le_refl _) _
theorem kb3 (h : Below (wr.drewN q).heap.size (wr.drewN q) w4) : Below wr.heap.size wr w4 := (below_drewN (Below.refl _ _) _).trans h
theorem kb4 {o : Obj} (h : Below ((wr.drewN q).alloc o).heap.size ((wr.drewN q).alloc o) w4) : Below wr.heap.size wr w4 := (kb2 q o).trans (h.mono (by simp))
theorem kb5 (h : Below (wr.drewN q).heap.size (wr.drewN q) w4) (o : Obj) : Below wr.heap.size wr (w4.alloc o) := (kb3 h).alloc (kb3 h).size _
theorem kb6 {o : Obj} (h : Below ((wr.drewN q).alloc o).heap.size ((wr.drewN q).alloc o) w4) (v0 v1 v2 v3 v4 v5 : Value) :
    Below wr.heap.size wr ((((((w4.setCell ⟨wr.heap.size, 0, none⟩ v0).setCell ⟨wr.heap.size, 1, none⟩ v1).setCell ⟨wr.heap.size, 2, none⟩ v2).setCell ⟨wr.heap.size, 3, none⟩ v3).setCell ⟨wr.heap.size, 4, none⟩ v4).setCell ⟨wr.heap.size, 5, none⟩ v5) :=
  set6 (kb4 h) (Nat.le_refl _) _ _ _ _ _ _
end

theorem no_of {f mo mb bs : Int} (h : f = mo ∨ 0 < f ∧ mb < bs) : f = mo ∨ (f == mo) = false ∧ 0 < f ∧ mb < bs := by
  by_cases e : f = mo
  · exact .inl e
  · exact .inr ⟨by simpa using e, h.resolve_left e⟩
theorem no_tb {f mo mb bs : Int} {TB : Bool} (h : f = mo ∨ 0 < f ∧ mb < bs) (ht : TB = (decide (0 < f) && decide (mb < bs))) : ((f == mo) = true) ∨ ((f == mo) = false ∧ true = TB) := by
  by_cases e : f = mo
  · exact .inl (by simpa using e)
  · have h2 := h.resolve_left e
    exact .inr ⟨by simpa using e, by rw [ht]; simp [h2.1, h2.2]⟩
theorem yes_of {f mo mb bs : Int} (h0 : 0 ≤ f) (h : ¬ (f = mo ∨ 0 < f ∧ mb < bs)) : f = 0 ∨ 0 < f ∧ decide (mb < bs) = false := by
  by_cases e : f = 0
  · exact .inl e
  · exact .inr ⟨by omega, by simp; omega⟩
theorem yes_tb {f mo mb b s : Int} (h0 : 0 ≤ f) (hz : f = 0 → b = 0) (h : ¬ (f = mo ∨ 0 < f ∧ mb < b + s)) : ((f == 0) = true ∧ f ≤ 0 ∧ b ≤ 0) ∨ ((f == 0) = false ∧ 0 < f ∧ b + s ≤ mb) := by
  by_cases e : f = 0
  · exact .inl ⟨by simpa using e, by omega, by have := hz e; omega⟩
  · exact .inr ⟨by simpa using e, by omega, by omega⟩

/-- what the second loop keeps of its numbers -/
structure Bds (mo mb : Int) (k : Nat) (f b e fst : Int) : Prop where
  f0 : 0 ≤ f
  fk : f ≤ k
  fm : f ≤ mo
  b0 : 0 ≤ b
  bk : b ≤ k * 1048576
  e0 : 0 ≤ e
  ek : e ≤ k * 1048576
  s0 : 0 ≤ fst
  sb : fst ≤ b
  one : b - fst ≤ mb
  two : 1 < f → b ≤ mb
  zero : f = 0 → b = 0

theorem Bds.start {mo mb : Int} (h1 : 1 ≤ mo) (h3 : 0 ≤ mb) : Bds mo mb 0 0 0 0 0 := ⟨by omega, by omega, by omega, by omega, by omega, by omega, by omega, by omega, by omega, by omega, by omega, fun _ => rfl⟩

/-- what the second loop keeps of memory -/
structure Inv (w : World) (T n : Nat) (S E : Nat → Int) (mo mb f b e : Int) (wr : World) : Prop where
  bel : Below w.heap.size w wr
  r1 : wr.rowIs w.heap.size 3 n (fun j => .int .i64 (S j))
  r2 : wr.rowIs (w.heap.size + 1) 3 n (fun j => .int .i64 (E j))
  t8 : wr.heap[T]? = some (.cells #[.int .i64 0, .int .i64 0, .int .i64 0, .int .i64 mo, .int .i64 mb, .int .i64 9223372036854775807] 44 (0, 0))
  t9 : wr.heap[T + 1]? = some (.cells #[.int .i64 f, .int .i64 b, .int .i64 e, .int .i64 mo, .int .i64 mb, .int .i64 9223372036854775807] 44 (0, 0))
  hT : w.heap.size + 1 < T

theorem Inv.lt {w : World} {T n : Nat} {S E : Nat → Int} {mo mb f b e : Int} {wr : World} (h : Inv w T n S E mo mb f b e wr) : T + 1 < wr.heap.size := (Array.getElem?_eq_some_iff.1 h.t9).1

theorem Inv.below {w : World} {T n : Nat} {S E : Nat → Int} {mo mb f b e : Int} {wr w' : World} (h : Inv w T n S E mo mb f b e wr) {B : Nat} (hb : Below B wr w') (hB : T + 1 < B) : Inv w T n S E mo mb f b e w' :=
  have := h.hT
  ⟨h.bel.trans (hb.mono (by omega)), below_row hb h.r1 (by omega), below_row hb h.r2 (by omega), (hb.block _ (by omega)).trans h.t8, (hb.block _ (by omega)).trans h.t9, h.hT⟩

theorem Inv.start {w w1 w2 w3 : World} {n : Nat} {S E : Nat → Int} {mo mb : Int} (hb1 : Below w.heap.size w w1) (r1 : w1.rowIs w.heap.size 3 n (fun j => .int .i64 (S j))) (hs1 : w1.heap.size = w.heap.size + 1)
    (hb2 : Below w1.heap.size w1 w2) (r2 : w2.rowIs w1.heap.size 3 n (fun j => .int .i64 (E j))) (hb3 : Below w2.heap.size w2 w3) :
    Inv w w3.heap.size n S E mo mb 0 0 0 ((w3.alloc (.cells #[.int .i64 0, .int .i64 0, .int .i64 0, .int .i64 mo, .int .i64 mb, .int .i64 9223372036854775807] 44)).alloc (.cells #[.int .i64 0, .int .i64 0, .int .i64 0, .int .i64 mo, .int .i64 mb, .int .i64 9223372036854775807] 44)) := by
  have l1 := r2.lt
  have l3 := hb3.size
  rw [hs1] at l1 r2
  have hbel : Below w.heap.size w w3 := (hb1.trans (hb2.mono (by omega))).trans (hb3.mono (by omega))
  refine ⟨(hbel.alloc (by omega) _).alloc (by simp; omega) _, ((below_row hb3 (below_row hb2 r1 (by omega)) (by omega)).alloc _).alloc _, ((below_row hb3 r2 (by omega)).alloc _).alloc _, heap_alloc2_old _ _ _, heap_alloc2_new _ _ _, by omega⟩


theorem six_set {w4 : World} {X t : Nat} {a0 a1 a2 a3 a4 a5 : Value} (h : w4.heap[X]? = some (.cells #[a0, a1, a2, a3, a4, a5] t (0, 0))) (v0 v1 v2 v3 v4 v5 : Value) :
    ((((((w4.setCell ⟨X, 0, none⟩ v0).setCell ⟨X, 1, none⟩ v1).setCell ⟨X, 2, none⟩ v2).setCell ⟨X, 3, none⟩ v3).setCell ⟨X, 4, none⟩ v4).setCell ⟨X, 5, none⟩ v5).heap[X]? = some (.cells #[v0, v1, v2, v3, v4, v5] t (0, 0)) := by
  have h0 := heap_setCell_same w4 X 0 _ t v0 h
  have h1 := heap_setCell_same _ X 1 _ t v1 h0
  have h2 := heap_setCell_same _ X 2 _ t v2 h1
  have h3 := heap_setCell_same _ X 3 _ t v3 h2
  have h4 := heap_setCell_same _ X 4 _ t v4 h3
  have h5 := heap_setCell_same _ X 5 _ t v5 h4
  rw [h5]
  simp

section
variable {w : World} {T n : Nat} {S E : Nat → Int} {mo mb f b e : Int} {wr w4 : World} {q : Nat}
theorem rel_after (hinv : Inv w T n S E mo mb f b e wr) (hb4 : Below (wr.drewN q).heap.size (wr.drewN q) w4) (C : Array Value) :
    Inv w T n S E mo mb f b e (w4.alloc (.cells C 44)) ∧ (w4.alloc (.cells C 44)).heap[w4.heap.size]? = some (.cells C 44 (0, 0)) ∧ T + 1 < w4.heap.size := by
  have hl := hinv.lt
  have hs := (kb3 hb4).size
  exact ⟨hinv.below (kb5 hb4 _) hl, heap_alloc_new _ _, by omega⟩
theorem rel_before {z0 z1 z2 z3 z4 z5 : Value} (hinv : Inv w T n S E mo mb f b e wr) (hb4 : Below ((wr.drewN q).alloc (.cells #[z0, z1, z2, z3, z4, z5] 44)).heap.size ((wr.drewN q).alloc (.cells #[z0, z1, z2, z3, z4, z5] 44)) w4) (v0 v1 v2 v3 v4 v5 : Value) :
    Inv w T n S E mo mb f b e ((((((w4.setCell ⟨wr.heap.size, 0, none⟩ v0).setCell ⟨wr.heap.size, 1, none⟩ v1).setCell ⟨wr.heap.size, 2, none⟩ v2).setCell ⟨wr.heap.size, 3, none⟩ v3).setCell ⟨wr.heap.size, 4, none⟩ v4).setCell ⟨wr.heap.size, 5, none⟩ v5) ∧ ((((((w4.setCell ⟨wr.heap.size, 0, none⟩ v0).setCell ⟨wr.heap.size, 1, none⟩ v1).setCell ⟨wr.heap.size, 2, none⟩ v2).setCell ⟨wr.heap.size, 3, none⟩ v3).setCell ⟨wr.heap.size, 4, none⟩ v4).setCell ⟨wr.heap.size, 5, none⟩ v5).heap[wr.heap.size]? = some (.cells #[v0, v1, v2, v3, v4, v5] 44 (0, 0)) ∧ T + 1 < wr.heap.size := by
  have hl := hinv.lt
  have h := hb4.block wr.heap.size (by simp)
  have e' : ((wr.drewN q).alloc (.cells #[z0, z1, z2, z3, z4, z5] 44)).heap[wr.heap.size]? = some (.cells #[z0, z1, z2, z3, z4, z5] 44) := heap_alloc_new (wr.drewN q) _
  exact ⟨hinv.below (kb6 hb4 _ _ _ _ _ _) hl, six_set (h.trans e') _ _ _ _ _ _, hl⟩
/-- v = next -/
theorem Inv.store (hinv : Inv w T n S E mo mb f b e wr) (f' b' e' : Int) :
    Inv w T n S E mo mb f' b' e' ((((((wr.setCell ⟨T + 1, 0, none⟩ (.int .i64 f')).setCell ⟨T + 1, 1, none⟩ (.int .i64 b')).setCell ⟨T + 1, 2, none⟩ (.int .i64 e')).setCell ⟨T + 1, 3, none⟩ (.int .i64 mo)).setCell ⟨T + 1, 4, none⟩ (.int .i64 mb)).setCell ⟨T + 1, 5, none⟩ (.int .i64 9223372036854775807)) := by
  have hT := hinv.hT
  refine ⟨set6 hinv.bel (by omega) _ _ _ _ _ _, ?_, ?_, ?_, six_set hinv.t9 _ _ _ _ _ _, hT⟩
  · exact (((((hinv.r1.setOther (by simp; omega) _).setOther (by simp; omega) _).setOther (by simp; omega) _).setOther (by simp; omega) _).setOther (by simp; omega) _).setOther (by simp; omega) _
  · exact (((((hinv.r2.setOther (by simp; omega) _).setOther (by simp; omega) _).setOther (by simp; omega) _).setOther (by simp; omega) _).setOther (by simp; omega) _).setOther (by simp; omega) _
  · rw [heap_setCell_other _ _ _ _ (by simp), heap_setCell_other _ _ _ _ (by simp), heap_setCell_other _ _ _ _ (by simp), heap_setCell_other _ _ _ _ (by simp), heap_setCell_other _ _ _ _ (by simp), heap_setCell_other _ _ _ _ (by simp)]
    exact hinv.t8
end

end Go.Proofs.Qxb6003694a.fnVisitTakeKeepsItsBounds
