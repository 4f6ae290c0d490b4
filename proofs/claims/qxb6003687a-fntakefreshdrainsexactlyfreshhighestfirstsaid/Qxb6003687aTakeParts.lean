import Derived.Test.Qxb6003687aTakeEarly
import Derived.Deep.OwnRows
import Derived.Deep.QuietTactic
import Derived.BigQuiet
namespace Go.Proofs.Qxb6003687a.fnTakeFresh
open Go.ChangeShapes Go.WideShapes Go.ChangeAt Go.RowKit
set_option linter.unusedVariables false

/-- the cells of a row of tokens -/
def tok (O M : Nat → Int) (F : Nat → Bool) (j : Nat) : Value :=
  if j % 3 = 0 then .int .i64 (O (j / 3)) else if j % 3 = 1 then .int .i64 (M (j / 3)) else .bool (F (j / 3))
def zer (j : Nat) : Value := if j % 3 = 2 then .bool false else .int .i64 0
def mix (O M : Nat → Int) (F : Nat → Bool) (k j : Nat) : Value := if j < k * 3 then tok O M F j else zer j
/-- how many of the first k are fresh -/
def cnt (F : Nat → Bool) : Nat → Nat
  | 0 => 0
  | k + 1 => cnt F k + (if F k then 1 else 0)

def MC (n : Nat) : Array Value := madeCells #[.int .i64 0, .int .i64 0, .bool false] (n * 3)
theorem Try.info39 : (Try.prog.info? 39).map (fun i => (i.zero, i.size, i.bytes)) = some (some (.agg #[.int .i64 0, .int .i64 0, .bool false]), 3, 24) := by kernel_rfl

theorem make_tokens (n : Nat) (hn : n ≤ 1048576) (w : World) :
    (Instr.makeSlice 37 (.int .i64 (n : Int)) (.int .i64 (n : Int))).run Try.prog w = .ok (.slice (some ⟨w.heap.size, 0, none⟩) n n) (w.alloc (.cells (MC n) 39)) := by
  obtain ⟨i0, hi, hz0, hz1, hz2⟩ := info_parts Try.info39
  have := run_make (P := Try.prog) w 37 39 i0 _ Try.underlying37 hi hz0 .i64 .i64 n n (by omega) (by omega) (by rw [hz2]; omega) (by omega)
  rw [this, hz1]
  rfl

theorem toList_MC (n i : Nat) (hi : i < n * 3) : (MC n).toList[i]? = some (zer i) := by
  have h3 : i % 3 = 0 ∨ i % 3 = 1 ∨ i % 3 = 2 := by omega
  simp [MC, madeCells, hi, zer]
  rcases h3 with h | h | h <;> simp [h]

theorem made_row (n : Nat) (w : World) : (w.alloc (.cells (MC n) 39)).rowIs w.heap.size 39 (n * 3) zer := by
  refine ⟨MC n, heap_alloc_new _ _, by simp [MC, madeCells], fun i hi => ?_⟩
  have hm := toList_MC n i hi
  rw [← Array.getElem?_toList]
  exact hm

/-- only draws apart -/
structure Same (w w' : World) : Prop where
  heap : w'.heap = w.heap
  os : w'.os = w.os
  tape : w'.tape = w.tape
  output : w'.output = w.output
theorem Same.refl (w : World) : Same w w := ⟨rfl, rfl, rfl, rfl⟩
theorem Same.drewN {w w' : World} (h : Same w w') (n : Nat) : Same w (w'.drewN n) := ⟨h.heap, h.os, h.tape, h.output⟩
theorem Same.cell {w w' : World} (h : Same w w') {a : Addr} {v : Value} (e : w.cell? a = some v) : w'.cell? a = some v := by
  simpa [World.cell?, h.heap] using e
theorem Same.below {w w' : World} (h : Same w w') (B : Nat) : Below B w w' := ⟨h.os, h.tape, h.output, by rw [h.heap]; exact Nat.le_refl _, fun _ _ => by rw [h.heap]⟩

theorem start2 {w w1 : World} (h : Same w w1) (n : Nat) (O M : Nat → Int) (F : Nat → Bool) :
    Below w.heap.size w ((w1.alloc (.cells (MC n) 39)).alloc (.cells (MC n) 39)) ∧ ((w1.alloc (.cells (MC n) 39)).alloc (.cells (MC n) 39)).rowIs w.heap.size 39 (n * 3) (mix O M F 0) ∧
    ((w1.alloc (.cells (MC n) 39)).alloc (.cells (MC n) 39)).rowIs (w.heap.size + 1) 39 (n * 3) (mix O M F 0) := by
  have hsz : w1.heap.size = w.heap.size := by rw [h.heap]
  have r0 := (made_row n w1).alloc (.cells (MC n) 39)
  have r1 := made_row n (w1.alloc (.cells (MC n) 39))
  have e : (w1.alloc (.cells (MC n) 39)).heap.size = w1.heap.size + 1 := by simp
  rw [e, hsz] at r1
  rw [hsz] at r0
  refine ⟨((h.below _).alloc (by rw [hsz]; exact Nat.le_refl _) _).alloc (by rw [e, hsz]; omega) _, r0.congr fun i _ => ?_, r1.congr fun i _ => ?_⟩
  · simp [mix]
  · simp [mix]

theorem cnt_le (F : Nat → Bool) : ∀ k, cnt F k ≤ k
  | 0 => Nat.le_refl _
  | k + 1 => by have := cnt_le F k; simp only [cnt]; split <;> omega


/-- One round of the filling loop. -/
theorem step2 {w wr : World} {n k : Nat} {O M : Nat → Int} {F : Nat → Bool} (hb : Below w.heap.size w wr) (hr0 : wr.rowIs w.heap.size 39 (n * 3) (mix O M F k)) (hr1 : wr.rowIs (w.heap.size + 1) 39 (n * 3) (mix O M F k))
    (f : Bool) (hf : F k = f) (W : World)
    (hW : W = ((((((wr.setCell ⟨w.heap.size, k * 3, none⟩ (.int .i64 (O k))).setCell ⟨w.heap.size, k * 3 + 1, none⟩ (.int .i64 (M k))).setCell ⟨w.heap.size, k * 3 + 2, none⟩ (.bool f)).setCell
      ⟨w.heap.size + 1, k * 3, none⟩ (.int .i64 (O k))).setCell ⟨w.heap.size + 1, k * 3 + 1, none⟩ (.int .i64 (M k))).setCell ⟨w.heap.size + 1, k * 3 + 2, none⟩ (.bool f)).drew) :
    Below w.heap.size w W ∧ W.rowIs w.heap.size 39 (n * 3) (mix O M F (k + 1)) ∧ W.rowIs (w.heap.size + 1) 39 (n * 3) (mix O M F (k + 1)) := by
  subst hW
  have key : ∀ j, (if j = k * 3 + 2 then Value.bool f else if j = k * 3 + 1 then .int .i64 (M k) else if j = k * 3 then .int .i64 (O k) else mix O M F k j) = mix O M F (k + 1) j := by
    intro j
    simp only [mix, tok]
    by_cases a : j = k * 3 + 2
    · subst a
      rw [if_pos rfl, if_pos (by omega), if_neg (by omega), if_neg (by omega), show (k * 3 + 2) / 3 = k by omega, hf]
    · rw [if_neg a]
      by_cases b : j = k * 3 + 1
      · subst b
        rw [if_pos rfl, if_pos (by omega), if_neg (by omega), if_pos (by omega), show (k * 3 + 1) / 3 = k by omega]
      · rw [if_neg b]
        by_cases c : j = k * 3
        · subst c
          rw [if_pos rfl, if_pos (by omega), if_pos (by omega), show (k * 3) / 3 = k by omega]
        · rw [if_neg c]
          by_cases d : j < k * 3
          · have d' : j < (k + 1) * 3 := by omega
            simp only [d, d', if_true]
          · have d' : ¬ j < (k + 1) * 3 := by omega
            simp only [d, d', if_false]
  refine ⟨Below.drew ((((((hb.setCell (by simp) _).setCell (by simp) _).setCell (by simp) _).setCell (by simp) _).setCell (by simp) _).setCell (by simp) _), ?_, ?_⟩
  · exact ((((((((hr0.set _ _).set _ _).set _ _).setOther (by simp) _).setOther (by simp) _).setOther (by simp) _).drew).congr fun j _ => key j)
  · exact ((((((((hr1.setOther (by simp) _).setOther (by simp) _).setOther (by simp) _).set _ _).set _ _).set _ _).drew).congr fun j _ => key j)

theorem mix_full {O M : Nat → Int} {F : Nat → Bool} {n : Nat} {w : World} {b : Nat} (h : w.rowIs b 39 (n * 3) (mix O M F n)) : w.rowIs b 39 (n * 3) (tok O M F) :=
  h.congr fun i hi => by simp [mix, hi]

theorem tok0 (O M : Nat → Int) (F : Nat → Bool) (k : Nat) : tok O M F (k * 3) = .int .i64 (O k) := by
  simp [tok]
theorem tok1 (O M : Nat → Int) (F : Nat → Bool) (k : Nat) : tok O M F (k * 3 + 1) = .int .i64 (M k) := by
  have a : (k * 3 + 1) % 3 = 1 := by omega
  have b : (k * 3 + 1) / 3 = k := by omega
  simp [tok, a, b]
theorem tok2 (O M : Nat → Int) (F : Nat → Bool) (k : Nat) : tok O M F (k * 3 + 2) = .bool (F k) := by
  have a : (k * 3 + 2) % 3 = 2 := by omega
  have b : (k * 3 + 2) / 3 = k := by omega
  simp [tok, a, b]

theorem mono_of_sorted {M : Nat → Int} {F : Nat → Bool} {n : Nat} (h : ∀ j, j + 1 < n → rankB (F j) (M j) (F (j+1)) (M (j+1)) = false) : ∀ d j, j + d < n → F (j + d) = false → F j = false
  | 0, j, _, e => e
  | d + 1, j, hj, e => by
    have ih := mono_of_sorted h d (j + 1) (by omega) (by rw [show j + 1 + d = j + (d + 1) by omega]; exact e)
    have := h j (by omega)
    rw [ih] at this
    cases hF : F j
    · rfl
    · rw [hF] at this; simp [rankB] at this

theorem cnt_zero {F : Nat → Bool} : ∀ k, (∀ j, j < k → F j = false) → cnt F k = 0
  | 0, _ => rfl
  | k + 1, h => by simp [cnt, cnt_zero k (fun j hj => h j (by omega)), h k (by omega)]
theorem cnt_add {F : Nat → Bool} (m : Nat) (h0 : ∀ j, j < m → F j = false) : ∀ t, (∀ j, j < t → F (m + j) = true) → cnt F (m + t) = t
  | 0, _ => by simpa using cnt_zero m h0
  | t + 1, h => by
    have ih := cnt_add m h0 t (fun j hj => h j (by omega))
    show cnt F (m + t + 1) = t + 1
    simp [cnt, ih, h t (by omega)]


theorem stop_or (F : Nat → Bool) (m : Nat) : (∀ k, m = k + 1 → F k = false) ∨ ∃ k, m = k + 1 ∧ F k = true := by
  cases m with
  | zero => exact .inl fun k hk => by omega
  | succ k =>
    cases h : F k
    · exact .inl fun j hj => by obtain rfl : k = j := by omega
                                exact h
    · exact .inr ⟨k, rfl, h⟩

/-- ZZTakeFresh stops: nothing is left, or the highest is stale. -/
theorem zztake_stop (B m c : Nat) (hk : m ≤ c) (hmax : c ≤ maxLen) (w : World) (h2 : ∀ k, m = k + 1 → w.cell? ⟨B, k * 3 + 2, none⟩ = some (.bool false)) :
    Calls Try.prog 13 #[.slice (some ⟨B, 0, none⟩) m c] w fun e w' => e = .returned (.tuple #[.slice (some ⟨B, 0, none⟩) m c, .agg #[.int .i64 0, .int .i64 0, .bool false], .bool false]) ∧ Below w.heap.size w w' := by
  cases m with
  | zero => exact zztake_none c _ w
  | succ k => exact zztake_stale B k c hk hmax w (h2 k rfl)

theorem below_row {B : Nat} {w w' : World} (h : Below B w w') {b t n : Nat} {f : Nat → Value} (r : w.rowIs b t n f) (hb : b < B) : w'.rowIs b t n f := r.of_block (h.block b hb)

/-- the token variable's block behind ZZTakeFresh -/
theorem behind_take {w wr w1 : World} {n : Nat} {O M : Nat → Int} {F : Nat → Bool} (hb : Below w.heap.size w wr) (r0 : wr.rowIs w.heap.size 39 (n * 3) (tok O M F)) (r1 : wr.rowIs (w.heap.size + 1) 39 (n * 3) (tok O M F))
    (h1 : Below (wr.alloc (.cells #[.int .i64 0, .int .i64 0, .bool false] 39)).heap.size (wr.alloc (.cells #[.int .i64 0, .int .i64 0, .bool false] 39)) w1) :
    Below w.heap.size w w1 ∧ w1.rowIs w.heap.size 39 (n * 3) (tok O M F) ∧ w1.rowIs (w.heap.size + 1) 39 (n * 3) (tok O M F) ∧
    w1.cell? ⟨wr.heap.size, 0, none⟩ = some (.int .i64 0) ∧ w1.cell? ⟨wr.heap.size, 1, none⟩ = some (.int .i64 0) ∧ w1.cell? ⟨wr.heap.size, 2, none⟩ = some (.bool false) ∧
    (∀ i, w1.frozen? ⟨wr.heap.size, i, none⟩ = false) ∧ w.heap.size + 1 < wr.heap.size := by
  have hlt := r1.lt
  have hs : (wr.alloc (.cells #[.int .i64 0, .int .i64 0, .bool false] 39)).heap.size = wr.heap.size + 1 := by simp
  have hbl := h1.block wr.heap.size (by rw [hs]; omega)
  rw [heap_alloc_new] at hbl
  refine ⟨(hb.alloc (by omega) _).trans (h1.mono (by rw [hs]; omega)), below_row h1 (r0.alloc _) (by rw [hs]; omega), below_row h1 (r1.alloc _) (by rw [hs]; omega), ?_, ?_, ?_, ?_, hlt⟩
  · simp [World.cell?, hbl]
  · simp [World.cell?, hbl]
  · simp [World.cell?, hbl]
  · intro i; simp [World.frozen?, hbl]

theorem step3 {w w1 : World} {n N : Nat} {O M : Nat → Int} {F : Nat → Bool} (hb : Below w.heap.size w w1) (s0 : w1.rowIs w.heap.size 39 (n * 3) (tok O M F)) (s1 : w1.rowIs (w.heap.size + 1) 39 (n * 3) (tok O M F)) (hN : w.heap.size + 1 < N)
    (x y z : Value) (W : World) (hW : ∃ nq, W = (((w1.setCell ⟨N, 0, none⟩ x).setCell ⟨N, 1, none⟩ y).setCell ⟨N, 2, none⟩ z).drewN nq) :
    Below w.heap.size w W ∧ W.rowIs w.heap.size 39 (n * 3) (tok O M F) ∧ W.rowIs (w.heap.size + 1) 39 (n * 3) (tok O M F) := by
  obtain ⟨nq, rfl⟩ := hW
  refine ⟨(((hb.setCell (by simp; omega) _).setCell (by simp; omega) _).setCell (by simp; omega) _).trans ⟨rfl, rfl, rfl, Nat.le_refl _, fun _ _ => rfl⟩, ?_, ?_⟩
  · exact ((s0.setOther (by simp; omega) _).setOther (by simp; omega) _).setOther (by simp; omega) _
  · exact ((s1.setOther (by simp; omega) _).setOther (by simp; omega) _).setOther (by simp; omega) _

end Go.Proofs.Qxb6003687a.fnTakeFresh
