import Derived.Test.Qxb6605443aBytes
namespace Go.Proofs.Qxb6605443a.fnTakeScript
open Go.ChangeShapes Go.WideShapes Go.ChangeAt Go.RowKit Go.Maps
open Go.Proofs.Qxb6605443a.Own
set_option linter.unusedVariables false

theorem Try.info27 : (Try.prog.info? 27).map (fun i => (i.zero, i.size, i.bytes)) = some (some (.agg #[.string ByteArray.empty, .string ByteArray.empty, .int .i64 0]), 3, 40) := by kernel_rfl
theorem Try.info37 : (Try.prog.info? 37).map (fun i => (i.zero, i.size, i.bytes)) = some (some (.agg #[.int .i64 0, .bool false]), 2, 16) := by kernel_rfl
theorem Try.info9 : (Try.prog.info? 9).map (fun i => (i.zero, i.size, i.bytes)) = some (some (.string ByteArray.empty), 1, 16) := by kernel_rfl

/-- a made row of n elements of the zero cells Z, s cells each -/
theorem make_rows {T E sz by' : Nat} {z : Value} (hT : Try.prog.underlying T = some (.slice E)) (hinfo : (Try.prog.info? E).map (fun i => (i.zero, i.size, i.bytes)) = some (some z, sz, by')) (hb : by' ≤ 64) (n : Nat) (hn : n ≤ 65536) (w : World) :
    (Instr.makeSlice T (.int .i64 (n : Int)) (.int .i64 (n : Int))).run Try.prog w = .ok (.slice (some ⟨w.heap.size, 0, none⟩) n n) (w.alloc (.cells (madeCells z.cells (n * sz)) E)) := by
  obtain ⟨i0, hi, hz0, hz1, hz2⟩ := info_parts hinfo
  have h1 : (i0.bytes : Int) * (n : Int) ≤ 281474976710656 := by
    rw [hz2]
    have : by' * n ≤ 64 * 65536 := Nat.mul_le_mul hb hn
    have h2 : ((by' * n : Nat) : Int) ≤ 4194304 := by omega
    rw [Int.natCast_mul] at h2
    omega
  have := run_make (P := Try.prog) w T E i0 _ hT hi hz0 .i64 .i64 n n (by omega) (by omega) h1 (by omega)
  rw [this, hz1]
  rfl

theorem made_rows (C : Array Value) (E : TypeId) (w : World) : ∃ f, (w.alloc (.cells C E)).rowIs w.heap.size E C.size f :=
  ⟨fun i => C[i]?.getD undef, C, heap_alloc_new _ _, rfl, fun i hi => by simp [hi]⟩

/-- row b holds the first k of the entries -/
def EntRow (w : World) (b n : Nat) (Pa Ky : Nat → ByteArray) (Ob : Nat → Int) (k : Nat) : Prop :=
  ∃ f, w.rowIs b 27 (n * 3) f ∧ ∀ j, j < k → f (j * 3) = .string (Pa j) ∧ f (j * 3 + 1) = .string (Ky j) ∧ f (j * 3 + 2) = .int .i64 (Ob j)
def TakRow (w : World) (b n : Nat) (TO : Nat → Int) (TV : Nat → Bool) (k : Nat) : Prop :=
  ∃ f, w.rowIs b 37 (n * 2) f ∧ ∀ j, j < k → f (j * 2) = .int .i64 (TO j) ∧ f (j * 2 + 1) = .bool (TV j)

theorem EntRow.step {w : World} {b n k : Nat} {Pa Ky : Nat → ByteArray} {Ob : Nat → Int} (h : EntRow w b n Pa Ky Ob k) (W : World)
    (hW : W = ((w.setCell ⟨b, k * 3, none⟩ (.string (Pa k))).setCell ⟨b, k * 3 + 1, none⟩ (.string (Ky k))).setCell ⟨b, k * 3 + 2, none⟩ (.int .i64 (Ob k))) : EntRow W b n Pa Ky Ob (k + 1) := by
  subst hW
  obtain ⟨f, hr, hf⟩ := h
  refine ⟨_, ((hr.set _ _).set _ _).set _ _, fun j hj => ?_⟩
  by_cases e : j = k
  · subst e
    refine ⟨?_, ?_, ?_⟩
    · rw [if_neg (by omega), if_neg (by omega), if_pos rfl]
    · rw [if_neg (by omega), if_pos rfl]
    · rw [if_pos rfl]
  · obtain ⟨h1, h2, h3⟩ := hf j (by omega)
    refine ⟨?_, ?_, ?_⟩
    · rw [if_neg (by omega), if_neg (by omega), if_neg (by omega)]; exact h1
    · rw [if_neg (by omega), if_neg (by omega), if_neg (by omega)]; exact h2
    · rw [if_neg (by omega), if_neg (by omega), if_neg (by omega)]; exact h3
theorem TakRow.step {w : World} {b n k : Nat} {TO : Nat → Int} {TV : Nat → Bool} (h : TakRow w b n TO TV k) (W : World)
    (hW : W = (w.setCell ⟨b, k * 2, none⟩ (.int .i64 (TO k))).setCell ⟨b, k * 2 + 1, none⟩ (.bool (TV k))) : TakRow W b n TO TV (k + 1) := by
  subst hW
  obtain ⟨f, hr, hf⟩ := h
  refine ⟨_, (hr.set _ _).set _ _, fun j hj => ?_⟩
  by_cases e : j = k
  · subst e
    refine ⟨?_, ?_⟩
    · rw [if_neg (by omega), if_pos rfl]
    · rw [if_pos rfl]
  · obtain ⟨h1, h2⟩ := hf j (by omega)
    refine ⟨?_, ?_⟩
    · rw [if_neg (by omega), if_neg (by omega)]; exact h1
    · rw [if_neg (by omega), if_neg (by omega)]; exact h2
theorem EntRow.seen {w : World} {b n : Nat} {Pa Ky : Nat → ByteArray} {Ob : Nat → Int} (h : EntRow w b n Pa Ky Ob n) (hn : n ≤ maxLen) : SeenE w (some ⟨b, 0, none⟩) n Pa Ky Ob := by
  obtain ⟨f, hr, hf⟩ := h
  refine ⟨hn, fun _ => ⟨b, 0, rfl, fun j hj => ?_⟩⟩
  obtain ⟨h1, h2, h3⟩ := hf j hj
  rw [Nat.zero_add]
  exact ⟨(hr.cell (by omega)).trans (congrArg some h1), (hr.cell (by omega)).trans (congrArg some h2), (hr.cell (by omega)).trans (congrArg some h3)⟩
theorem TakRow.seen {w : World} {b n : Nat} {TO : Nat → Int} {TV : Nat → Bool} (h : TakRow w b n TO TV n) (hn : n ≤ maxLen) : SeenT w (some ⟨b, 0, none⟩) n TO TV := by
  obtain ⟨f, hr, hf⟩ := h
  refine ⟨hn, fun _ => ⟨b, 0, rfl, fun j hj => ?_⟩⟩
  obtain ⟨h1, h2⟩ := hf j hj
  rw [Nat.zero_add]
  exact ⟨(hr.cell (by omega)).trans (congrArg some h1), (hr.cell (by omega)).trans (congrArg some h2)⟩

theorem copyE_any (a : Option Addr) (n c : Nat) (Pa Ky : Nat → ByteArray) (Ob : Nat → Int) (hn : n ≤ 65536) (w : World) (s : SeenE w a n Pa Ky Ob) :
    Calls Try.prog 5 #[.slice a n c] w fun e w' => ∃ a' c', e = .returned (.slice a' n c') ∧ Below w.heap.size w w' ∧ SeenE w' a' n Pa Ky Ob := by
  have hmk := make_rows (T := 22) Try.underlying22 Try.info27 (by omega) n hn
  have hnil := fun w => Lib.run_eql_slice_nil (P := Try.prog) w 22 27 a n c 0 0 Try.underlying22
  obtain ⟨C, hC⟩ : ∃ C, C = madeCells (Value.agg #[.string ByteArray.empty, .string ByteArray.empty, .int .i64 0]).cells (n * 3) := ⟨_, rfl⟩
  have hCs : C.size = n * 3 := by rw [hC]; simp [madeCells]
  rw [← hC] at hmk
  have HC : Hid _ := hCs
  clear hC hCs
  by_cases h0 : n = 0
  · subst h0
    cases a with
    | none =>
      go_enter Try.func5, Try.ntmps5
      go_wp2
      go_ret
      exact ⟨_, _, rfl, Below.refl _ _, s⟩
    | some x =>
      have hmk' : ∀ w, (Instr.makeSlice 22 (.int .i64 0) (.int .i64 0)).run Try.prog w = .ok (.slice (some ⟨w.heap.size, 0, none⟩) 0 0) (w.alloc (.cells C 27)) := hmk
      go_enter Try.func5, Try.ntmps5
      go_wp2
      refine wp_loop_rounds 1 ?_
      rw [rounds_succ]
      go_wp2
      go_ret
      exact ⟨_, _, rfl, (Below.refl _ _).alloc (Nat.le_refl _) _, Nat.zero_le _, fun h => absurd h (Nat.lt_irrefl _)⟩
  · obtain ⟨b, off, rfl, hc⟩ := s.2 (by omega)
    have hbl := World.block_lt_of_cell? w _ (hc 0 (by omega)).1
    go_enter Try.func5, Try.ntmps5
    go_wp2
    go_loopw [4] (fun i wr => ∃ k : Nat, k ≤ n ∧ i = .int .i64 k ∧ Below w.heap.size w wr ∧ EntRow wr w.heap.size n Pa Ky Ob k) (fun i _ => n - (intOf i).toNat)
    case atStart =>
      obtain ⟨f, hf⟩ := made_rows C 27 w
      rw [HC.out] at hf
      exact ⟨0, Nat.zero_le _, rfl, (Below.refl _ _).alloc (Nat.le_refl _) _, f, hf, fun j hj => absurd hj (Nat.not_lt_zero _)⟩
    case round =>
      obtain ⟨k, hk, rfl, hb, hr⟩ := hrel
      clear hmk
      by_cases hlt : k < n
      · obtain ⟨c1, c2, c3⟩ := hc k hlt
        have e1 := (hb.cell (p := ⟨b, off + k * 3, none⟩) hbl).trans c1
        have e2 := (hb.cell (p := ⟨b, off + k * 3 + 1, none⟩) hbl).trans c2
        have e3 := (hb.cell (p := ⟨b, off + k * 3 + 2, none⟩) hbl).trans c3
        have hr' := hr
        obtain ⟨f, hrow, _⟩ := hr'
        have p0 := hrow.cell (i := k * 3) (by omega)
        have p1 := hrow.cell (i := k * 3 + 1) (by omega)
        have p2 := hrow.cell (i := k * 3 + 2) (by omega)
        have pf := hrow.frozen
        have hR := hr.step _ rfl
        go_wp2
        go_roundw
        case rel => exact ⟨k + 1, by omega, by go_num, ((hb.setCell (by simp) _).setCell (by simp) _).setCell (by simp) _, hR⟩
        case measure => simp [intOf]; omega
      · have ek : n = k := by omega
        subst ek
        go_wp2
        go_ret
        exact ⟨_, _, rfl, hb, hr.seen s.1⟩
theorem copyT_any (a : Option Addr) (n c : Nat) (TO : Nat → Int) (TV : Nat → Bool) (hn : n ≤ 65536) (w : World) (s : SeenT w a n TO TV) :
    Calls Try.prog 6 #[.slice a n c] w fun e w' => ∃ a' c', e = .returned (.slice a' n c') ∧ Below w.heap.size w w' ∧ SeenT w' a' n TO TV := by
  have hmk := make_rows (T := 23) Try.underlying23 Try.info37 (by omega) n hn
  have hnil := fun w => Lib.run_eql_slice_nil (P := Try.prog) w 23 37 a n c 0 0 Try.underlying23
  obtain ⟨C, hC⟩ : ∃ C, C = madeCells (Value.agg #[.int .i64 0, .bool false]).cells (n * 2) := ⟨_, rfl⟩
  have hCs : C.size = n * 2 := by rw [hC]; simp [madeCells]
  rw [← hC] at hmk
  have HC : Hid _ := hCs
  clear hC hCs
  by_cases h0 : n = 0
  · subst h0
    cases a with
    | none =>
      go_enter Try.func6, Try.ntmps6
      go_wp2
      go_ret
      exact ⟨_, _, rfl, Below.refl _ _, s⟩
    | some x =>
      have hmk' : ∀ w, (Instr.makeSlice 23 (.int .i64 0) (.int .i64 0)).run Try.prog w = .ok (.slice (some ⟨w.heap.size, 0, none⟩) 0 0) (w.alloc (.cells C 37)) := hmk
      go_enter Try.func6, Try.ntmps6
      go_wp2
      refine wp_loop_rounds 1 ?_
      rw [rounds_succ]
      go_wp2
      go_ret
      exact ⟨_, _, rfl, (Below.refl _ _).alloc (Nat.le_refl _) _, Nat.zero_le _, fun h => absurd h (Nat.lt_irrefl _)⟩
  · obtain ⟨b, off, rfl, hc⟩ := s.2 (by omega)
    have hbl := World.block_lt_of_cell? w _ (hc 0 (by omega)).1
    go_enter Try.func6, Try.ntmps6
    go_wp2
    go_loopw [4] (fun i wr => ∃ k : Nat, k ≤ n ∧ i = .int .i64 k ∧ Below w.heap.size w wr ∧ TakRow wr w.heap.size n TO TV k) (fun i _ => n - (intOf i).toNat)
    case atStart =>
      obtain ⟨f, hf⟩ := made_rows C 37 w
      rw [HC.out] at hf
      exact ⟨0, Nat.zero_le _, rfl, (Below.refl _ _).alloc (Nat.le_refl _) _, f, hf, fun j hj => absurd hj (Nat.not_lt_zero _)⟩
    case round =>
      obtain ⟨k, hk, rfl, hb, hr⟩ := hrel
      clear hmk
      by_cases hlt : k < n
      · obtain ⟨c1, c2⟩ := hc k hlt
        have e1 := (hb.cell (p := ⟨b, off + k * 2, none⟩) hbl).trans c1
        have e2 := (hb.cell (p := ⟨b, off + k * 2 + 1, none⟩) hbl).trans c2
        have hr' := hr
        obtain ⟨f, hrow, _⟩ := hr'
        have p0 := hrow.cell (i := k * 2) (by omega)
        have p1 := hrow.cell (i := k * 2 + 1) (by omega)
        have pf := hrow.frozen
        have hR := hr.step _ rfl
        go_wp2
        go_roundw
        case rel => exact ⟨k + 1, by omega, by go_num, (hb.setCell (by simp) _).setCell (by simp) _, hR⟩
        case measure => simp [intOf]; omega
      · have ek : n = k := by omega
        subst ek
        go_wp2
        go_ret
        exact ⟨_, _, rfl, hb, hr.seen s.1⟩

theorem copyS_any (a : Option Addr) (n c : Nat) (V : Nat → ByteArray) (hn : n ≤ 65536) (w : World) (s : Seen w a n (fun j => .string (V j))) :
    Calls Try.prog 7 #[.slice a n c] w fun e w' => ∃ a' c', e = .returned (.slice a' n c') ∧ Below w.heap.size w w' ∧ Seen w' a' n (fun j => .string (V j)) := by
  have hmk := run_make_row' (P := Try.prog) 24 9 (.string ByteArray.empty) 16 Try.underlying24 Try.info9 rfl .i64 .i64 n (by omega) (by omega)
  have hnil := fun w => Lib.run_eql_slice_nil (P := Try.prog) w 24 9 a n c 0 0 Try.underlying24
  by_cases h0 : n = 0
  · subst h0
    cases a with
    | none =>
      go_enter Try.func7, Try.ntmps7
      go_wp2
      go_ret
      exact ⟨_, _, rfl, Below.refl _ _, s⟩
    | some x =>
      have hmk' : ∀ w, (Instr.makeSlice 24 (.int .i64 0) (.int .i64 0)).run Try.prog w = .ok (.slice (some ⟨w.heap.size, 0, none⟩) 0 0) (w.alloc (.cells (madeCells #[.string ByteArray.empty] 0) 9)) := hmk
      go_enter Try.func7, Try.ntmps7
      go_wp2
      refine wp_loop_rounds 1 ?_
      rw [rounds_succ]
      go_wp2
      go_ret
      exact ⟨_, _, rfl, (Below.refl _ _).alloc (Nat.le_refl _) _, Nat.zero_le _, fun h => absurd h (Nat.lt_irrefl _)⟩
  · obtain ⟨b, off, rfl, hc⟩ := s.2 (by omega)
    have hbl := World.block_lt_of_cell? w _ (hc 0 (by omega))
    go_enter Try.func7, Try.ntmps7
    go_wp2
    go_loopw [4] (fun i wr => ∃ k : Nat, k ≤ n ∧ i = .int .i64 k ∧ Below w.heap.size w wr ∧ wr.rowIs w.heap.size 9 n (Own.part (fun j => .string (V j)) (.string ByteArray.empty) k)) (fun i _ => n - (intOf i).toNat)
    case atStart => exact ⟨0, Nat.zero_le _, rfl, (Below.refl _ _).alloc (Nat.le_refl _) _, part_start _⟩
    case round =>
      obtain ⟨k, hk, rfl, hb, hr⟩ := hrel
      clear hmk
      by_cases hlt : k < n
      · have e0 : wr.cell? ⟨b, off + k, none⟩ = some (.string (V k)) := (hb.cell (p := ⟨b, off + k, none⟩) hbl).trans (hc k hlt)
        have p0 := hr.cell hlt
        have pf := hr.frozen
        go_wp2
        go_roundw
        case rel => exact ⟨k + 1, by omega, by go_num, hb.setCell (by simp) _, part_step (V := fun j => .string (V j)) hr⟩
        case measure => simp [intOf]; omega
      · have ek : n = k := by omega
        subst ek
        go_wp2
        go_ret
        have hrow := part_full hr
        exact ⟨_, _, rfl, hb, s.1, fun _ => ⟨w.heap.size, 0, rfl, fun j hj => by simpa using hrow.cell hj⟩⟩
end Go.Proofs.Qxb6605443a.fnTakeScript
