import Derived.Test.Qxb6003694aRows
import Derived.WalkKit
import Derived.ProofKit
import Derived.OpenShut
import Derived.WalkSpells
import Derived.Deep.OwnRows
import Derived.Deep.QuietTactic
import Derived.BigQuiet
namespace Go.Proofs.Qxb6003694a.Own
open Go.ChangeShapes Go.WideShapes Go.ChangeAt Go.RowKit
set_option linter.unusedVariables false

/-- What a walk is told of a slice that came in, one cell an element: where it has elements it leads to their cells. -/
def Seen (w : World) (a : Option Addr) (n : Nat) (V : Nat → Value) : Prop :=
  n ≤ maxLen ∧ (0 < n → ∃ b off, a = some ⟨b, off, none⟩ ∧ ∀ j, j < n → w.cell? ⟨b, off + j, none⟩ = some (V j))

theorem seen_of {w : World} {x : Addr} {n c : Nat} {V : Nat → Value} (hn : n ≤ c) (hm : c ≤ maxLen) (h : ∀ i, i < c → w.cell? (x.add i) = some (V i)) : Seen w (some x) n V := by
  refine ⟨Nat.le_trans hn hm, fun h0 => ?_⟩
  obtain ⟨b, off, spot⟩ := x
  have hspot : spot = none := by simpa [Addr.add] using World.cell?_spot (h 0 (by omega))
  subst hspot
  exact ⟨b, off, rfl, fun j hj => by rw [← add_plain]; exact h j (by omega)⟩

theorem below_row {B : Nat} {w w' : World} (h : Below B w w') {b t n : Nat} {f : Nat → Value} (r : w.rowIs b t n f) (hb : b < B) : w'.rowIs b t n f := r.of_block (h.block b hb)

theorem below_drewN {B : Nat} {a w : World} (h : Below B a w) (n : Nat) : Below B a (w.drewN n) := h.trans ⟨rfl, rfl, rfl, Nat.le_refl _, fun _ _ => rfl⟩

/-- The first k cells hold V, the rest z. -/
def part (V : Nat → Value) (z : Value) (k j : Nat) : Value := if j < k then V j else z

theorem part_start {w : World} {n : Nat} {t : TypeId} {z : Value} (V : Nat → Value) : (w.alloc (.cells (madeCells #[z] n) t)).rowIs w.heap.size t n (part V z 0) :=
  (World.rowIs_made w z n t).congr fun i _ => by simp [part]

theorem part_step {w : World} {b n k : Nat} {t : TypeId} {z : Value} {V : Nat → Value} (h : w.rowIs b t n (part V z k)) : (w.setCell ⟨b, k, none⟩ (V k)).rowIs b t n (part V z (k + 1)) :=
  (h.set k (V k)).congr fun i _ => by
    simp only [part]
    by_cases e : i = k
    · subst e; simp
    · by_cases l : i < k
      · have : i < k + 1 := by omega
        simp [e, l, this]
      · have : ¬ i < k + 1 := by omega
        simp [e, l, this]

theorem part_full {w : World} {b n : Nat} {t : TypeId} {z : Value} {V : Nat → Value} (h : w.rowIs b t n (part V z n)) : w.rowIs b t n V :=
  h.congr fun i hi => by simp [part, hi]

theorem Try.info24 : (Try.prog.info? 24).map (fun i => (i.zero, i.size, i.bytes)) = some (some (.int .u16 0), 1, 2) := by kernel_rfl
theorem Try.info3 : (Try.prog.info? 3).map (fun i => (i.zero, i.size, i.bytes)) = some (some (.int .i64 0), 1, 8) := by kernel_rfl
theorem Try.info4 : (Try.prog.info? 4).map (fun i => (i.zero, i.size, i.bytes)) = some (some (.bool false), 1, 1) := by kernel_rfl

/-- cloneU16 at a slice that has elements. -/
theorem cloneU16_pos (b off n c : Nat) (V : Nat → Int) (hn : 0 < n) (hmax : n ≤ 1048576) (w : World) (h : ∀ j, j < n → w.cell? ⟨b, off + j, none⟩ = some (.int .u16 (V j))) :
    Calls Try.prog 8 #[.slice (some ⟨b, off, none⟩) n c] w fun e w' => e = .returned (.slice (some ⟨w.heap.size, 0, none⟩) n n) ∧ Below w.heap.size w w' ∧ w'.rowIs w.heap.size 24 n (fun j => .int .u16 (V j)) ∧ w'.heap.size = w.heap.size + 1 := by
  have hmk := run_make_row' (P := Try.prog) 22 24 (.int .u16 0) 2 Try.underlying22 Try.info24 rfl .i64 .i64 n (by omega) (by omega)
  have hnil := fun w => Lib.run_eql_slice_nil (P := Try.prog) w 22 24 (some ⟨b, off, none⟩) n c 0 0 Try.underlying22
  have hbl := World.block_lt_of_cell? w _ (h 0 hn)
  go_enter Try.func8, Try.ntmps8
  go_wp2
  go_loopw [4] (fun i wr => ∃ k : Nat, k ≤ n ∧ i = .int .i64 k ∧ Below w.heap.size w wr ∧ wr.rowIs w.heap.size 24 n (part (fun j => .int .u16 (V j)) (.int .u16 0) k) ∧ wr.heap.size = w.heap.size + 1) (fun i _ => n - (intOf i).toNat)
  case atStart => exact ⟨0, Nat.zero_le _, rfl, (Below.refl _ _).alloc (Nat.le_refl _) _, part_start _, by simp⟩
  case round =>
    obtain ⟨k, hk, rfl, hb, hr, hsz⟩ := hrel
    clear hmk
    by_cases hlt : k < n
    · have e0 := (hb.cell (p := ⟨b, off + k, none⟩) hbl).trans (h k hlt)
      have p0 := hr.cell hlt
      have pf := hr.frozen
      have HSZ : Hid (wr.heap.size = w.heap.size + 1) := hsz
      clear hsz
      go_wp2
      go_roundw
      case rel => exact ⟨k + 1, by omega, by go_num, hb.setCell (by simp) _, part_step (V := fun j => .int .u16 (V j)) hr, by rw [← HSZ.out]; simp [World.setCell]⟩
      case measure => simp [intOf]; omega
    · have ek : n = k := by omega
      subst ek
      go_wp2
      go_ret
      exact ⟨rfl, hb, part_full hr, hsz⟩

theorem cloneU16_empty (a : Option Addr) (c : Nat) (w : World) :
    Calls Try.prog 8 #[.slice a 0 c] w fun e w' => ∃ a' c', e = .returned (.slice a' 0 c') ∧ Below w.heap.size w w' := by
  have hmk : ∀ w, (Instr.makeSlice 22 (.int .i64 0) (.int .i64 0)).run Try.prog w = .ok (.slice (some ⟨w.heap.size, 0, none⟩) 0 0) (w.alloc (.cells (madeCells #[.int .u16 0] 0) 24)) := fun w => run_make_row' (P := Try.prog) 22 24 (.int .u16 0) 2 Try.underlying22 Try.info24 rfl .i64 .i64 0 (by omega) (by omega) w
  have hnil := fun w => Lib.run_eql_slice_nil (P := Try.prog) w 22 24 a 0 c 0 0 Try.underlying22
  cases a with
  | none =>
    go_enter Try.func8, Try.ntmps8
    go_wp2
    go_ret
    exact ⟨_, _, rfl, Below.refl _ _⟩
  | some x =>
    go_enter Try.func8, Try.ntmps8
    go_wp2
    refine wp_loop_rounds 1 ?_
    rw [rounds_succ]
    go_wp2
    go_ret
    exact ⟨_, _, rfl, (Below.refl _ _).alloc (Nat.le_refl _) _⟩

/-- cloneInts at a slice that has elements. -/
theorem cloneInts_pos (b off n c : Nat) (V : Nat → Int) (hn : 0 < n) (hmax : n ≤ 1048576) (w : World) (h : ∀ j, j < n → w.cell? ⟨b, off + j, none⟩ = some (.int .i64 (V j))) :
    Calls Try.prog 13 #[.slice (some ⟨b, off, none⟩) n c] w fun e w' => e = .returned (.slice (some ⟨w.heap.size, 0, none⟩) n n) ∧ Below w.heap.size w w' ∧ w'.rowIs w.heap.size 3 n (fun j => .int .i64 (V j)) ∧ w'.heap.size = w.heap.size + 1 := by
  have hmk := run_make_row' (P := Try.prog) 40 3 (.int .i64 0) 8 Try.underlying40 Try.info3 rfl .i64 .i64 n (by omega) (by omega)
  have hnil := fun w => Lib.run_eql_slice_nil (P := Try.prog) w 40 3 (some ⟨b, off, none⟩) n c 0 0 Try.underlying40
  have hbl := World.block_lt_of_cell? w _ (h 0 hn)
  go_enter Try.func13, Try.ntmps13
  go_wp2
  go_loopw [4] (fun i wr => ∃ k : Nat, k ≤ n ∧ i = .int .i64 k ∧ Below w.heap.size w wr ∧ wr.rowIs w.heap.size 3 n (part (fun j => .int .i64 (V j)) (.int .i64 0) k) ∧ wr.heap.size = w.heap.size + 1) (fun i _ => n - (intOf i).toNat)
  case atStart => exact ⟨0, Nat.zero_le _, rfl, (Below.refl _ _).alloc (Nat.le_refl _) _, part_start _, by simp⟩
  case round =>
    obtain ⟨k, hk, rfl, hb, hr, hsz⟩ := hrel
    clear hmk
    by_cases hlt : k < n
    · have e0 := (hb.cell (p := ⟨b, off + k, none⟩) hbl).trans (h k hlt)
      have p0 := hr.cell hlt
      have pf := hr.frozen
      have HSZ : Hid (wr.heap.size = w.heap.size + 1) := hsz
      clear hsz
      go_wp2
      go_roundw
      case rel => exact ⟨k + 1, by omega, by go_num, hb.setCell (by simp) _, part_step (V := fun j => .int .i64 (V j)) hr, by rw [← HSZ.out]; simp [World.setCell]⟩
      case measure => simp [intOf]; omega
    · have ek : n = k := by omega
      subst ek
      go_wp2
      go_ret
      exact ⟨rfl, hb, part_full hr, hsz⟩

theorem cloneInts_empty (a : Option Addr) (c : Nat) (w : World) :
    Calls Try.prog 13 #[.slice a 0 c] w fun e w' => ∃ a' c', e = .returned (.slice a' 0 c') ∧ Below w.heap.size w w' := by
  have hmk : ∀ w, (Instr.makeSlice 40 (.int .i64 0) (.int .i64 0)).run Try.prog w = .ok (.slice (some ⟨w.heap.size, 0, none⟩) 0 0) (w.alloc (.cells (madeCells #[.int .i64 0] 0) 3)) := fun w => run_make_row' (P := Try.prog) 40 3 (.int .i64 0) 8 Try.underlying40 Try.info3 rfl .i64 .i64 0 (by omega) (by omega) w
  have hnil := fun w => Lib.run_eql_slice_nil (P := Try.prog) w 40 3 a 0 c 0 0 Try.underlying40
  cases a with
  | none =>
    go_enter Try.func13, Try.ntmps13
    go_wp2
    go_ret
    exact ⟨_, _, rfl, Below.refl _ _⟩
  | some x =>
    go_enter Try.func13, Try.ntmps13
    go_wp2
    refine wp_loop_rounds 1 ?_
    rw [rounds_succ]
    go_wp2
    go_ret
    exact ⟨_, _, rfl, (Below.refl _ _).alloc (Nat.le_refl _) _⟩

/-- cloneU16s at a slice that has elements. -/
theorem cloneU16s_pos (b off n c : Nat) (V : Nat → Int) (hn : 0 < n) (hmax : n ≤ 1048576) (w : World) (h : ∀ j, j < n → w.cell? ⟨b, off + j, none⟩ = some (.int .u16 (V j))) :
    Calls Try.prog 17 #[.slice (some ⟨b, off, none⟩) n c] w fun e w' => e = .returned (.slice (some ⟨w.heap.size, 0, none⟩) n n) ∧ Below w.heap.size w w' ∧ w'.rowIs w.heap.size 24 n (fun j => .int .u16 (V j)) ∧ w'.heap.size = w.heap.size + 1 := by
  have hmk := run_make_row' (P := Try.prog) 22 24 (.int .u16 0) 2 Try.underlying22 Try.info24 rfl .i64 .i64 n (by omega) (by omega)
  have hnil := fun w => Lib.run_eql_slice_nil (P := Try.prog) w 22 24 (some ⟨b, off, none⟩) n c 0 0 Try.underlying22
  have hbl := World.block_lt_of_cell? w _ (h 0 hn)
  go_enter Try.func17, Try.ntmps17
  go_wp2
  go_loopw [4] (fun i wr => ∃ k : Nat, k ≤ n ∧ i = .int .i64 k ∧ Below w.heap.size w wr ∧ wr.rowIs w.heap.size 24 n (part (fun j => .int .u16 (V j)) (.int .u16 0) k) ∧ wr.heap.size = w.heap.size + 1) (fun i _ => n - (intOf i).toNat)
  case atStart => exact ⟨0, Nat.zero_le _, rfl, (Below.refl _ _).alloc (Nat.le_refl _) _, part_start _, by simp⟩
  case round =>
    obtain ⟨k, hk, rfl, hb, hr, hsz⟩ := hrel
    clear hmk
    by_cases hlt : k < n
    · have e0 := (hb.cell (p := ⟨b, off + k, none⟩) hbl).trans (h k hlt)
      have p0 := hr.cell hlt
      have pf := hr.frozen
      have HSZ : Hid (wr.heap.size = w.heap.size + 1) := hsz
      clear hsz
      go_wp2
      go_roundw
      case rel => exact ⟨k + 1, by omega, by go_num, hb.setCell (by simp) _, part_step (V := fun j => .int .u16 (V j)) hr, by rw [← HSZ.out]; simp [World.setCell]⟩
      case measure => simp [intOf]; omega
    · have ek : n = k := by omega
      subst ek
      go_wp2
      go_ret
      exact ⟨rfl, hb, part_full hr, hsz⟩

theorem cloneU16s_empty (a : Option Addr) (c : Nat) (w : World) :
    Calls Try.prog 17 #[.slice a 0 c] w fun e w' => ∃ a' c', e = .returned (.slice a' 0 c') ∧ Below w.heap.size w w' := by
  have hmk : ∀ w, (Instr.makeSlice 22 (.int .i64 0) (.int .i64 0)).run Try.prog w = .ok (.slice (some ⟨w.heap.size, 0, none⟩) 0 0) (w.alloc (.cells (madeCells #[.int .u16 0] 0) 24)) := fun w => run_make_row' (P := Try.prog) 22 24 (.int .u16 0) 2 Try.underlying22 Try.info24 rfl .i64 .i64 0 (by omega) (by omega) w
  have hnil := fun w => Lib.run_eql_slice_nil (P := Try.prog) w 22 24 a 0 c 0 0 Try.underlying22
  cases a with
  | none =>
    go_enter Try.func17, Try.ntmps17
    go_wp2
    go_ret
    exact ⟨_, _, rfl, Below.refl _ _⟩
  | some x =>
    go_enter Try.func17, Try.ntmps17
    go_wp2
    refine wp_loop_rounds 1 ?_
    rw [rounds_succ]
    go_wp2
    go_ret
    exact ⟨_, _, rfl, (Below.refl _ _).alloc (Nat.le_refl _) _⟩

/-- cloneBools at a slice that has elements. -/
theorem cloneBools_pos (b off n c : Nat) (V : Nat → Bool) (hn : 0 < n) (hmax : n ≤ 1048576) (w : World) (h : ∀ j, j < n → w.cell? ⟨b, off + j, none⟩ = some (.bool (V j))) :
    Calls Try.prog 18 #[.slice (some ⟨b, off, none⟩) n c] w fun e w' => e = .returned (.slice (some ⟨w.heap.size, 0, none⟩) n n) ∧ Below w.heap.size w w' ∧ w'.rowIs w.heap.size 4 n (fun j => .bool (V j)) ∧ w'.heap.size = w.heap.size + 1 := by
  have hmk := run_make_row' (P := Try.prog) 48 4 (.bool false) 1 Try.underlying48 Try.info4 rfl .i64 .i64 n (by omega) (by omega)
  have hnil := fun w => Lib.run_eql_slice_nil (P := Try.prog) w 48 4 (some ⟨b, off, none⟩) n c 0 0 Try.underlying48
  have hbl := World.block_lt_of_cell? w _ (h 0 hn)
  go_enter Try.func18, Try.ntmps18
  go_wp2
  go_loopw [4] (fun i wr => ∃ k : Nat, k ≤ n ∧ i = .int .i64 k ∧ Below w.heap.size w wr ∧ wr.rowIs w.heap.size 4 n (part (fun j => .bool (V j)) (.bool false) k) ∧ wr.heap.size = w.heap.size + 1) (fun i _ => n - (intOf i).toNat)
  case atStart => exact ⟨0, Nat.zero_le _, rfl, (Below.refl _ _).alloc (Nat.le_refl _) _, part_start _, by simp⟩
  case round =>
    obtain ⟨k, hk, rfl, hb, hr, hsz⟩ := hrel
    clear hmk
    by_cases hlt : k < n
    · have e0 := (hb.cell (p := ⟨b, off + k, none⟩) hbl).trans (h k hlt)
      have p0 := hr.cell hlt
      have pf := hr.frozen
      have HSZ : Hid (wr.heap.size = w.heap.size + 1) := hsz
      clear hsz
      go_wp2
      go_roundw
      case rel => exact ⟨k + 1, by omega, by go_num, hb.setCell (by simp) _, part_step (V := fun j => .bool (V j)) hr, by rw [← HSZ.out]; simp [World.setCell]⟩
      case measure => simp [intOf]; omega
    · have ek : n = k := by omega
      subst ek
      go_wp2
      go_ret
      exact ⟨rfl, hb, part_full hr, hsz⟩

theorem cloneBools_empty (a : Option Addr) (c : Nat) (w : World) :
    Calls Try.prog 18 #[.slice a 0 c] w fun e w' => ∃ a' c', e = .returned (.slice a' 0 c') ∧ Below w.heap.size w w' := by
  have hmk : ∀ w, (Instr.makeSlice 48 (.int .i64 0) (.int .i64 0)).run Try.prog w = .ok (.slice (some ⟨w.heap.size, 0, none⟩) 0 0) (w.alloc (.cells (madeCells #[.bool false] 0) 4)) := fun w => run_make_row' (P := Try.prog) 48 4 (.bool false) 1 Try.underlying48 Try.info4 rfl .i64 .i64 0 (by omega) (by omega) w
  have hnil := fun w => Lib.run_eql_slice_nil (P := Try.prog) w 48 4 a 0 c 0 0 Try.underlying48
  cases a with
  | none =>
    go_enter Try.func18, Try.ntmps18
    go_wp2
    go_ret
    exact ⟨_, _, rfl, Below.refl _ _⟩
  | some x =>
    go_enter Try.func18, Try.ntmps18
    go_wp2
    refine wp_loop_rounds 1 ?_
    rw [rounds_succ]
    go_wp2
    go_ret
    exact ⟨_, _, rfl, (Below.refl _ _).alloc (Nat.le_refl _) _⟩

end Go.Proofs.Qxb6003694a.Own
