import Derived.Test.Qxb6003687aTakeParts
import Derived.Deep.OwnRows
import Derived.Deep.QuietTactic
import Derived.BigQuiet
namespace Go.Proofs.Qxb6003687a.fnTakeFresh
open Go.ChangeShapes Go.WideShapes Go.ChangeAt Go.RowKit
set_option linter.unusedVariables false

set_option maxRecDepth 100000 in
set_option maxHeartbeats 1000000 in
theorem walk_pos (b0 b1 b2 o0 o1 o2 n c0 c1 c2 : Nat) (O M : Nat → Int) (F : Nat → Bool) (hn : 0 < n) (hmax : 17 * n ≤ 1048576) (w : World)
    (h0 : ∀ j, j < n → w.cell? ⟨b0, o0 + j, none⟩ = some (.int .i64 (O j)))
    (h1 : ∀ j, j < n → w.cell? ⟨b1, o1 + j, none⟩ = some (.int .i64 (M j)))
    (h2 : ∀ j, j < n → w.cell? ⟨b2, o2 + j, none⟩ = some (.bool (F j))) :
    Calls Try.prog 6 #[.slice (some ⟨b0, o0, none⟩) n c0, .slice (some ⟨b1, o1, none⟩) n c1, .slice (some ⟨b2, o2, none⟩) n c2] w fun e w' => e = .returned (.bool true) ∧ Below w.heap.size w w' := by
  have hd : decide (n + n + n ≤ 1048576) = true := by simp; omega
  go_enter Try.func6, Try.ntmps6
  go_wp2_with (go_at_call 11; refine (bytes_any _ _ _ _ _ _ _ _ _ (by unfold maxLen; omega) (by unfold maxLen; omega) (by unfold maxLen; omega) _).mono ?_; rintro e w' ⟨rfl, rfl⟩)
  clear hd
  have hmk := make_tokens n (by omega)
  go_loopw [8] (fun i wr => ∃ k : Nat, k ≤ n ∧ i = .int .i64 k ∧ Same w wr ∧ ∀ j, j < k → j + 1 < n → rankB (F j) (M j) (F (j+1)) (M (j+1)) = false) (fun i _ => n - (intOf i).toNat)
  case atStart => exact ⟨0, Nat.zero_le _, rfl, Same.refl _, fun j hj => absurd hj (Nat.not_lt_zero _)⟩
  case round =>
    obtain ⟨k, hk, rfl, hw, hs⟩ := hrel
    by_cases hlt : k + 1 < n
    · have f0 := hw.cell (h2 k (by omega))
      have f1 := hw.cell (h2 (k + 1) (by omega))
      have m0 := hw.cell (h1 k (by omega))
      have m1 := hw.cell (h1 (k + 1) (by omega))
      have hk1 : (k : Int) < n := by omega
      have hk2 : (k : Int) + 1 < n := by omega
      have hk3 : (0 : Int) ≤ (k : Int) + 1 := by omega
      have hk4 : ((k : Int) + 1).toNat = k + 1 := by omega
      go_wp2_with fail
      go_quiet ((go_at_call 12; exact Calls.quiet_of_same ((rank_any _ _ _ _ _).mono fun _ _ h => ⟨h.1, h.2.symm⟩)))
      go_wp2
      · go_ret
        exact ⟨rfl, (hw.drewN _).below _⟩
      · have hr : rankB (F k) (M k) (F (k + 1)) (M (k + 1)) = false := by assumption
        go_roundw
        case rel => exact ⟨k + 1, by omega, by go_num, hw.drewN _, fun j hj hj1 => by
          by_cases e : j = k
          · subst e; exact hr
          · exact hs j (by omega) hj1⟩
        case measure => simp [intOf]; omega
    · have hsz : wr.heap.size = w.heap.size := by rw [hw.heap]
      have hsort : ∀ j, j + 1 < n → rankB (F j) (M j) (F (j+1)) (M (j+1)) = false := fun j hj => hs j (by omega) hj
      have hst := start2 hw n O M F
      go_wp2_with fail
      go_loopw [11, 12] (fun nf i wr => ∃ k : Nat, k ≤ n ∧ i = .int .i64 k ∧ nf = .int .i64 (cnt F k) ∧ Below w.heap.size w wr ∧ wr.rowIs w.heap.size 39 (n * 3) (mix O M F k) ∧ wr.rowIs (w.heap.size + 1) 39 (n * 3) (mix O M F k)) (fun _ i _ => n - (intOf i).toNat)
      case atStart => exact ⟨0, Nat.zero_le _, rfl, rfl, hst⟩
      case round =>
        clear hsz hst hw hs
        obtain ⟨k, hk, rfl, rfl, hb, hr0, hr1⟩ := hrel
        by_cases hlt : k < n
        · have hbl0 := World.block_lt_of_cell? w _ (h0 k hlt)
          have hbl1 := World.block_lt_of_cell? w _ (h1 k hlt)
          have hbl2 := World.block_lt_of_cell? w _ (h2 k hlt)
          have e0 := (hb.cell hbl0).trans (h0 k hlt)
          have e1 := (hb.cell hbl1).trans (h1 k hlt)
          have e2 := (hb.cell hbl2).trans (h2 k hlt)
          have hk1 : (k : Int) < n := by omega
          have p0 := hr0.cell (i := k * 3) (by omega)
          have p1 := hr0.cell (i := k * 3 + 1) (by omega)
          have p2 := hr0.cell (i := k * 3 + 2) (by omega)
          have q0 := hr1.cell (i := k * 3) (by omega)
          have q1 := hr1.cell (i := k * 3 + 1) (by omega)
          have q2 := hr1.cell (i := k * 3 + 2) (by omega)
          have pf := hr0.frozen
          have qf := hr1.frozen
          have hc := cnt_le F k
          go_wp2_with fail
          go_region
          go_wp2_with fail
          all_goals
            have hF := ‹F k = _›
            have R := step2 hb hr0 hr1 _ hF _ rfl
            go_roundw
            case rel => exact ⟨k + 1, by omega, by go_num, by simp [cnt, hF], R⟩
            case measure => simp [intOf]; omega
        · have ekn : n = k := by omega
          subst ekn
          have r0 := mix_full hr0
          have r1 := mix_full hr1
          clear hr0 hr1
          have hcn := cnt_le F n
          go_wp2_with fail
          go_loopw [9, 13] (fun b t wr => ∃ m d : Nat, m + d = n ∧ b = .slice (some ⟨w.heap.size, 0, none⟩) m n ∧ t = .int .i64 d ∧ (∀ j, j < d → F (m + j) = true) ∧ Below w.heap.size w wr ∧ wr.rowIs w.heap.size 39 (n * 3) (tok O M F) ∧ wr.rowIs (w.heap.size + 1) 39 (n * 3) (tok O M F)) (fun _ t _ => n - (intOf t).toNat)
          case atStart => exact ⟨n, 0, rfl, rfl, rfl, fun j hj => absurd hj (Nat.not_lt_zero _), hb, r0, r1⟩
          case round =>
            clear hb r0 r1
            obtain ⟨m, d, hmd, rfl, rfl, hfr, hb, r0, r1⟩ := hrel
            have hmd1 : d ≤ n := by omega
            rcases stop_or F m with hstop | ⟨k, rfl, hFk⟩
            · have hst2 : ∀ k, m = k + 1 → wr.cell? ⟨w.heap.size, k * 3 + 2, none⟩ = some (.bool false) := fun k hk => by rw [r0.cell (by omega), tok2, hstop k hk]
              have hlow : ∀ j, j < m → F j = false := fun j hj => mono_of_sorted hsort (m - 1 - j) j (by omega) (hstop _ (by omega))
              have hcm : cnt F n = d := by rw [← hmd]; exact cnt_add m hlow d hfr
              have HMD : Hid (m + d = n) := hmd
              have hmn : m ≤ n := by omega
              have hnd : (n : Int) - d = m := by omega
              clear hsort hstop
              go_wp2_with fail
              refine (zztake_stop _ m n (by omega) (by unfold maxLen; omega) _ ?_).mono ?_
              · intro k hk
                rw [World.cell?_alloc_past _ _ _ r0.lt]; exact hst2 k hk
              rintro e w1 ⟨rfl, hbel⟩
              obtain ⟨hb1, s0, s1, t0, t1, t2, tf, hlt1⟩ := behind_take hb r0 r1 hbel
              clear hb r0 r1 hbel hst2 hmd
              go_wp2
              have R := step3 hb1 s0 s1 hlt1 (.int .i64 0) (.int .i64 0) (.bool false) _ ⟨0, rfl⟩
              go_loopw [16] (fun i wr => ∃ k : Nat, k ≤ m ∧ i = .int .i64 k ∧ Below w.heap.size w wr ∧ wr.rowIs w.heap.size 39 (n * 3) (tok O M F) ∧ wr.rowIs (w.heap.size + 1) 39 (n * 3) (tok O M F)) (fun i _ => m - (intOf i).toNat)
              case atStart => exact ⟨0, Nat.zero_le _, rfl, R⟩
              case round =>
                clear R hb1 s0 s1
                obtain ⟨k, hk, rfl, hb, r0, r1⟩ := hrel
                by_cases hlt : k < m
                · have p0 := (r0.cell (i := k * 3) (by omega)).trans (congrArg some (tok0 O M F k))
                  have p1 := (r0.cell (i := k * 3 + 1) (by omega)).trans (congrArg some (tok1 O M F k))
                  have p2 := (r0.cell (i := k * 3 + 2) (by omega)).trans (congrArg some ((tok2 O M F k).trans (congrArg Value.bool (hlow k hlt))))
                  have q0 := (r1.cell (i := k * 3) (by omega)).trans (congrArg some (tok0 O M F k))
                  have q1 := (r1.cell (i := k * 3 + 1) (by omega)).trans (congrArg some (tok1 O M F k))
                  have q2 := (r1.cell (i := k * 3 + 2) (by omega)).trans (congrArg some ((tok2 O M F k).trans (congrArg Value.bool (hlow k hlt))))
                  have hkm : (k : Int) < m := by omega
                  have hkn : (k : Int) < n := by omega
                  go_wp2
                  go_quiet (fail)
                  go_wp2
                  go_roundw
                  case rel => exact ⟨k + 1, by omega, by go_num, hb.trans ⟨rfl, rfl, rfl, Nat.le_refl _, fun _ _ => rfl⟩, r0, r1⟩
                  case measure => simp [intOf]; omega
                · go_wp2
                  go_ret
                  exact ⟨rfl, hb⟩
            · have g0 := (r0.cell (i := k * 3) (by omega)).trans (congrArg some (tok0 O M F k))
              have g1 := (r0.cell (i := k * 3 + 1) (by omega)).trans (congrArg some (tok1 O M F k))
              have g2 := (r0.cell (i := k * 3 + 2) (by omega)).trans (congrArg some ((tok2 O M F k).trans (congrArg Value.bool hFk)))
              have hmd2 : (n : Int) - 1 - d = k := by omega
              have HMD : Hid (k + 1 + d = n) := hmd
              have hdn : (d : Int) < n := by omega
              have hkn : (k : Int) < n := by omega
              go_wp2_with fail
              refine (zztake_fresh _ k n (O k) (M k) (by omega) (by unfold maxLen; omega) _ ?_ ?_ ?_).mono ?_
              · rw [World.cell?_alloc_past _ _ _ r0.lt]; exact g0
              · rw [World.cell?_alloc_past _ _ _ r0.lt]; exact g1
              · rw [World.cell?_alloc_past _ _ _ r0.lt]; exact g2
              rintro e w1 ⟨rfl, hbel⟩
              obtain ⟨hb1, s0, s1, t0, t1, t2, tf, hlt1⟩ := behind_take hb r0 r1 hbel
              have q0 := (s1.cell (i := k * 3) (by omega)).trans (congrArg some (tok0 O M F k))
              have q1 := (s1.cell (i := k * 3 + 1) (by omega)).trans (congrArg some (tok1 O M F k))
              have q2 := (s1.cell (i := k * 3 + 2) (by omega)).trans (congrArg some ((tok2 O M F k).trans (congrArg Value.bool hFk)))
              clear g0 g1 g2 hb r0 r1 hbel hmd
              go_wp2
              go_quiet (fail)
              go_wp2
              have R := step3 hb1 s0 s1 hlt1 (.int .i64 (O k)) (.int .i64 (M k)) (.bool true) _ ⟨nq, rfl⟩
              have hmd := HMD.out
              go_roundw
              case rel => exact ⟨k, d + 1, by omega, rfl, by go_num, fun j hj => by
                cases j with
                | zero => simpa using hFk
                | succ j => rw [show k + (j + 1) = k + 1 + j by omega]; exact hfr j (by omega), R⟩
              case measure => simp [intOf]; omega

set_option maxRecDepth 100000 in
set_option maxHeartbeats 1000000 in
theorem walk_empty (a0 a1 a2 : Option Addr) (c0 c1 c2 : Nat) (w : World) :
    Calls Try.prog 6 #[.slice a0 0 c0, .slice a1 0 c1, .slice a2 0 c2] w fun e w' => e = .returned (.bool true) ∧ Below w.heap.size w w' := by
  have hmk : ∀ w, (Instr.makeSlice 37 (.int .i64 0) (.int .i64 0)).run Try.prog w = .ok (.slice (some ⟨w.heap.size, 0, none⟩) 0 0) (w.alloc (.cells (MC 0) 39)) := fun w => make_tokens 0 (by omega) w
  go_enter Try.func6, Try.ntmps6
  go_wp2_with (go_at_call 11; refine (bytes_any _ _ _ 0 0 0 _ _ _ (by unfold maxLen; omega) (by unfold maxLen; omega) (by unfold maxLen; omega) _).mono ?_; rintro e w' ⟨rfl, rfl⟩)
  refine wp_loop_rounds 1 ?_
  rw [rounds_succ]
  go_wp2_with fail
  refine wp_loop_rounds 1 ?_
  rw [rounds_succ]
  go_wp2_with fail
  refine wp_loop_rounds 1 ?_
  rw [rounds_succ]
  go_wp2_with fail
  refine (zztake_none 0 _ _).mono ?_
  rintro e w1 ⟨rfl, hbel⟩
  have hs : (((w.alloc (.cells (MC 0) 39)).alloc (.cells (MC 0) 39)).alloc (.cells #[.int .i64 0, .int .i64 0, .bool false] 39)).heap.size = w.heap.size + 3 := by simp
  have hb1 : Below w.heap.size w w1 := ((((Below.refl _ _).alloc (Nat.le_refl _) _).alloc (by simp) _).alloc (by simp; omega) _).trans (hbel.mono (by rw [hs]; omega))
  have hbl := hbel.block (w.heap.size + 2) (by rw [hs]; omega)
  have hnew := heap_alloc_new ((w.alloc (.cells (MC 0) 39)).alloc (.cells (MC 0) 39)) (.cells #[.int .i64 0, .int .i64 0, .bool false] 39)
  have hs2 : ((w.alloc (.cells (MC 0) 39)).alloc (.cells (MC 0) 39)).heap.size = w.heap.size + 2 := by simp
  rw [hs2] at hnew
  rw [hnew] at hbl
  have t0 : w1.cell? ⟨w.heap.size + 2, 0, none⟩ = some (.int .i64 0) := by simp [World.cell?, hbl]
  have t1 : w1.cell? ⟨w.heap.size + 2, 1, none⟩ = some (.int .i64 0) := by simp [World.cell?, hbl]
  have t2 : w1.cell? ⟨w.heap.size + 2, 2, none⟩ = some (.bool false) := by simp [World.cell?, hbl]
  have tf : ∀ i, w1.frozen? ⟨w.heap.size + 2, i, none⟩ = false := by intro i; simp [World.frozen?, hbl]
  clear hbel hbl hnew hs hs2 hmk
  go_wp2_with fail
  refine wp_loop_rounds 1 ?_
  rw [rounds_succ]
  go_wp2
  go_ret
  exact ⟨rfl, ((hb1.setCell (by simp; omega) _).setCell (by simp; omega) _).setCell (by simp; omega) _⟩
end Go.Proofs.Qxb6003687a.fnTakeFresh
