import Derived.Test.Qxb6003694aOwn
namespace Go.Proofs.Qxb6003694a.fnPackedLenFoldMatchesLayout
open Go.ChangeShapes Go.WideShapes Go.ChangeAt Go.RowKit
open Go.Proofs.Qxb6003694a.Own
set_option linter.unusedVariables false

/-- the sum of the first k -/
def sm (S : Nat → Int) : Nat → Int
  | 0 => 0
  | k + 1 => sm S k + S k
theorem sm_bd {S : Nat → Int} {n : Nat} (h : ∀ j, j < n → 0 ≤ S j ∧ S j ≤ 65535) : ∀ k, k ≤ n → 0 ≤ sm S k ∧ sm S k ≤ 65535 * k
  | 0, _ => ⟨Int.le_refl _, by simp [sm]⟩
  | k + 1, hk => by
    have ih := sm_bd h k (by omega)
    have := h k (by omega)
    simp only [sm]
    omega

theorem packed_any (l n s : Int) (hl0 : 0 ≤ l) (hl1 : l ≤ 1000000000) (hn0 : 0 ≤ n) (hs0 : 0 ≤ s) (hs1 : s ≤ 65535) (w : World) :
    Calls Try.prog 10 #[.int .i64 l, .int .i64 n, .int .i64 s] w fun e w' => e = .returned (.int .i64 (if n = 0 then 47 + s else if n = 1 then l + 12 + s else l + 10 + s)) ∧ w = w' := by
  by_cases h0 : n = 0
  · subst h0
    go_enter Try.func10, Try.ntmps10
    go_wp2
    go_ret
    exact ⟨rfl, rfl⟩
  · by_cases h1 : n = 1
    · subst h1
      go_enter Try.func10, Try.ntmps10
      go_wp2
      go_ret
      refine ⟨?_, rfl⟩
      show Ending.returned (.int .i64 (l + 2 + 8 + 2 + s)) = Ending.returned (.int .i64 (l + 12 + s))
      congr 2; omega
    · have e0 : (n == 0) = false := by simpa using h0
      have e1 : (n == 1) = false := by simpa using h1
      go_enter Try.func10, Try.ntmps10
      go_wp2
      go_ret
      refine ⟨?_, rfl⟩
      show Ending.returned (.int .i64 (l + 8 + 2 + s)) = Ending.returned (.int .i64 (l + 10 + s))
      congr 2; omega

theorem count_msg (v0 v1 v2 v3 v5 v6 v7 v8 : Value) (ma : Option Addr) (mn mc : Nat) (hm : mn ≤ 1024) (w : World) :
    Calls Try.prog 9 #[.agg #[v0, v1, v2, v3, .int .u8 0, v5, v6, v7, v8, .slice ma mn mc]] w fun e w' => e = .returned (.int .i64 (1 + (mn : Int))) ∧ Below w.heap.size w w' := by
  go_enter Try.func9, Try.ntmps9
  go_wp2
  go_ret
  exact ⟨rfl, (Below.refl _ _).alloc (Nat.le_refl _) _⟩

theorem count_other (a0 : Int) (ha : (a0 == 0) = false) (v0 v1 v2 v3 v5 v6 v7 v8 v9 : Value) (w : World) :
    Calls Try.prog 9 #[.agg #[v0, v1, v2, v3, .int .u8 a0, v5, v6, v7, v8, v9]] w fun e w' => e = .returned (.int .i64 0) ∧ Below w.heap.size w w' := by
  go_enter Try.func9, Try.ntmps9
  go_wp2
  go_ret
  exact ⟨rfl, (Below.refl _ _).alloc (Nat.le_refl _) _⟩

/-- the length behind k messages -/
def pl (S : Nat → Int) (k : Nat) : Int := if k = 0 then 0 else if k = 1 then 47 + sm S 1 else 49 + ((k : Int) - 1) * 10 + sm S k
theorem pl_step (S : Nat → Int) (k : Nat) : (if (k : Int) = 0 then 47 + S k else if (k : Int) = 1 then pl S k + 12 + S k else pl S k + 10 + S k) = pl S (k + 1) := by
  unfold pl
  by_cases h0 : k = 0
  · subst h0; simp [sm]
  · by_cases h1 : k = 1
    · subst h1; simp [sm]; omega
    · have a0 : ¬ (k : Int) = 0 := by omega
      have a1 : ¬ (k : Int) = 1 := by omega
      have a2 : ¬ k + 1 = 0 := by omega
      have a3 : ¬ k + 1 = 1 := by omega
      simp only [h0, h1, a0, a1, a2, a3, if_false, sm]
      omega
theorem pl_bd {S : Nat → Int} {n : Nat} (h : ∀ j, j < n → 0 ≤ S j ∧ S j ≤ 65535) (hn : n ≤ 1024) (k : Nat) (hk : k ≤ n) : 0 ≤ pl S k ∧ pl S k ≤ 1000000000 ∧ (k < n → pl S k < pl S (k + 1)) := by
  have b := sm_bd h k hk
  by_cases h0 : k = 0
  · subst h0
    refine ⟨by simp [pl], by simp [pl], fun hlt => ?_⟩
    have := h 0 hlt
    simp [pl, sm]; omega
  · by_cases h1 : k = 1
    · subst h1
      have h0' := h 0 (by omega)
      refine ⟨by simp [pl, sm]; omega, by simp [pl, sm]; omega, fun hlt => ?_⟩
      have := h 1 hlt
      simp [pl, sm]; omega
    · have a2 : ¬ k + 1 = 0 := by omega
      have a3 : ¬ k + 1 = 1 := by omega
      simp only [pl, h0, h1, a2, a3, if_false, sm]
      refine ⟨by omega, by omega, fun hlt => ?_⟩
      have := h k hlt
      omega

/-- too long, or empty -/
theorem walk_early (a0 : Int) (a1 : Option Addr) (n c : Nat) (hm : n ≤ maxLen) (h : 1024 < n ∨ n = 0) (w : World) :
    Calls Try.prog 3 #[.int .u8 a0, .slice a1 n c] w fun e w' => e = .returned (.bool true) ∧ Below w.heap.size w w' := by
  unfold maxLen at hm
  rcases h with h | rfl
  · by_cases h2 : 1048576 < n
    · go_enter Try.func3, Try.ntmps3
      go_wp2
      go_ret
      exact ⟨rfl, Below.refl _ _⟩
    · go_enter Try.func3, Try.ntmps3
      go_wp2
      go_ret
      exact ⟨rfl, Below.refl _ _⟩
  · go_enter Try.func3, Try.ntmps3
    go_wp2
    refine wp_loop_rounds 1 ?_
    rw [rounds_succ]
    go_wp2
    go_ret
    exact ⟨rfl, Below.refl _ _⟩

theorem Try.info5 : (Try.prog.info? 5).map (fun i => (i.zero, i.size, i.bytes)) = some (some (.int .u8 0), 1, 1) := by kernel_rfl
theorem Try.info35 : (Try.prog.info? 35).map (fun i => (i.zero, i.size, i.bytes)) = some (some (.agg #[.int .u64 0, .slice none 0 0]), 2, 32) := by kernel_rfl

def MB (z : Int) : Array Value := madeCells #[.int .u8 0] z.toNat
def MM (n : Nat) : Array Value := madeCells #[.int .u64 0, .slice none 0 0] (n * 2)
theorem make_bytes (z : Int) (h0 : 0 ≤ z) (h1 : z ≤ 65535) (w : World) :
    (Instr.makeSlice 27 (.int .i64 z) (.int .i64 z)).run Try.prog w = .ok (.slice (some ⟨w.heap.size, 0, none⟩) z.toNat z.toNat) (w.alloc (.cells (MB z) 5)) := by
  obtain ⟨i0, hi, hz0, hz1, hz2⟩ := info_parts Try.info5
  have := run_make (P := Try.prog) w 27 5 i0 _ Try.underlying27 hi hz0 .i64 .i64 z z (by omega) (by omega) (by rw [hz2]; omega) (by omega)
  rw [this, hz1, Nat.mul_one]
  rfl
theorem make_msgs (n : Nat) (h0 : 1 ≤ n) (h1 : n ≤ 1024) (w : World) :
    (Instr.makeSlice 31 (.int .i64 ((n : Int) - 1)) (.int .i64 ((n : Int) - 1))).run Try.prog w = .ok (.slice (some ⟨w.heap.size, 0, none⟩) (n - 1) (n - 1)) (w.alloc (.cells (MM (n - 1)) 35)) := by
  obtain ⟨i0, hi, hz0, hz1, hz2⟩ := info_parts Try.info35
  have := run_make (P := Try.prog) w 31 35 i0 _ Try.underlying31 hi hz0 .i64 .i64 ((n : Int) - 1) ((n : Int) - 1) (by omega) (by omega) (by rw [hz2]; omega) (by omega)
  have e : ((n : Int) - 1).toNat = n - 1 := by omega
  rw [this, hz1, e]
  rfl
theorem made_msgs (n : Nat) (w : World) : ∃ f, (w.alloc (.cells (MM n) 35)).rowIs w.heap.size 35 (n * 2) f := by
  refine ⟨fun i => (MM n)[i]?.getD undef, MM n, heap_alloc_new _ _, by simp [MM, madeCells], fun i hi => ?_⟩
  have : i < (MM n).size := by simpa [MM, madeCells] using hi
  simp [this]

/-- the cells of the data frame -/
def dat (a0 : Int) (B m : Nat) (s : Nat) (i : Nat) : Value :=
  match i with
  | 0 => .int .u16 0 | 1 => .int .u64 0 | 2 => .int .u64 0 | 3 => .int .u16 0 | 4 => .int .u8 a0 | 5 => .int .u64 0 | 6 => .int .u64 0 | 7 => .int .u64 0
  | 8 => .slice (some ⟨B + 1, 0, none⟩) s s | _ => .slice (some ⟨B + 1 + 1 + 1, 0, none⟩) m m

theorem start2 {w w1 : World} {n : Nat} {V : Nat → Value} (a0 : Int) (s : Nat) (C : Array Value) (hb : Below w.heap.size w w1) (hr : w1.rowIs w.heap.size 24 n V) (hsz : w1.heap.size = w.heap.size + 1) (m : Nat) (W : World)
    (hW : W = ((w1.alloc (.cells C 5)).alloc (.cells #[.int .u16 0, .int .u64 0, .int .u64 0, .int .u16 0, .int .u8 a0, .int .u64 0, .int .u64 0, .int .u64 0, .slice (some ⟨w.heap.size + 1, 0, none⟩) s s, .slice (some ⟨w.heap.size + 1 + 1 + 1, 0, none⟩) m m] 33)).alloc (.cells (MM m) 35)) :
    Below w.heap.size w W ∧ W.rowIs w.heap.size 24 n V ∧ W.rowIs (w.heap.size + 1 + 1) 33 10 (dat a0 w.heap.size m s) ∧ ∃ f, W.rowIs (w.heap.size + 1 + 1 + 1) 35 (m * 2) f := by
  subst hW
  have e1 : (w1.alloc (.cells C 5)).heap.size = w.heap.size + 1 + 1 := by simp [hsz]
  refine ⟨(((hb.alloc (by omega) _).alloc (by omega) _).alloc (by simp [hsz]; omega) _), ((hr.alloc _).alloc _).alloc _, ?_, ?_⟩
  · have hnew := heap_alloc_new (w1.alloc (.cells C 5)) (.cells #[.int .u16 0, .int .u64 0, .int .u64 0, .int .u16 0, .int .u8 a0, .int .u64 0, .int .u64 0, .int .u64 0, .slice (some ⟨w.heap.size + 1, 0, none⟩) s s, .slice (some ⟨w.heap.size + 1 + 1 + 1, 0, none⟩) m m] 33)
    rw [e1] at hnew
    refine World.rowIs.alloc ⟨_, hnew, rfl, fun i hi => ?_⟩ _
    match i, hi with
    | 0, _ => rfl | 1, _ => rfl | 2, _ => rfl | 3, _ => rfl | 4, _ => rfl | 5, _ => rfl | 6, _ => rfl | 7, _ => rfl | 8, _ => rfl | 9, _ => rfl
  · obtain ⟨f, hf⟩ := made_msgs m ((w1.alloc (.cells C 5)).alloc (.cells #[.int .u16 0, .int .u64 0, .int .u64 0, .int .u16 0, .int .u8 a0, .int .u64 0, .int .u64 0, .int .u64 0, .slice (some ⟨w.heap.size + 1, 0, none⟩) s s, .slice (some ⟨w.heap.size + 1 + 1 + 1, 0, none⟩) m m] 33))
    refine ⟨f, ?_⟩
    have e2 : ((w1.alloc (.cells C 5)).alloc (.cells #[.int .u16 0, .int .u64 0, .int .u64 0, .int .u16 0, .int .u8 a0, .int .u64 0, .int .u64 0, .int .u64 0, .slice (some ⟨w.heap.size + 1, 0, none⟩) s s, .slice (some ⟨w.heap.size + 1 + 1 + 1, 0, none⟩) m m] 33)).heap.size = w.heap.size + 1 + 1 + 1 := by simp [hsz]
    rw [e2] at hf
    exact hf

theorem start1 {w w1 w2 : World} {n : Nat} {V : Nat → Value} {C X : Array Value} (hb : Below w.heap.size w w1) (hr : w1.rowIs w.heap.size 24 n V)
    (h2 : Below ((w1.alloc (.cells C 5)).alloc (.cells X 33)).heap.size ((w1.alloc (.cells C 5)).alloc (.cells X 33)) w2) : Below w.heap.size w w2 ∧ w2.rowIs w.heap.size 24 n V := by
  have hlt := hr.lt
  have e : ((w1.alloc (.cells C 5)).alloc (.cells X 33)).heap.size = w1.heap.size + 2 := by simp
  exact ⟨((hb.alloc (by omega) _).alloc (by simp; omega) _).trans (h2.mono (by omega)), below_row h2 ((hr.alloc _).alloc _) (by omega)⟩

theorem step2 {w wr : World} {n m B1 j : Nat} {V D : Nat → Value} {f : Nat → Value} (hb : Below w.heap.size w wr) (r0 : wr.rowIs w.heap.size 24 n V) (r1 : wr.rowIs (w.heap.size + 1 + 1) 33 10 D) (r2 : wr.rowIs (w.heap.size + 1 + 1 + 1) 35 m f)
    (x y : Value) (C : Array Value) (W : World) (hW : W = (((wr.setCell ⟨w.heap.size + 1 + 1 + 1, j, none⟩ x).setCell ⟨w.heap.size + 1 + 1 + 1, j + 1, none⟩ y).alloc (.cells C 5)).drew) :
    Below w.heap.size w W ∧ W.rowIs w.heap.size 24 n V ∧ W.rowIs (w.heap.size + 1 + 1) 33 10 D ∧ ∃ f, W.rowIs (w.heap.size + 1 + 1 + 1) 35 m f := by
  subst hW
  have hlt := r0.lt
  exact ⟨(((hb.setCell (by simp; omega) _).setCell (by simp; omega) _).alloc (by simp [World.setCell]; omega) _).drew,
    (((r0.setOther (by simp; omega) _).setOther (by simp; omega) _).alloc _).drew, (((r1.setOther (by simp) _).setOther (by simp) _).alloc _).drew, _, (((r2.set _ _).set _ _).alloc _).drew⟩

set_option maxRecDepth 100000 in
set_option maxHeartbeats 1000000 in
theorem walk_pos (a0 : Int) (b off n c : Nat) (S : Nat → Int) (hS : ∀ j, j < n → 0 ≤ S j ∧ S j ≤ 65535) (hn : 0 < n) (hn1 : n ≤ 1024) (w : World) (h : ∀ j, j < n → w.cell? ⟨b, off + j, none⟩ = some (.int .u16 (S j))) :
    Calls Try.prog 3 #[.int .u8 a0, .slice (some ⟨b, off, none⟩) n c] w fun e w' => e = .returned (.bool true) ∧ Below w.heap.size w w' := by
  have hn0 : ((n : Int) == 0) = false := by simp; omega
  go_enter Try.func3, Try.ntmps3
  go_wp2
  go_loop [5, 6] (fun t i => ∃ k : Nat, k ≤ n ∧ i = .int .i64 k ∧ t = .int .i64 (sm S k)) (fun _ i => n - (intOf i).toNat)
  case atStart => exact ⟨0, Nat.zero_le _, rfl, rfl⟩
  case round =>
    obtain ⟨k, hk, rfl, rfl⟩ := hrel
    obtain ⟨s0, s1⟩ := sm_bd hS k hk
    by_cases hlt : k < n
    · have e0 := h k hlt
      obtain ⟨t0, t1⟩ := hS k hlt
      go_wp2
      go_round
      case rel => exact ⟨k + 1, by omega, by go_num, rfl⟩
      case measure => simp [intOf]; omega
    · have ek : n = k := by omega
      subst ek
      by_cases ht : 1048576 < sm S n
      · go_wp2
        go_ret
        exact ⟨rfl, Below.refl _ _⟩
      · go_wp2_with fail
        refine (cloneU16_pos b off n c S hn (by omega) w h).mono ?_
        rintro e w1 ⟨rfl, hb1, hr1, hsz1⟩
        have m0 := hr1.cell hn
        obtain ⟨t0, t1⟩ := hS 0 hn
        have hmb := make_bytes (S 0) t0 t1
        have hmm := make_msgs n hn hn1
        by_cases h1 : 1 < n
        · have hst := start2 a0 (S 0).toNat (MB (S 0)) hb1 hr1 hsz1 (n - 1) _ rfl
          go_wp2_with fail
          go_loopw [9] (fun i wr => ∃ j : Nat, j + 1 ≤ n ∧ i = .int .i64 ((j : Int) + 1) ∧ Below w.heap.size w wr ∧ wr.rowIs w.heap.size 24 n (fun j => .int .u16 (S j)) ∧ wr.rowIs (w.heap.size + 1 + 1) 33 10 (dat a0 w.heap.size (n - 1) (S 0).toNat) ∧ ∃ f, wr.rowIs (w.heap.size + 1 + 1 + 1) 35 ((n - 1) * 2) f) (fun i _ => n - (intOf i).toNat)
          case atStart => exact ⟨0, by omega, rfl, hst⟩
          case round =>
            clear hst hb1 hr1 hsz1 hmm hmb m0
            obtain ⟨j, hj, rfl, hb, r0, r1, f, r2⟩ := hrel
            have d9 := r1.cell (i := 9) (by omega)
            simp only [dat] at d9
            by_cases hlt : j + 1 < n
            · obtain ⟨t0, t1⟩ := hS (j + 1) hlt
              have hmb := make_bytes (S (j + 1)) t0 t1
              have m0 := r0.cell hlt
              have m1 := r2.cell (i := j * 2) (by omega)
              have m2 := r2.cell (i := j * 2 + 1) (by omega)
              have mf := r2.frozen
              have hlt1 := r2.lt
              have hlt2 := r1.lt
              have hlt3 := r0.lt
              have i0 : (0 : Int) ≤ (j : Int) + 1 := by omega
              have i1 : (j : Int) + 1 < n := by omega
              have i2 : (j : Int) < ((n - 1 : Nat) : Int) := by omega
              have i3 : j < n - 1 := by omega
              go_wp2_with fail
              go_region
              go_wp2_with fail
              have R := step2 (B1 := 0) (j := j * 2) hb r0 r1 r2 (.int .u64 ((j : Int) + 1)) (.slice (some ⟨wr.heap.size, 0, none⟩) (S (j + 1)).toNat (S (j + 1)).toNat) (MB (S (j + 1))) _ rfl
              go_roundw
              case rel => exact ⟨j + 1, by omega, by go_num, R⟩
              case measure => simp [intOf]; omega
            · have d0 := r1.cell (i := 0) (by omega)
              have d1 := r1.cell (i := 1) (by omega)
              have d2 := r1.cell (i := 2) (by omega)
              have d3 := r1.cell (i := 3) (by omega)
              have d4 := r1.cell (i := 4) (by omega)
              have d5 := r1.cell (i := 5) (by omega)
              have d6 := r1.cell (i := 6) (by omega)
              have d7 := r1.cell (i := 7) (by omega)
              have d8 := r1.cell (i := 8) (by omega)
              simp only [dat] at d0 d1 d2 d3 d4 d5 d6 d7 d8
              have hcn : (1 : Int) + ((n - 1 : Nat) : Int) = n := by omega
              by_cases ha : a0 = 0
              · subst ha
                go_wp2_with fail
                refine (count_msg _ _ _ _ _ _ _ _ _ (n - 1) _ (by omega) _).mono ?_
                rintro e w2 ⟨rfl, hb2⟩
                have q0 := below_row hb2 r0 r0.lt
                have hbb := hb.trans (hb2.mono hb.size)
                clear d0 d1 d2 d3 d4 d5 d6 d7 d8 d9 r0 r1 r2 hb hb2
                go_wp2_with fail
                go_loop [11, 12] (fun l i => ∃ k : Nat, k ≤ n ∧ i = .int .i64 k ∧ l = .int .i64 (pl S k)) (fun _ i => n - (intOf i).toNat)
                case atStart => exact ⟨0, Nat.zero_le _, rfl, rfl⟩
                case round =>
                  obtain ⟨k, hk, rfl, rfl⟩ := hrel
                  obtain ⟨p0, p1, p2⟩ := pl_bd hS hn1 k hk
                  by_cases hlt : k < n
                  · have e0 := q0.cell hlt
                    obtain ⟨t0, t1⟩ := hS k hlt
                    have hgrow := p2 hlt
                    have HP : Hid _ := pl_step S k
                    go_wp2_with fail
                    refine (packed_any _ _ _ p0 p1 (by omega) t0 t1 _).mono ?_
                    rintro e w3 ⟨rfl, rfl⟩
                    rw [HP.out]
                    go_wp2
                    go_round
                    case rel => exact ⟨k + 1, by omega, by go_num, rfl⟩
                    case measure => simp [intOf]; omega
                  · have ek : n = k := by omega
                    subst ek
                    have hpl : (pl S n == 49 + ((n : Int) - 1) * 10 + sm S n) = true := by
                      have : ¬ n = 0 := by omega
                      have : ¬ n = 1 := by omega
                      simp [pl, *]
                    go_wp2
                    go_ret
                    exact ⟨rfl, hbb⟩
              · have ha' : (a0 == 0) = false := by simpa using ha
                go_wp2_with fail
                refine (count_other a0 ha' _ _ _ _ _ _ _ _ _ _).mono ?_
                rintro e w2 ⟨rfl, hb2⟩
                go_wp2
                go_ret
                exact ⟨rfl, hb.trans (hb2.mono hb.size)⟩
        · obtain rfl : n = 1 := by omega
          have hsm : sm S 1 = S 0 := by simp [sm]
          by_cases ha : a0 = 0
          · subst ha
            go_wp2_with fail
            refine (count_msg _ _ _ _ _ _ _ _ _ 0 _ (by omega) _).mono ?_
            rintro e w2 ⟨rfl, hb2⟩
            obtain ⟨hbb, q0⟩ := start1 hb1 hr1 hb2
            have e0 := q0.cell hn
            clear hb1 hr1 hb2 m0 hsz1 hmm hmb h hS
            go_wp2_with fail
            refine wp_loop_rounds 2 ?_
            rw [rounds_succ]
            go_wp2_with fail
            refine (packed_any 0 0 _ (by omega) (by omega) (by omega) t0 t1 _).mono ?_
            rintro e w3 ⟨rfl, rfl⟩
            go_wp2_with fail
            rw [rounds_succ]
            go_wp2
            go_ret
            exact ⟨rfl, hbb⟩
          · have ha' : (a0 == 0) = false := by simpa using ha
            go_wp2_with fail
            refine (count_other a0 ha' _ _ _ _ _ _ _ _ _ _).mono ?_
            rintro e w2 ⟨rfl, hb2⟩
            go_wp2
            go_ret
            exact ⟨rfl, (start1 hb1 hr1 hb2).1⟩
end Go.Proofs.Qxb6003694a.fnPackedLenFoldMatchesLayout
