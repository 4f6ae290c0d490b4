import Derived.Test.Qxb6003694aMissWalks
namespace Go.Proofs.Qxb6003694a.fnMissingIsExactlyTheAbsent
open Go.ChangeShapes Go.WideShapes Go.ChangeAt Go.RowKit Go.Maps
open Go.Proofs.Qxb6003694a.Own
set_option linter.unusedVariables false

theorem bytes_any (a0 a1 a2 : Option Addr) (n0 n1 n2 c0 c1 c2 : Nat) (h0 : n0 ≤ maxLen) (h1 : n1 ≤ maxLen) (h2 : n2 ≤ maxLen) (w : World) :
    Calls Try.prog 16 #[.slice a0 n0 c0, .slice a1 n1 c1, .slice a2 n2 c2] w fun e w' => e = .returned (.bool (decide (n0 + n1 + n2 ≤ 1048576))) ∧ w = w' := by
  unfold maxLen at h0 h1 h2
  by_cases h : n0 + n1 + n2 ≤ 1048576
  · rw [decide_eq_true h]
    go_enter Try.func16, Try.ntmps16
    go_wp2
    go_ret
    exact ⟨rfl, rfl⟩
  · rw [decide_eq_false h]
    go_enter Try.func16, Try.ntmps16
    go_wp2
    all_goals (go_ret; exact ⟨rfl, rfl⟩)

set_option maxRecDepth 100000 in
set_option maxHeartbeats 1000000 in
theorem walk_early (a0 a1 a2 : Option Addr) (n0 n1 n2 c0 c1 c2 : Nat) (h0 : n0 ≤ maxLen) (h1 : n1 ≤ maxLen) (h2 : n2 ≤ maxLen) (w : World)
    (h : 4096 < n0 ∨ 4096 < n1 ∨ 4096 < n2 ∨ n2 ≠ n1) :
    Calls Try.prog 6 #[.slice a0 n0 c0, .slice a1 n1 c1, .slice a2 n2 c2] w fun e w' => e = .returned (.bool true) ∧ Below w.heap.size w w' := by
  by_cases hb : n0 + n1 + n2 ≤ 1048576
  · have hd : decide (n0 + n1 + n2 ≤ 1048576) = true := by simpa using hb
    by_cases q0 : 4096 < n0
    · go_enter Try.func6, Try.ntmps6
      go_wp2_with (go_at_call 16; refine (bytes_any _ _ _ _ _ _ _ _ _ h0 h1 h2 _).mono ?_; rintro e w' ⟨rfl, rfl⟩)
      go_ret
      exact ⟨rfl, Below.refl _ _⟩
    by_cases q1 : 4096 < n1
    · go_enter Try.func6, Try.ntmps6
      go_wp2_with (go_at_call 16; refine (bytes_any _ _ _ _ _ _ _ _ _ h0 h1 h2 _).mono ?_; rintro e w' ⟨rfl, rfl⟩)
      go_ret
      exact ⟨rfl, Below.refl _ _⟩
    by_cases q2 : 4096 < n2
    · go_enter Try.func6, Try.ntmps6
      go_wp2_with (go_at_call 16; refine (bytes_any _ _ _ _ _ _ _ _ _ h0 h1 h2 _).mono ?_; rintro e w' ⟨rfl, rfl⟩)
      go_ret
      exact ⟨rfl, Below.refl _ _⟩
    · have hn' : ((n2 : Int) == (n1 : Int)) = false := by simp; omega
      go_enter Try.func6, Try.ntmps6
      go_wp2_with (go_at_call 16; refine (bytes_any _ _ _ _ _ _ _ _ _ h0 h1 h2 _).mono ?_; rintro e w' ⟨rfl, rfl⟩)
      go_ret
      exact ⟨rfl, Below.refl _ _⟩
  · have hd : decide (n0 + n1 + n2 ≤ 1048576) = false := by simpa using hb
    go_enter Try.func6, Try.ntmps6
    go_wp2_with (go_at_call 16; refine (bytes_any _ _ _ _ _ _ _ _ _ h0 h1 h2 _).mono ?_; rintro e w' ⟨rfl, rfl⟩)
    go_ret
    exact ⟨rfl, Below.refl _ _⟩

theorem seen_row {w : World} {b t n : Nat} {f : Nat → Value} (h : w.rowIs b t n f) (hn : n ≤ maxLen) : Seen w (some ⟨b, 0, none⟩) n f :=
  ⟨hn, fun _ => ⟨b, 0, rfl, fun j hj => by simpa using h.cell hj⟩⟩
theorem seen_empty (w : World) (a : Option Addr) (f : Nat → Value) : Seen w a 0 f := ⟨Nat.zero_le _, fun h => absurd h (Nat.lt_irrefl _)⟩
theorem seen_below {w w' : World} {a : Option Addr} {n : Nat} {f : Nat → Value} (h : Seen w a n f) (hb : Below w.heap.size w w') : Seen w' a n f :=
  ⟨h.1, fun hn => by
    obtain ⟨b, off, e, hc⟩ := h.2 hn
    exact ⟨b, off, e, fun j hj => (hb.cell (p := ⟨b, off + j, none⟩) (World.block_lt_of_cell? w _ (hc j hj))).trans (hc j hj)⟩⟩

theorem clone16 (a : Option Addr) (n c : Nat) (V : Nat → Int) (w : World) (hn : n ≤ 4096) (h : Seen w a n (fun j => .int .u16 (V j))) :
    Calls Try.prog 17 #[.slice a n c] w fun e w' => ∃ a' c', e = .returned (.slice a' n c') ∧ Below w.heap.size w w' ∧ Seen w' a' n (fun j => .int .u16 (V j)) := by
  by_cases h0 : n = 0
  · subst h0
    refine (cloneU16s_empty a c w).mono ?_
    rintro e w' ⟨a', c', rfl, hb⟩
    exact ⟨a', c', rfl, hb, seen_empty _ _ _⟩
  · obtain ⟨b, off, rfl, hc⟩ := h.2 (by omega)
    refine (cloneU16s_pos b off n c V (by omega) (by omega) w hc).mono ?_
    rintro e w' ⟨rfl, hb, hr, _⟩
    exact ⟨_, _, rfl, hb, seen_row hr h.1⟩

theorem cloneB (a : Option Addr) (n c : Nat) (V : Nat → Bool) (w : World) (hn : n ≤ 4096) (h : Seen w a n (fun j => .bool (V j))) :
    Calls Try.prog 18 #[.slice a n c] w fun e w' => ∃ a' c', e = .returned (.slice a' n c') ∧ Below w.heap.size w w' ∧ Seen w' a' n (fun j => .bool (V j)) := by
  by_cases h0 : n = 0
  · subst h0
    refine (cloneBools_empty a c w).mono ?_
    rintro e w' ⟨a', c', rfl, hb⟩
    exact ⟨a', c', rfl, hb, seen_empty _ _ _⟩
  · obtain ⟨b, off, rfl, hc⟩ := h.2 (by omega)
    refine (cloneBools_pos b off n c V (by omega) (by omega) w hc).mono ?_
    rintro e w' ⟨rfl, hb, hr, _⟩
    exact ⟨_, _, rfl, hb, seen_row hr h.1⟩

theorem set_any (a1 a2 : Option Addr) (n c1 c2 : Nat) (K : Nat → Int) (V : Nat → Bool) (hK : ∀ j, j < n → 0 ≤ K j ∧ K j ≤ 65535) (w : World) (hn : n ≤ 4096) (h1 : Seen w a1 n (fun j => .int .u16 (K j))) (h2 : Seen w a2 n (fun j => .bool (V j))) :
    Calls Try.prog 19 #[.slice a1 n c1, .slice a2 n c2] w fun e w' => e = .returned (.map (some w.heap.size)) ∧ Below w.heap.size w w' ∧ ∃ q, MapIs Try.prog 24 w' w.heap.size (mOf K V n) q := by
  by_cases h0 : n = 0
  · subst h0
    exact set_empty a1 a2 c1 c2 K V w
  · obtain ⟨b1, o1, rfl, hc1⟩ := h1.2 (by omega)
    obtain ⟨b2, o2, rfl, hc2⟩ := h2.2 (by omega)
    exact set_pos b1 o1 b2 o2 n c1 c2 K V hK (by omega) (by omega) w hc1 hc2

theorem miss_any (a : Option Addr) (n c B q : Nat) (I : Nat → Int) (m : Value → Option Value) (p : Int → Bool) (hp : ∀ x, p x = !(m (.int .u16 x)).isSome) (hI : ∀ j, j < n → 0 ≤ I j ∧ I j ≤ 65535) (hn : n ≤ 4096) (w : World)
    (h1 : Seen w a n (fun j => .int .u16 (I j))) (hm : MapIs Try.prog 24 w B m q) :
    Calls Try.prog 27 #[.slice a n c, .map (some B)] w fun e w' => ∃ a' c', e = .returned (.slice a' (kl I p n).length c') ∧ Below w.heap.size w w' ∧ Seen w' a' (kl I p n).length (fun j => .int .u16 ((kl I p n).getD j 0)) := by
  by_cases h0 : n = 0
  · subst h0
    refine (miss_empty a c _ w).mono ?_
    rintro e w' ⟨rfl, hb⟩
    exact ⟨none, 0, rfl, hb, seen_empty _ _ _⟩
  · obtain ⟨b1, o1, rfl, hc1⟩ := h1.2 (by omega)
    refine (miss_pos b1 o1 n c B q I m p hp hI (by omega) (by omega) w hc1 hm).mono ?_
    rintro e w' ⟨v, rfl, hb, hown⟩
    rcases hown.2 with ⟨rfl, hz⟩ | ⟨g, cap, cur, hv, _⟩
    · rw [hz]
      exact ⟨none, 0, rfl, hb, seen_empty _ _ _⟩
    · subst hv
      have hl := kl_len I p n
      refine ⟨_, cap, rfl, hb, by unfold maxLen; omega, fun hp' => ⟨g, 0, rfl, fun j hj => ?_⟩⟩
      have hc := hown.cellAt j (by omega)
      rw [Nat.zero_add, hc]
      simp [hj]

theorem zzmiss_any (a : Option Addr) (n c B q : Nat) (I : Nat → Int) (m : Value → Option Value) (p : Int → Bool) (hp : ∀ x, p x = !(m (.int .u16 x)).isSome) (hI : ∀ j, j < n → 0 ≤ I j ∧ I j ≤ 65535) (hn : n ≤ 4096) (w : World)
    (h1 : Seen w a n (fun j => .int .u16 (I j))) (hm : MapIs Try.prog 24 w B m q) :
    Calls Try.prog 20 #[.slice a n c, .map (some B)] w fun e w' => ∃ a' c', e = .returned (.slice a' (kl I p n).length c') ∧ Below w.heap.size w w' ∧ Seen w' a' (kl I p n).length (fun j => .int .u16 ((kl I p n).getD j 0)) := by
  have HP : Hid _ := hp
  have HI : Hid _ := hI
  clear hp hI
  go_enter Try.func20, Try.ntmps20
  go_wp2_with fail
  refine (miss_any a n c B q I m p HP.out HI.out hn w h1 hm).mono ?_
  rintro e w' ⟨a', c', rfl, hb, hs⟩
  go_wp2
  go_ret
  exact ⟨a', c', rfl, hb, hs⟩
end Go.Proofs.Qxb6003694a.fnMissingIsExactlyTheAbsent
