import Derived.Test.Qxb6003694aMissMain
namespace Go.Proofs.Qxb6003694a.fnMissingIsExactlyTheAbsent
open Go.ChangeShapes Go.WideShapes Go.ChangeAt Go.RowKit Go.Maps
open Go.Proofs.Qxb6003694a.Own
set_option linter.unusedVariables false

theorem kl_mem {I : Nat → Int} {p : Int → Bool} : ∀ {n : Nat} {x : Int}, x ∈ kl I p n → p x = true
  | n + 1, x, h => by
    simp only [kl, List.mem_append] at h
    rcases h with h | h
    · exact kl_mem h
    · by_cases hp : p (I n) = true
      · simp [hp] at h; rw [h]; exact hp
      · simp [hp] at h
theorem kl_get {I : Nat → Int} {p : Int → Bool} {n j : Nat} (hj : j < (kl I p n).length) : p ((kl I p n).getD j 0) = true := by
  have h : (kl I p n).getD j 0 = (kl I p n)[j] := by simp [List.getD, hj]
  rw [h]
  exact kl_mem (I := I) (n := n) (List.getElem_mem hj)

/-- is x none of the keys? -/
def absB (K : Nat → Int) (n : Nat) (x : Int) : Bool := !hasB K n x
theorem kl_more {I K : Nat → Int} {n k : Nat} (h : hasB K n (I k) = false) : (kl I (absB K n) (k + 1)).length = (kl I (absB K n) k).length + 1 := by
  rw [kl_yes (show absB K n (I k) = true by simp [absB, h])]; simp
theorem kl_less {I K : Nat → Int} {n k : Nat} (h : hasB K n (I k) = true) : (kl I (absB K n) (k + 1)).length = (kl I (absB K n) k).length := by
  rw [kl_no (show absB K n (I k) = false by simp [absB, h])]

set_option maxRecDepth 100000 in
set_option maxHeartbeats 1000000 in
theorem walk_main (a0 a1 a2 : Option Addr) (n0 n1 c0 c1 c2 : Nat) (h0 : n0 ≤ 4096) (h1 : n1 ≤ 4096) (w : World) (I K : Nat → Int) (V : Nat → Bool)
    (hI : ∀ j, j < n0 → 0 ≤ I j ∧ I j ≤ 65535) (hK : ∀ j, j < n1 → 0 ≤ K j ∧ K j ≤ 65535)
    (s0 : Seen w a0 n0 (fun j => .int .u16 (I j))) (s1 : Seen w a1 n1 (fun j => .int .u16 (K j))) (s2 : Seen w a2 n1 (fun j => .bool (V j))) :
    Calls Try.prog 6 #[.slice a0 n0 c0, .slice a1 n1 c1, .slice a2 n1 c2] w fun e w' => e = .returned (.bool true) ∧ Below w.heap.size w w' := by
  have hd : decide (n0 + n1 + n1 ≤ 1048576) = true := by simp; omega
  have h8 : decide ((1048576 : Int) < 8 * (n0 + n1 + n1)) = false := by simp; omega
  go_enter Try.func6, Try.ntmps6
  go_wp2_with fail
  refine (bytes_any a0 a1 a2 n0 n1 n1 c0 c1 c2 s0.1 s1.1 s2.1 w).mono ?_
  rintro e w' ⟨rfl, rfl⟩
  go_wp2_with fail
  refine (clone16 a0 n0 c0 I w h0 s0).mono ?_
  rintro e w1 ⟨x0, y0, rfl, b1, t0⟩
  go_wp2_with fail
  refine (clone16 a1 n1 c1 K w1 h1 (seen_below s1 b1)).mono ?_
  rintro e w2 ⟨x1, y1, rfl, b2, t1⟩
  go_wp2_with fail
  refine (cloneB a2 n1 c2 V w2 h1 (seen_below (seen_below s2 b1) b2)).mono ?_
  rintro e w3 ⟨x2, y2, rfl, b3, t2⟩
  go_wp2_with fail
  have t1' := seen_below t1 b3
  refine (set_any x1 x2 n1 y1 y2 K V hK w3 h1 t1' t2).mono ?_
  rintro e w4 ⟨rfl, b4, q, hm⟩
  go_wp2_with fail
  have t0' := seen_below (seen_below (seen_below t0 b2) b3) b4
  refine (zzmiss_any x0 n0 y0 _ q I (mOf K V n1) (absB K n1) (fun x => by rw [mOf_some]; rfl) hI h0 w4 t0' hm).mono ?_
  rintro e w5 ⟨x3, y3, rfl, b5, t3⟩
  have hb5 : Below w.heap.size w w5 := b1.trans ((b2.mono b1.size).trans ((b3.mono (Nat.le_trans b1.size b2.size)).trans ((b4.mono (Nat.le_trans b1.size (Nat.le_trans b2.size b3.size))).trans (b5.mono (Nat.le_trans b1.size (Nat.le_trans b2.size (Nat.le_trans b3.size b4.size)))))))
  have u0 := seen_below t0' b5
  have u1 := seen_below (seen_below t1' b4) b5
  have hlk := kl_len I (absB K n1) n0
  clear t0 t0' t1 t1' t2 b1 b2 b3 b4 b5 hm s0 s1 s2 hd
  go_wp2_with fail
  go_loop [9, 10] (fun c i => ∃ k : Nat, k ≤ n0 ∧ i = .int .i64 k ∧ c = .int .i64 ((kl I (absB K n1) k).length : Nat)) (fun _ i => n0 - (intOf i).toNat)
  case atStart => exact ⟨0, Nat.zero_le _, rfl, rfl⟩
  case round =>
    obtain ⟨k, hk, rfl, rfl⟩ := hrel
    have hlk' := kl_len I (absB K n1) k
    by_cases hlt : k < n0
    · obtain ⟨bb, oo, rfl, hc⟩ := u0.2 (by omega)
      have e0 := hc k hlt
      have HU : Hid _ := u1.2
      go_wp2_with fail
      refine (has_any x1 n1 y1 K (I k) w5 (by omega) HU.out).mono ?_
      rintro e w' ⟨rfl, rfl⟩
      cases hh : hasB K n1 (I k)
      · have HL : Hid ((kl I (absB K n1) (k + 1)).length = (kl I (absB K n1) k).length + 1) := kl_more hh
        go_wp2
        go_round
        case rel => exact ⟨k + 1, by omega, by go_num, by rw [HL.out]; go_num⟩
        case measure => simp [intOf]; omega
      · have HL : Hid ((kl I (absB K n1) (k + 1)).length = (kl I (absB K n1) k).length) := kl_less hh
        go_wp2
        go_round
        case rel => exact ⟨k + 1, by omega, by go_num, by rw [HL.out]⟩
        case measure => simp [intOf]; omega
    · have ek : n0 = k := by omega
      subst ek
      go_wp2_with fail
      go_loop [11] (fun i => ∃ j : Nat, j ≤ (kl I (absB K n1) n0).length ∧ i = .int .i64 j) (fun i => (kl I (absB K n1) n0).length - (intOf i).toNat)
      case atStart => exact ⟨0, Nat.zero_le _, rfl⟩
      case round =>
        obtain ⟨j, hj, rfl⟩ := hrel
        by_cases hlt2 : j < (kl I (absB K n1) n0).length
        · obtain ⟨bb, oo, rfl, hc⟩ := t3.2 (by omega)
          have e0 : w5.cell? ⟨bb, oo + j, none⟩ = some (.int .u16 ((kl I (absB K n1) n0).getD j 0)) := hc j hlt2
          obtain ⟨y, hy⟩ : ∃ y, y = (kl I (absB K n1) n0).getD j 0 := ⟨_, rfl⟩
          rw [← hy] at e0
          have hno : hasB K n1 y = false := by
            have := kl_get hlt2
            rw [← hy] at this
            simpa [absB] using this
          have HU : Hid _ := u1.2
          clear hy hc
          go_wp2_with fail
          refine (has_any x1 n1 y1 K y w5 (by omega) HU.out).mono ?_
          rintro e w' ⟨rfl, rfl⟩
          rw [hno]
          go_wp2
          go_round
          case rel => exact ⟨j + 1, by omega, by go_num⟩
          case measure => simp [intOf]; omega
        · go_wp2_with fail
          refine (sub_any x3 x0 (kl I (absB K n1) n0).length n0 y3 y0 (fun j => (kl I (absB K n1) n0).getD j 0) I (absB K n1) rfl (fun _ _ => rfl) (by omega) w5 t3.2 u0.2).mono ?_
          rintro e w6 ⟨rfl, b6⟩
          go_wp2
          go_ret
          exact ⟨rfl, hb5.trans (b6.mono hb5.size)⟩
end Go.Proofs.Qxb6003694a.fnMissingIsExactlyTheAbsent
