import Derived.Test.Qxb6605443aPartB1
namespace Go.Proofs.Qxb6605443a.fnTakeScript
open Go.ChangeShapes Go.WideShapes Go.ChangeAt Go.RowKit Go.Maps
open Go.Proofs.Qxb6605443a.Own
set_option linter.unusedVariables false
set_option linter.unusedSimpArgs false

set_option maxRecDepth 100000 in
set_option maxHeartbeats 20000000 in
/-- THE WHOLE FUNCTION. -/
theorem whole (a0 a1 a2 : Option Addr) (n nt nr c0 c1 c2 : Nat) (Pa Ky Rd : Nat → ByteArray) (Ob TO : Nat → Int) (TV : Nat → Bool)
    (hOb : ∀ j, j < n → (Lit.int .i64 (Ob j)).wf = true) (hTO : ∀ j, j < nt → (Lit.int .i64 (TO j)).wf = true) (hRd : ∀ j, j < nr → (Rd j).size ≤ maxLen) (hP : ∀ j, j < n → (Pa j).size ≤ maxLen ∧ (Ky j).size ≤ maxLen)
    (w : World) (s0 : SeenE w a0 n Pa Ky Ob) (s1 : SeenT w a1 nt TO TV) (s2 : Seen w a2 nr (fun j => .string (Rd j))) :
    Calls Try.prog 3 #[.slice a0 n c0, .slice a1 nt c1, .slice a2 nr c2] w fun e w' => e = .returned (.bool true) ∧ Below w.heap.size w w' := by
  have h0 := s0.1
  have h1 := s1.1
  have h2 := s2.1
  have HO : Hid _ := hOb
  have HT : Hid _ := hTO
  have HR : Hid _ := hRd
  have HP : Hid _ := hP
  have HB := bytes_any a0 a1 a2 n nt nr c0 c1 c2 Pa Ky Rd Ob hP hRd w s0 h1 s2
  clear hOb hTO hRd hP
  unfold maxLen at h0 h1 h2
  go_enter Try.func3, Try.ntmps3
  go_wp2_with fail
  refine HB.mono ?_
  rintro e w1 ⟨⟨bv, rfl⟩, rfl⟩
  clear HB
  cases bv
  · go_wp2
    go_ret
    exact ⟨rfl, Below.refl _ _⟩
  by_cases hn : n ≤ 65536
  case neg =>
    have hn' : (65536 : Int) < n := by omega
    go_wp2
    go_ret
    exact ⟨rfl, Below.refl _ _⟩
  by_cases hnt : nt ≤ 65536
  case neg =>
    have hn' : ¬ (65536 : Int) < n := by omega
    have hnt' : (65536 : Int) < nt := by omega
    go_wp2
    go_ret
    exact ⟨rfl, Below.refl _ _⟩
  by_cases hnr : nr ≤ 65536
  case neg =>
    have hn' : ¬ (65536 : Int) < n := by omega
    have hnt' : ¬ (65536 : Int) < nt := by omega
    have hnr' : (65536 : Int) < nr := by omega
    go_wp2
    go_ret
    exact ⟨rfl, Below.refl _ _⟩
  have hn' : ¬ (65536 : Int) < n := by omega
  have hnt' : ¬ (65536 : Int) < nt := by omega
  have hnr' : ¬ (65536 : Int) < nr := by omega
  go_wp2
  go_loopw [7, 8] (fun z i wr => ∃ k : Nat, ∃ s : Int, k ≤ n ∧ i = .int .i64 k ∧ z = .int .i64 s ∧ 0 ≤ s ∧ s ≤ 1048576 ∧ Below w.heap.size w wr) (fun _ i _ => n - (intOf i).toNat)
  case atStart => exact ⟨0, _, Nat.zero_le _, rfl, rfl, by omega, by omega, Below.refl _ _⟩
  case round =>
    obtain ⟨k, s, hk, rfl, rfl, q0, q1, hb⟩ := hrel
    by_cases hlt : k < n
    · obtain ⟨b, off, rfl, hc⟩ := s0.2 (by omega)
      obtain ⟨e1, e2, e3⟩ := hc k hlt
      have hbl := World.block_lt_of_cell? w _ e1
      have f1 := (hb.cell (p := ⟨b, off + k * 3, none⟩) hbl).trans e1
      have f2 := (hb.cell (p := ⟨b, off + k * 3 + 1, none⟩) hbl).trans e2
      obtain ⟨p1, p2⟩ := HP.out k hlt
      unfold maxLen at p1 p2
      have hk1 : (k : Int) < n := by omega
      clear hc e1 e2 e3
      by_cases r1 : (Pa k).size ≤ 1048576
      case neg =>
        have r1' : (1048576 : Int) < (Pa k).size := by omega
        go_wp2
        go_ret
        exact ⟨rfl, hb⟩
      by_cases r2 : (Ky k).size ≤ 1048576
      case neg =>
        have r1' : ¬ (1048576 : Int) < (Pa k).size := by omega
        have r2' : (1048576 : Int) < (Ky k).size := by omega
        go_wp2
        go_ret
        exact ⟨rfl, hb⟩
      have r1' : ¬ (1048576 : Int) < (Pa k).size := by omega
      have r2' : ¬ (1048576 : Int) < (Ky k).size := by omega
      go_wp2
      go_quiet (fail)
      go_wp2
      all_goals first
        | (go_ret; exact ⟨rfl, below_drewN hb _⟩)
        | (go_roundw
           case rel => exact ⟨k + 1, _, by omega, by go_num, rfl, by omega, by omega, below_drewN hb _⟩
           case measure => simp [intOf]; omega)
    · have ek : n = k := by omega
      subst ek
      go_wp2
      go_loop [7, 9] (fun z i => ∃ k : Nat, ∃ s : Int, k ≤ nr ∧ i = .int .i64 k ∧ z = .int .i64 s ∧ 0 ≤ s ∧ s ≤ 1048576) (fun _ i => nr - (intOf i).toNat)
      case atStart => exact ⟨0, _, Nat.zero_le _, rfl, rfl, by omega, by omega⟩
      case round =>
        obtain ⟨k, s, hk, rfl, rfl, q0, q1⟩ := hrel
        by_cases hlt : k < nr
        · obtain ⟨b, off, rfl, hc⟩ := s2.2 (by omega)
          have e1 := hc k hlt
          have f1 := (hb.cell (p := ⟨b, off + k, none⟩) (World.block_lt_of_cell? w _ e1)).trans e1
          have p1 := HR.out k hlt
          unfold maxLen at p1
          have hk1 : (k : Int) < nr := by omega
          clear hc e1
          by_cases r1 : (Rd k).size ≤ 1048576
          case neg =>
            have r1' : (1048576 : Int) < (Rd k).size := by omega
            go_wp2
            go_ret
            exact ⟨rfl, hb⟩
          have r1' : ¬ (1048576 : Int) < (Rd k).size := by omega
          go_wp2
          all_goals first
            | (go_ret; exact ⟨rfl, hb⟩)
            | (go_round
               case rel => exact ⟨k + 1, _, by omega, by go_num, rfl, by omega, by omega⟩
               case measure => simp [intOf]; omega)
        · have ek : nr = k := by omega
          subst ek
          have t0 := s0.below hb
          have t1 := s1.below hb
          have t2 := Seen.below s2 hb
          clear s0 s1 s2
          have hC5 := copyE_any a0 n c0 Pa Ky Ob hn wr t0
          by_cases hz : nr = 0
          · subst hz
            go_wp2_with fail
            refine hC5.mono ?_
            rintro e w1 ⟨a0', c0', rfl, hb1, v0⟩
            have hC6 := copyT_any a1 nt c1 TO TV hnt w1 (t1.below hb1)
            have t2' := Seen.below t2 hb1
            clear hC5
            go_wp2_with fail
            refine hC6.mono ?_
            rintro e w2 ⟨a1', c1', rfl, hb2, v1⟩
            have hC7 := copyS_any a2 0 c2 Rd hnr w2 (Seen.below t2' hb2)
            clear hC6
            go_wp2_with fail
            refine hC7.mono ?_
            rintro e w3 ⟨a2', c2', rfl, hb3, v2⟩
            clear hC7
            have hbz : Below w.heap.size w w3 := hb.trans ((hb1.trans ((hb2.trans (hb3.mono hb2.size)).mono hb1.size)).mono hb.size)
            have x0 := (v0.below hb2).below hb3
            have x1 := v1.below hb3
            go_upto_region 27 with (fail)
            exact partB1 a0' a1' a2' n nt 0 _ _ _ Pa Ky Rd Ob TO TV hn hnt hnr HO.out HT.out HR.out (fun j hj => (HP.out j hj).1) w w3 hbz x0 x1 v2 _ _ _ _ _ _ _ _ _ _ _ _ _ _ _ _ _ _ _ _ _ _ _ _ _ _ _ _ _ _ _ _ _ _ _ _ _ _ _ _ _ _ _ _ _ _ _ _ _ _ _ _ _ _ _ _ _ _ _ _ _ _ _ _ _ _ _ _ _ _ _ _ _ _ _ _ _ _ _ _ _ _ _ _ _ _ _ _ _ _ _ _ _ _ _ _ _ _ _ _ _ _ _ _ _ _ _ _ _ _ _ _ _ _ _ _ _ _ _ _ _ _ _ _ _ _ _ _ _ _ _ _ _ _ _ _ _ _ _ _ _ _ _ _ _ _ _ _ _ _ _ _ _ _ _ _ _ _ _ _ _ _ _ _ _ _ _ _ _ _ _ _ _ _ _ _ _ _ _ _ _ _ _ _ _ _ _ _ _ _ _ _ _ _ _ _ _ _ _ _ _ _ _ _ _ _ _ _ _ _ _ _ _ _ _ _ _ _ _ _ _ _ _ _ _ _ _ _ _ _ _ _ _ _ _ _ _ _ _ _ _ _ _ _ _ _ _ _ _ _ _ _ _ _ _ _ _ _ _ _ _ _ _ _ _ _ _ _ _ _ _ _ _ _ _ _ _ _ _ _ _ _ _ _ _ _ _ _ _ _ _ _ _ _ _ _ _ _ _ _ _ _ _ _ _ _ _ _ _ _ _ _ _ _ _ _ _ _ _ _ _ _ _ _ _ _ _ _ _ _ _ _ _ _ _ _ _ _ _ _ _ _ _ _ _ _ _ _ _ _ _ _ _ _ _ _ _ _ _ _ _ _ _ _ _ _ _ _ _ _ _ _ _ _ _ _ _ _ _ _ _ _ _ _ _ _ _ _ _ _ _ _ _ _ _ _ _ _ _ _ _ _ _ _ _ _ _ _ _ _ _ _ _ _ _ _ _ _ _ _ _ _ _ _ _ _ _ _ _ _ _ _ _ _ _ _ _ _ _ _ _ _ _ _ _ _ _ _ _ _ _ _ _ _ _ _ _ _ _ _ _ _ _ _ _ _ (by assumption)
          · have hz1 : (0 : Int) < nr := by omega
            have hz2 : (nr : Int) ≠ 0 := by omega
            go_wp2_with fail
            · go_ret
              exact ⟨rfl, hb⟩
            refine hC5.mono ?_
            rintro e w1 ⟨a0', c0', rfl, hb1, v0⟩
            have hC6 := copyT_any a1 nt c1 TO TV hnt w1 (t1.below hb1)
            have t2' := Seen.below t2 hb1
            clear hC5
            go_wp2_with fail
            refine hC6.mono ?_
            rintro e w2 ⟨a1', c1', rfl, hb2, v1⟩
            have hC7 := copyS_any a2 nr c2 Rd hnr w2 (Seen.below t2' hb2)
            clear hC6
            go_wp2_with fail
            refine hC7.mono ?_
            rintro e w3 ⟨a2', c2', rfl, hb3, v2⟩
            clear hC7
            have hbz : Below w.heap.size w w3 := hb.trans ((hb1.trans ((hb2.trans (hb3.mono hb2.size)).mono hb1.size)).mono hb.size)
            have x0 := (v0.below hb2).below hb3
            have x1 := v1.below hb3
            go_upto_region 27 with (fail)
            exact partB1 a0' a1' a2' n nt nr _ _ _ Pa Ky Rd Ob TO TV hn hnt hnr HO.out HT.out HR.out (fun j hj => (HP.out j hj).1) w w3 hbz x0 x1 v2 _ _ _ _ _ _ _ _ _ _ _ _ _ _ _ _ _ _ _ _ _ _ _ _ _ _ _ _ _ _ _ _ _ _ _ _ _ _ _ _ _ _ _ _ _ _ _ _ _ _ _ _ _ _ _ _ _ _ _ _ _ _ _ _ _ _ _ _ _ _ _ _ _ _ _ _ _ _ _ _ _ _ _ _ _ _ _ _ _ _ _ _ _ _ _ _ _ _ _ _ _ _ _ _ _ _ _ _ _ _ _ _ _ _ _ _ _ _ _ _ _ _ _ _ _ _ _ _ _ _ _ _ _ _ _ _ _ _ _ _ _ _ _ _ _ _ _ _ _ _ _ _ _ _ _ _ _ _ _ _ _ _ _ _ _ _ _ _ _ _ _ _ _ _ _ _ _ _ _ _ _ _ _ _ _ _ _ _ _ _ _ _ _ _ _ _ _ _ _ _ _ _ _ _ _ _ _ _ _ _ _ _ _ _ _ _ _ _ _ _ _ _ _ _ _ _ _ _ _ _ _ _ _ _ _ _ _ _ _ _ _ _ _ _ _ _ _ _ _ _ _ _ _ _ _ _ _ _ _ _ _ _ _ _ _ _ _ _ _ _ _ _ _ _ _ _ _ _ _ _ _ _ _ _ _ _ _ _ _ _ _ _ _ _ _ _ _ _ _ _ _ _ _ _ _ _ _ _ _ _ _ _ _ _ _ _ _ _ _ _ _ _ _ _ _ _ _ _ _ _ _ _ _ _ _ _ _ _ _ _ _ _ _ _ _ _ _ _ _ _ _ _ _ _ _ _ _ _ _ _ _ _ _ _ _ _ _ _ _ _ _ _ _ _ _ _ _ _ _ _ _ _ _ _ _ _ _ _ _ _ _ _ _ _ _ _ _ _ _ _ _ _ _ _ _ _ _ _ _ _ _ _ _ _ _ _ _ _ _ _ _ _ _ _ _ _ _ _ _ _ _ _ _ _ _ _ _ _ _ _ _ _ _ _ _ _ _ _ _ _ _ _ _ _ _ _ _ _ _ _ _ _ _ _ _ _ (by assumption)
end Go.Proofs.Qxb6605443a.fnTakeScript
