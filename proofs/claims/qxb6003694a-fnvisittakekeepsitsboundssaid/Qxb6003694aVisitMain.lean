import Derived.Test.Qxb6003694aVisitEarly
import Derived.Deep.RegionHeld3
import Derived.Deep.CutRange
namespace Go.Proofs.Qxb6003694a.fnVisitTakeKeepsItsBounds
open Go.ChangeShapes Go.WideShapes Go.ChangeAt Go.RowKit
open Go.Proofs.Qxb6003694a.Own
set_option linter.unusedVariables false

set_option maxRecDepth 100000 in
set_option maxHeartbeats 20000000 in
theorem walk_pos (a0 : Int) (hm0 : -9223372036854775808 ≤ a0) (hm1 : a0 ≤ 9223372036854775807) (b1 o1 b2 o2 n c1 c2 : Nat) (S E : Nat → Int) (hn : 0 < n) (hmax : n ≤ 1024) (w : World)
    (h1 : ∀ j, j < n → w.cell? ⟨b1, o1 + j, none⟩ = some (.int .i64 (S j))) (h2 : ∀ j, j < n → w.cell? ⟨b2, o2 + j, none⟩ = some (.int .i64 (E j))) :
    Calls Try.prog 5 #[.int .i64 a0, .slice (some ⟨b1, o1, none⟩) n c1, .slice (some ⟨b2, o2, none⟩) n c2] w fun e w' => e = .returned (.bool true) ∧ Below w.heap.size w w' := by
  go_enter Try.func5, Try.ntmps5
  go_wp2
  go_loop [7] (fun i => ∃ k : Nat, k ≤ n ∧ i = .int .i64 k ∧ ∀ j, j < k → 0 ≤ S j ∧ S j ≤ 1048576 ∧ 0 ≤ E j ∧ E j ≤ 1048576) (fun i => n - (intOf i).toNat)
  case atStart => exact ⟨0, Nat.zero_le _, rfl, fun j hj => absurd hj (Nat.not_lt_zero _)⟩
  case round =>
    obtain ⟨k, hk, rfl, hin⟩ := hrel
    by_cases hlt : k < n
    · have e1 := h1 k hlt
      have e2 := h2 k hlt
      have hk1 : (k : Int) < n := by omega
      by_cases q1 : S k < 0
      · go_wp2
        go_ret
        exact ⟨rfl, Below.refl _ _⟩
      by_cases q2 : 1048576 < S k
      · go_wp2
        go_ret
        exact ⟨rfl, Below.refl _ _⟩
      by_cases q3 : E k < 0
      · go_wp2
        go_ret
        exact ⟨rfl, Below.refl _ _⟩
      by_cases q4 : 1048576 < E k
      · go_wp2
        go_ret
        exact ⟨rfl, Below.refl _ _⟩
      go_wp2
      go_round
      case rel => exact ⟨k + 1, by omega, by go_num, fun j hj => by
        by_cases e : j = k
        · subst e; omega
        · exact hin j (by omega)⟩
      case measure => simp [intOf]; omega
    · have ek : n = k := by omega
      subst ek
      go_wp2_with fail
      refine (cloneInts_pos b1 o1 n c1 S hn (by omega) w h1).mono ?_
      rintro e w1 ⟨rfl, hb1, r1, hs1⟩
      go_wp2_with fail
      have hbl2 := World.block_lt_of_cell? w _ (h2 0 hn)
      refine (cloneInts_pos b2 o2 n c2 E hn (by omega) w1 (fun j hj => (hb1.cell (p := ⟨b2, o2 + j, none⟩) hbl2).trans (h2 j hj))).mono ?_
      rintro e w2 ⟨rfl, hb2, r2, hs2⟩
      rw [hs1]
      go_wp2_with fail
      refine (zzvisit_in a0 hm0 hm1 w2).mono ?_
      rintro e w3 ⟨mo, mb, rfl, m1, m2, m3, m4, hb3⟩
      have hst : Inv w w3.heap.size n S E mo mb 0 0 0 _ := Inv.start hb1 r1 hs1 hb2 r2 hb3
      clear hb1 r1 hs1 hb2 r2 hb3 h1 h2
      go_wp2_with fail
      go_loopw [10, 11, 12, 13, 14] (fun ac sb se fi i wr => ∃ (k : Nat) (f b e fst : Int), k ≤ n ∧ i = .int .i64 k ∧ ac = .int .i64 f ∧ sb = .int .i64 b ∧ se = .int .i64 e ∧ fi = .int .i64 fst ∧ Bds mo mb k f b e fst ∧ Inv w w3.heap.size n S E mo mb f b e wr) (fun _ _ _ _ i _ => n - (intOf i).toNat)
      case atStart => exact ⟨0, 0, 0, 0, 0, Nat.zero_le _, rfl, rfl, rfl, rfl, rfl, Bds.start m1 m3, hst⟩
      case round =>
        clear hst
        obtain ⟨k, f, b, e, fst, hk, rfl, rfl, rfl, rfl, rfl, hbd, hinv⟩ := hrel
        obtain ⟨d0, d1, d2, d3, d4, d5, df⟩ := six hinv.t9
        by_cases hlt : k < n
        · have g1 := hinv.r1.cell hlt
          have g2 := hinv.r2.cell hlt
          have hk1 : (k : Int) < n := by omega
          obtain ⟨s0, s1, v0, v1⟩ := hin k hlt
          obtain ⟨x1, x2, x3, x4, x5, x6, x7, x8, x9, x10, x11, x12⟩ := hbd
          have hev : decide ((9223372036854775807 : Int) < e + E k) = false := by simp; omega
          obtain ⟨TB, hTB⟩ : ∃ TB : Bool, TB = (decide (0 < f) && decide (mb < b + S k)) := ⟨_, rfl⟩
          have HT : Hid (TB = (decide (0 < f) && decide (mb < b + S k))) := hTB
          clear hTB
          go_wp2_with fail
          go_cut [16] from 108 to 241 (fun tb wc => tb = .bool TB ∧ ∃ nq, wc = wr.drewN nq)
          case first =>
            by_cases hf0 : 0 < f
            · go_quiet (fail)
              go_wp2_with fail
              go_meet
              exact ⟨by rw [HT.out]; simp [hf0], _, rfl⟩
            · have hd : decide (0 < f) = false := by simpa using hf0
              go_quiet (fail)
              go_wp2_with fail
              go_meet
              exact ⟨by rw [HT.out, hd]; rfl, _, rfl⟩
          case rest =>
            obtain ⟨rfl, nq, rfl⟩ := hcut
            go_wp2_with fail
            by_cases hno : f = mo ∨ 0 < f ∧ mb < b + S k
            · have HN : Hid (f = mo ∨ (f == mo) = false ∧ 0 < f ∧ mb < b + S k) := no_of hno
              have HR : ((f == mo) = true) ∨ ((f == mo) = false ∧ true = TB) := no_tb hno HT.out
              have hk0 : ((k : Int) == 0) = false := by simp; omega
              clear hno
              go_cut [15, 17, 18] from 108 to 241 (fun fu p ok wc => ∃ X, fu = .bool (f == mo) ∧ p = .pointer (some ⟨X, 0, none⟩) ∧ ok = .bool false ∧ Inv w w3.heap.size n S E mo mb f b e wc ∧ wc.heap[X]? = some (.cells #[.int .i64 f, .int .i64 b, .int .i64 e, .int .i64 mo, .int .i64 mb, .int .i64 9223372036854775807] 44 (0, 0)) ∧ w3.heap.size + 1 < X)
              case first =>
                go_region_held3 (fun w' => w'.cell? ⟨w.heap.size, k, none⟩ = some (.int .i64 (S k)) ∧ w'.cell? ⟨w.heap.size + 1, k, none⟩ = some (.int .i64 (E k)) ∧ w'.cell? ⟨w3.heap.size + 1, 0, none⟩ = some (.int .i64 f) ∧ w'.cell? ⟨w3.heap.size + 1, 1, none⟩ = some (.int .i64 b) ∧ w'.cell? ⟨w3.heap.size + 1, 2, none⟩ = some (.int .i64 e) ∧ w'.cell? ⟨w3.heap.size + 1, 3, none⟩ = some (.int .i64 mo) ∧ w'.cell? ⟨w3.heap.size + 1, 4, none⟩ = some (.int .i64 mb) ∧ w'.cell? ⟨w3.heap.size + 1, 5, none⟩ = some (.int .i64 9223372036854775807))
                  ((refine held_below (W := wr) ?_ ⟨g1, g2, d0, d1, d2, d3, d4, d5⟩; first | with_reducible apply kb6 hb4 | with_reducible apply kb5 hb4 | with_reducible apply kb4 hb4 | with_reducible apply kb3 hb4 | with_reducible apply kb2 | with_reducible apply kb1))
                  (first | (go_at_call 15; refine (zztake_no f b e mo mb 9223372036854775807 (S k) (E k) HN.out (by omega) (by omega) (by omega) (by omega) (by omega) (by omega) (by omega) (by omega) (by omega) (by omega) hev _).mono ?_; rintro en w4 ⟨rfl, hb4⟩; try (with_reducible have hn4 := bnew6 hb4; obtain ⟨n0, n1, n2, n3, n4, n5, nf⟩ := hn4)))
                · go_wp2_with fail
                  go_meet
                  exact ⟨_, rfl, rfl, rfl, rel_after hinv hb4 _⟩
                · go_wp2_with fail
                  go_meet
                  exact ⟨_, rfl, rfl, rfl, rel_before hinv hb4 _ _ _ _ _ _⟩
              case rest =>
                obtain ⟨X, rfl, rfl, rfl, hic, hX, hlX⟩ := hcut
                obtain ⟨y0, y1, y2, y3, y4, y5, yf⟩ := six hX
                obtain ⟨z0, z1, z2, z3, z4, z5, zf⟩ := six hic.t9
                clear d0 d1 d2 d3 d4 d5 df g1 g2 hinv
                rcases HR with hfe | ⟨hfe, hTB1⟩
                · go_wp2_with fail
                  go_roundw
                  case rel => exact ⟨k + 1, f, b, e, fst, by omega, by go_num, rfl, rfl, rfl, rfl, ⟨x1, by omega, x3, x4, by omega, x6, by omega, x8, x9, x10, x11, x12⟩, hic⟩
                  case measure => simp [intOf]; omega
                · subst hTB1
                  go_wp2_with fail
                  go_roundw
                  case rel => exact ⟨k + 1, f, b, e, fst, by omega, by go_num, rfl, rfl, rfl, rfl, ⟨x1, by omega, x3, x4, by omega, x6, by omega, x8, x9, x10, x11, x12⟩, hic⟩
                  case measure => simp [intOf]; omega
            · have hne : (f == mo) = false := by simp; omega
              have hTB0 : TB = false := by rw [HT.out]; simp; omega
              subst hTB0
              have HN : Hid (f = 0 ∨ 0 < f ∧ decide (mb < b + S k) = false) := yes_of x1 hno
              have HA : ((f == 0) = true ∧ f ≤ 0 ∧ b ≤ 0) ∨ ((f == 0) = false ∧ 0 < f ∧ b + S k ≤ mb) := yes_tb x1 x12 hno
              have hfm : f + 1 ≤ mo := by omega
              clear hno x12
              go_cut [15, 17, 18] from 108 to 241 (fun fu p ok wc => ∃ X, fu = .bool false ∧ p = .pointer (some ⟨X, 0, none⟩) ∧ ok = .bool true ∧ Inv w w3.heap.size n S E mo mb f b e wc ∧ wc.heap[X]? = some (.cells #[.int .i64 (f + 1), .int .i64 (b + S k), .int .i64 (e + E k), .int .i64 mo, .int .i64 mb, .int .i64 9223372036854775807] 44 (0, 0)) ∧ w3.heap.size + 1 < X)
              case first =>
                go_region_held3 (fun w' => w'.cell? ⟨w.heap.size, k, none⟩ = some (.int .i64 (S k)) ∧ w'.cell? ⟨w.heap.size + 1, k, none⟩ = some (.int .i64 (E k)) ∧ w'.cell? ⟨w3.heap.size + 1, 0, none⟩ = some (.int .i64 f) ∧ w'.cell? ⟨w3.heap.size + 1, 1, none⟩ = some (.int .i64 b) ∧ w'.cell? ⟨w3.heap.size + 1, 2, none⟩ = some (.int .i64 e) ∧ w'.cell? ⟨w3.heap.size + 1, 3, none⟩ = some (.int .i64 mo) ∧ w'.cell? ⟨w3.heap.size + 1, 4, none⟩ = some (.int .i64 mb) ∧ w'.cell? ⟨w3.heap.size + 1, 5, none⟩ = some (.int .i64 9223372036854775807))
                  ((refine held_below (W := wr) ?_ ⟨g1, g2, d0, d1, d2, d3, d4, d5⟩; first | with_reducible apply kb6 hb4 | with_reducible apply kb5 hb4 | with_reducible apply kb4 hb4 | with_reducible apply kb3 hb4 | with_reducible apply kb2 | with_reducible apply kb1))
                  (first | (go_at_call 15; refine (zztake_yes f b e mo mb 9223372036854775807 (S k) (E k) hne HN.out (by omega) (by omega) (by omega) (by omega) (by omega) (by omega) (by omega) (by omega) (by omega) (by omega) hev _).mono ?_; rintro en w4 ⟨rfl, hb4⟩; try (with_reducible have hn4 := bnew6 hb4; obtain ⟨n0, n1, n2, n3, n4, n5, nf⟩ := hn4)))
                · go_wp2_with fail
                  go_meet
                  exact ⟨_, rfl, rfl, rfl, rel_after hinv hb4 _⟩
                · go_wp2_with fail
                  go_meet
                  exact ⟨_, rfl, rfl, rfl, rel_before hinv hb4 _ _ _ _ _ _⟩
              case rest =>
                obtain ⟨X, rfl, rfl, rfl, hic, hX, hlX⟩ := hcut
                obtain ⟨y0, y1, y2, y3, y4, y5, yf⟩ := six hX
                obtain ⟨z0, z1, z2, z3, z4, z5, zf⟩ := six hic.t9
                clear d0 d1 d2 d3 d4 d5 df g1 g2 hinv
                have q1 := hic.r1.cell hlt
                have q2 := hic.r2.cell hlt
                obtain ⟨p0, p1, p2, p3, p4, p5, pf⟩ := six hic.t8
                have hR := hic.store (f + 1) (b + S k) (e + E k)
                rcases HA with ⟨he1, x13, x14⟩ | ⟨he1, hf1, hle⟩
                · have hd1 : decide (1 < f + 1) = false := by simp; omega
                  have hfs : b + S k - S k ≤ mb := by omega
                  go_wp2_with fail
                  go_roundw
                  case rel => exact ⟨k + 1, f + 1, b + S k, e + E k, S k, by omega, by go_num, rfl, rfl, rfl, rfl, ⟨by omega, by omega, by omega, by omega, by omega, by omega, by omega, by omega, by omega, by omega, fun _ => by omega, fun _ => by omega⟩, hR⟩
                  case measure => simp [intOf]; omega
                · have hfs : b + S k - fst ≤ mb := by omega
                  go_wp2_with fail
                  go_roundw
                  case rel => exact ⟨k + 1, f + 1, b + S k, e + E k, fst, by omega, by go_num, rfl, rfl, rfl, rfl, ⟨by omega, by omega, by omega, by omega, by omega, by omega, by omega, by omega, by omega, by omega, fun _ => by omega, fun _ => by omega⟩, hR⟩
                  case measure => simp [intOf]; omega
        · go_wp2
          go_ret
          exact ⟨rfl, hinv.bel⟩
end Go.Proofs.Qxb6003694a.fnVisitTakeKeepsItsBounds
