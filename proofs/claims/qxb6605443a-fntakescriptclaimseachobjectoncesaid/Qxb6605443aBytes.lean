import Derived.Test.Qxb6605443aMaps
namespace Go.Proofs.Qxb6605443a.fnTakeScript
open Go.ChangeShapes Go.WideShapes Go.ChangeAt Go.RowKit Go.Maps
open Go.Proofs.Qxb6605443a.Own
set_option linter.unusedVariables false

/-- What a walk is told of the slice of entries: path, key, object. -/
def SeenE (w : World) (a : Option Addr) (n : Nat) (Pa Ky : Nat → ByteArray) (Ob : Nat → Int) : Prop :=
  n ≤ maxLen ∧ (0 < n → ∃ b off, a = some ⟨b, off, none⟩ ∧ ∀ j, j < n → w.cell? ⟨b, off + j * 3, none⟩ = some (.string (Pa j)) ∧ w.cell? ⟨b, off + j * 3 + 1, none⟩ = some (.string (Ky j)) ∧ w.cell? ⟨b, off + j * 3 + 2, none⟩ = some (.int .i64 (Ob j)))
/-- .. of the slice of taken: object, taken. -/
def SeenT (w : World) (a : Option Addr) (n : Nat) (TO : Nat → Int) (TV : Nat → Bool) : Prop :=
  n ≤ maxLen ∧ (0 < n → ∃ b off, a = some ⟨b, off, none⟩ ∧ ∀ j, j < n → w.cell? ⟨b, off + j * 2, none⟩ = some (.int .i64 (TO j)) ∧ w.cell? ⟨b, off + j * 2 + 1, none⟩ = some (.bool (TV j)))

theorem SeenE.below {w w' : World} {a : Option Addr} {n : Nat} {Pa Ky : Nat → ByteArray} {Ob : Nat → Int} (h : SeenE w a n Pa Ky Ob) (hb : Below w.heap.size w w') : SeenE w' a n Pa Ky Ob :=
  ⟨h.1, fun hn => by
    obtain ⟨b, off, e, hc⟩ := h.2 hn
    refine ⟨b, off, e, fun j hj => ?_⟩
    obtain ⟨h1, h2, h3⟩ := hc j hj
    have hl := World.block_lt_of_cell? w _ h1
    exact ⟨(hb.cell (p := ⟨b, off + j * 3, none⟩) hl).trans h1, (hb.cell (p := ⟨b, off + j * 3 + 1, none⟩) hl).trans h2, (hb.cell (p := ⟨b, off + j * 3 + 2, none⟩) hl).trans h3⟩⟩
theorem SeenT.below {w w' : World} {a : Option Addr} {n : Nat} {TO : Nat → Int} {TV : Nat → Bool} (h : SeenT w a n TO TV) (hb : Below w.heap.size w w') : SeenT w' a n TO TV :=
  ⟨h.1, fun hn => by
    obtain ⟨b, off, e, hc⟩ := h.2 hn
    refine ⟨b, off, e, fun j hj => ?_⟩
    obtain ⟨h1, h2⟩ := hc j hj
    have hl := World.block_lt_of_cell? w _ h1
    exact ⟨(hb.cell (p := ⟨b, off + j * 2, none⟩) hl).trans h1, (hb.cell (p := ⟨b, off + j * 2 + 1, none⟩) hl).trans h2⟩⟩
theorem Seen.below {w w' : World} {a : Option Addr} {n : Nat} {f : Nat → Value} (h : Seen w a n f) (hb : Below w.heap.size w w') : Seen w' a n f :=
  ⟨h.1, fun hn => by
    obtain ⟨b, off, e, hc⟩ := h.2 hn
    exact ⟨b, off, e, fun j hj => (hb.cell (p := ⟨b, off + j, none⟩) (World.block_lt_of_cell? w _ (hc j hj))).trans (hc j hj)⟩⟩

/-- a bool comes back -/
def IsB (e : Ending) : Prop := ∃ bv, e = .returned (.bool bv)

set_option maxHeartbeats 1000000 in
theorem bytes_any (a0 a1 a2 : Option Addr) (n nt nr c0 c1 c2 : Nat) (Pa Ky Rd : Nat → ByteArray) (Ob : Nat → Int) (hP : ∀ j, j < n → (Pa j).size ≤ maxLen ∧ (Ky j).size ≤ maxLen) (hR : ∀ j, j < nr → (Rd j).size ≤ maxLen) (w : World)
    (s0 : SeenE w a0 n Pa Ky Ob) (h1 : nt ≤ maxLen) (s2 : Seen w a2 nr (fun j => .string (Rd j))) :
    Calls Try.prog 4 #[.slice a0 n c0, .slice a1 nt c1, .slice a2 nr c2] w fun e w' => IsB e ∧ w = w' := by
  have h0 := s0.1
  have h2 := s2.1
  unfold maxLen at h0 h1 h2 hP hR
  go_enter Try.func4, Try.ntmps4
  go_wp2
  · go_ret
    exact ⟨⟨_, rfl⟩, rfl⟩
  go_loop [7, 8] (fun z i => ∃ k : Nat, ∃ s : Int, k ≤ n ∧ i = .int .i64 k ∧ z = .int .i64 s ∧ 0 ≤ s ∧ s ≤ 1048576) (fun _ i => n - (intOf i).toNat)
  case atStart => exact ⟨0, _, Nat.zero_le _, rfl, rfl, by omega, by omega⟩
  case round =>
    obtain ⟨k, s, hk, rfl, rfl, q0, q1⟩ := hrel
    by_cases hlt : k < n
    · obtain ⟨b, off, rfl, hc⟩ := s0.2 (by omega)
      obtain ⟨e1, e2, e3⟩ := hc k hlt
      obtain ⟨p1, p2⟩ := hP k hlt
      go_wp2
      all_goals first
        | (go_ret; exact ⟨⟨_, rfl⟩, rfl⟩)
        | (go_round
           case rel => exact ⟨k + 1, _, by omega, by go_num, rfl, by omega, by omega⟩
           case measure => simp [intOf]; omega)
    · go_wp2
      all_goals try (go_ret; exact ⟨⟨_, rfl⟩, rfl⟩)
      go_loop [7, 9] (fun z i => ∃ k : Nat, ∃ s : Int, k ≤ nr ∧ i = .int .i64 k ∧ z = .int .i64 s ∧ 0 ≤ s ∧ s ≤ 1048576) (fun _ i => nr - (intOf i).toNat)
      case atStart => exact ⟨0, _, Nat.zero_le _, rfl, rfl, by omega, by omega⟩
      case round =>
        obtain ⟨k, s, hk, rfl, rfl, q0, q1⟩ := hrel
        by_cases hlt : k < nr
        · obtain ⟨b, off, rfl, hc⟩ := s2.2 (by omega)
          have e1 := hc k hlt
          have p1 := hR k hlt
          go_wp2
          all_goals first
            | (go_ret; exact ⟨⟨_, rfl⟩, rfl⟩)
            | (go_round
               case rel => exact ⟨k + 1, _, by omega, by go_num, rfl, by omega, by omega⟩
               case measure => simp [intOf]; omega)
        · go_wp2
          go_ret
          exact ⟨⟨_, rfl⟩, rfl⟩
end Go.Proofs.Qxb6605443a.fnTakeScript
