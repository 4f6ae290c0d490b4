import Derived.Test.Qxb6605443aBytes
import Derived.Deep.Strs
import Derived.Deep.SlicePairs
import Derived.Deep.Slices
namespace Go.Proofs.Qxb6605443a.fnTakeScript
open Go.ChangeShapes Go.WideShapes Go.ChangeAt Go.RowKit Go.Maps
open Go.Proofs.Qxb6605443a.Own
set_option linter.unusedVariables false

section
variable {H : Type} {enc : TypeId × Value → H} {W : World} {base : Nat} {spare : Nat → Bool} {held : Bool} {fuel : Nat} {a : Option Addr} {n c : Nat} {y : DataW H × List MemPlace}

theorem Try.cells27 : Try.prog.cellsOf 27 = 3 := by kernel_rfl
theorem Try.cells37 : Try.prog.cellsOf 37 = 2 := by kernel_rfl
theorem Try.cells9 : Try.prog.cellsOf 9 = 1 := by kernel_rfl
theorem Try.cells3 : Try.prog.cellsOf 3 = 1 := by kernel_rfl
theorem Try.cells4 : Try.prog.cellsOf 4 = 1 := by kernel_rfl

/-- the slice of entries, opened -/
theorem openE (h : DataW.trod enc Try.prog W base spare held fuel 22 [.slice a n c] = some y) :
    ∃ (Pa Ky : Nat → ByteArray) (Ob : Nat → Int), SeenE W a n Pa Ky Ob ∧ (∀ j, j < n → (Pa j).size ≤ maxLen ∧ (Ky j).size ≤ maxLen) ∧ ∀ j, j < n → (Lit.int .i64 (Ob j)).wf = true := by
  rcases Deep.open_slice Try.underlying22 h with ⟨hcs, _⟩ | ⟨x, len, cap, m, nn, D, Pl, hcs, hb, hl, hm, hmm, _, hx⟩
  · simp at hcs
    obtain ⟨rfl, rfl, rfl⟩ := hcs
    exact ⟨fun _ => .empty, fun _ => .empty, fun _ => 0, ⟨Nat.zero_le _, fun h => absurd h (Nat.lt_irrefl _)⟩, fun j hj => absurd hj (Nat.not_lt_zero _), fun j hj => absurd hj (Nat.not_lt_zero _)⟩
  · simp at hcs
    obtain ⟨rfl, rfl, rfl⟩ := hcs
    have hlm : n ≤ m := by rw [hmm]; split <;> omega
    have each : ∀ i, i < n → ∃ q : ByteArray × ByteArray × Int, W.cell? (x.add (i * 3)) = some (.string q.1) ∧ W.cell? (x.add (i * 3 + 1)) = some (.string q.2.1) ∧ W.cell? (x.add (i * 3 + 2)) = some (.int .i64 q.2.2) ∧ q.1.size ≤ maxLen ∧ q.2.1.size ≤ maxLen ∧ (Lit.int .i64 q.2.2).wf = true := by
      intro i hi
      obtain ⟨cs', h1, h2⟩ := hx i (by omega)
      rw [Try.cells27] at h1
      obtain ⟨_, hlen, hcell⟩ := World.cells?_some h1
      obtain ⟨y0, y1, y2, k, _, _, t0, t1, t2⟩ := Deep.trod_struct3 Try.underlying27 h2
      match cs', hlen with
      | [v0, v1, v2], _ =>
        simp [Try.cells9, Try.cells3] at t0 t1 t2
        obtain ⟨p, ep, _, sp⟩ := DataW.trod_string Try.underlying9 t0
        obtain ⟨r, er, _, sr⟩ := DataW.trod_string Try.underlying9 t1
        obtain ⟨o, eo, _, so⟩ := DataW.trod_int Try.underlying3 t2
        simp at ep er eo
        subst ep er eo
        have e0 := hcell 0 (by omega)
        have e1 := hcell 1 (by omega)
        have e2 := hcell 2 (by omega)
        rw [Deep.add_add] at e0 e1 e2
        exact ⟨(p, r, o), by simpa using e0, by simpa using e1, by simpa using e2, sp, sr, so⟩
    obtain ⟨q, hq⟩ := Deep.choose_lt each
    refine ⟨fun i => (q i).1, fun i => (q i).2.1, fun i => (q i).2.2, ⟨by omega, fun h0 => ?_⟩, fun j hj => ⟨(hq j hj).2.2.2.1, (hq j hj).2.2.2.2.1⟩, fun j hj => (hq j hj).2.2.2.2.2⟩
    obtain ⟨b, off, spot⟩ := x
    have hspot : spot = none := by simpa [Addr.add] using World.cell?_spot (hq 0 h0).1
    subst hspot
    refine ⟨b, off, rfl, fun j hj => ?_⟩
    obtain ⟨k0, k1, k2, _⟩ := hq j hj
    rw [add_plain] at k0 k1 k2
    exact ⟨k0, k1, k2⟩

/-- the slice of taken objects, opened -/
theorem openT (h : DataW.trod enc Try.prog W base spare held fuel 23 [.slice a n c] = some y) :
    ∃ (TO : Nat → Int) (TV : Nat → Bool), SeenT W a n TO TV ∧ ∀ j, j < n → (Lit.int .i64 (TO j)).wf = true := by
  rcases Deep.open_slice Try.underlying23 h with ⟨hcs, _⟩ | ⟨x, len, cap, m, nn, D, Pl, hcs, hb, hl, hm, hmm, _, hx⟩
  · simp at hcs
    obtain ⟨rfl, rfl, rfl⟩ := hcs
    exact ⟨fun _ => 0, fun _ => false, ⟨Nat.zero_le _, fun h => absurd h (Nat.lt_irrefl _)⟩, fun j hj => absurd hj (Nat.not_lt_zero _)⟩
  · simp at hcs
    obtain ⟨rfl, rfl, rfl⟩ := hcs
    have hlm : n ≤ m := by rw [hmm]; split <;> omega
    have each : ∀ i, i < n → ∃ q : Int × Bool, W.cell? (x.add (i * 2)) = some (.int .i64 q.1) ∧ W.cell? (x.add (i * 2 + 1)) = some (.bool q.2) ∧ (Lit.int .i64 q.1).wf = true := by
      intro i hi
      obtain ⟨cs', h1, h2⟩ := hx i (by omega)
      rw [Try.cells37] at h1
      obtain ⟨_, hlen, hcell⟩ := World.cells?_some h1
      obtain ⟨y0, y1, k, _, _, t0, t1⟩ := trod_struct2 Try.underlying37 h2
      match cs', hlen with
      | [v0, v1], _ =>
        simp [Try.cells4, Try.cells3] at t0 t1
        obtain ⟨o, eo, _, so⟩ := DataW.trod_int Try.underlying3 t0
        obtain ⟨v, ev, _⟩ := DataW.trod_bool Try.underlying4 t1
        simp at eo ev
        subst eo ev
        have e0 := hcell 0 (by omega)
        have e1 := hcell 1 (by omega)
        rw [Deep.add_add] at e0 e1
        exact ⟨(o, v), by simpa using e0, by simpa using e1, so⟩
    obtain ⟨q, hq⟩ := Deep.choose_lt each
    refine ⟨fun i => (q i).1, fun i => (q i).2, ⟨by omega, fun h0 => ?_⟩, fun j hj => (hq j hj).2.2⟩
    obtain ⟨b, off, spot⟩ := x
    have hspot : spot = none := by simpa [Addr.add] using World.cell?_spot (hq 0 h0).1
    subst hspot
    refine ⟨b, off, rfl, fun j hj => ?_⟩
    obtain ⟨k0, k1, _⟩ := hq j hj
    rw [add_plain] at k0 k1
    exact ⟨k0, k1⟩

/-- the slice of strings, opened -/
theorem openS (h : DataW.trod enc Try.prog W base spare held fuel 24 [.slice a n c] = some y) :
    ∃ Rd : Nat → ByteArray, Seen W a n (fun j => .string (Rd j)) ∧ ∀ j, j < n → (Rd j).size ≤ maxLen := by
  rcases Deep.open_slice1 Try.underlying24 Try.cells9 h with ⟨hcs, _⟩ | ⟨x, len, cap, m, nn, V, D, Pl, hcs, hb, hl, hm, hmm, _, hx⟩
  · simp at hcs
    obtain ⟨rfl, rfl, rfl⟩ := hcs
    exact ⟨fun _ => .empty, ⟨Nat.zero_le _, fun h => absurd h (Nat.lt_irrefl _)⟩, fun j hj => absurd hj (Nat.not_lt_zero _)⟩
  · simp at hcs
    obtain ⟨rfl, rfl, rfl⟩ := hcs
    have hlm : n ≤ m := by rw [hmm]; split <;> omega
    have each : ∀ i, i < n → ∃ q : ByteArray, W.cell? (x.add i) = some (.string q) ∧ q.size ≤ maxLen := by
      intro i hi
      obtain ⟨h1, h2⟩ := hx i (by omega)
      obtain ⟨p, ep, _, sp⟩ := DataW.trod_string Try.underlying9 h2
      simp at ep
      rw [ep] at h1
      exact ⟨p, h1, sp⟩
    obtain ⟨q, hq⟩ := Deep.choose_lt each
    exact ⟨q, seen_of (Nat.le_refl n) (by omega) (fun i hi => (hq i hi).1), fun j hj => (hq j hj).2⟩
end
end Go.Proofs.Qxb6605443a.fnTakeScript
