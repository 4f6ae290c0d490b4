import Derived.Test.Qxb6605443aRows
import Derived.WalkKit
import Derived.ProofKit
import Derived.OpenShut
import Derived.WalkSpells
import Derived.Deep.OwnRows
import Derived.Deep.QuietTactic
import Derived.BigQuiet
namespace Go.Proofs.Qxb6605443a.Own
open Go.ChangeShapes Go.WideShapes Go.ChangeAt Go.RowKit
set_option linter.unusedVariables false

/-- What a walk is told of a slice that came in, one cell an element: where it has elements it leads to their cells. -/
def Seen (w : World) (a : Option Addr) (n : Nat) (V : Nat → Value) : Prop :=
  n ≤ maxLen ∧ (0 < n → ∃ b off, a = some ⟨b, off, none⟩ ∧ ∀ j, j < n → w.cell? ⟨b, off + j, none⟩ = some (V j))

theorem seen_of {w : World} {x : Addr} {n c : Nat} {V : Nat → Value} (hn : n ≤ c) (hm : c ≤ maxLen) (h : ∀ i, i < c → w.cell? (x.add i) = some (V i)) : Seen w (some x) n V := by
  refine ⟨Nat.le_trans hn hm, fun h0 => ?_⟩
  obtain ⟨b, off, spot⟩ := x
  have hspot : spot = none := by simpa [Addr.add] using World.cell?_spot (h 0 (by omega))
  subst hspot
  exact ⟨b, off, rfl, fun j hj => by rw [← add_plain]; exact h j (by omega)⟩

theorem below_row {B : Nat} {w w' : World} (h : Below B w w') {b t n : Nat} {f : Nat → Value} (r : w.rowIs b t n f) (hb : b < B) : w'.rowIs b t n f := r.of_block (h.block b hb)

theorem below_drewN {B : Nat} {a w : World} (h : Below B a w) (n : Nat) : Below B a (w.drewN n) := h.trans ⟨rfl, rfl, rfl, Nat.le_refl _, fun _ _ => rfl⟩

/-- The first k cells hold V, the rest z. -/
def part (V : Nat → Value) (z : Value) (k j : Nat) : Value := if j < k then V j else z

theorem part_start {w : World} {n : Nat} {t : TypeId} {z : Value} (V : Nat → Value) : (w.alloc (.cells (madeCells #[z] n) t)).rowIs w.heap.size t n (part V z 0) :=
  (World.rowIs_made w z n t).congr fun i _ => by simp [part]

theorem part_step {w : World} {b n k : Nat} {t : TypeId} {z : Value} {V : Nat → Value} (h : w.rowIs b t n (part V z k)) : (w.setCell ⟨b, k, none⟩ (V k)).rowIs b t n (part V z (k + 1)) :=
  (h.set k (V k)).congr fun i _ => by
    simp only [part]
    by_cases e : i = k
    · subst e; simp
    · by_cases l : i < k
      · have : i < k + 1 := by omega
        simp [e, l, this]
      · have : ¬ i < k + 1 := by omega
        simp [e, l, this]

theorem part_full {w : World} {b n : Nat} {t : TypeId} {z : Value} {V : Nat → Value} (h : w.rowIs b t n (part V z n)) : w.rowIs b t n V :=
  h.congr fun i hi => by simp [part, hi]

end Go.Proofs.Qxb6605443a.Own
