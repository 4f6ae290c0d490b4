import Derived.Test.Qxb6605443aGroups
namespace Go.Proofs.Qxb6605443a.fnTakeScript
open Go.ChangeShapes Go.WideShapes Go.ChangeAt Go.RowKit Go.Maps
open Go.Proofs.Qxb6605443a.Own
set_option linter.unusedVariables false

theorem fstR_keep {Rd : Nat → ByteArray} {k s : Nat} (h : fstR Rd k (Rd k) = some s) : fstR Rd (k + 1) = fstR Rd k := by
  funext p
  show (match fstR Rd k p with | some t => some t | none => if Rd k = p then some k else none) = _
  cases e : fstR Rd k p with
  | some t => rfl
  | none =>
    by_cases ek : Rd k = p
    · subst ek; rw [h] at e; cases e
    · simp [ek]
theorem fstR_put {Rd : Nat → ByteArray} {k : Nat} (h : fstR Rd k (Rd k) = none) : fstR Rd (k + 1) (Rd k) = some k ∧ ∀ p, p ≠ Rd k → fstR Rd (k + 1) p = fstR Rd k p := by
  constructor
  · show (match fstR Rd k (Rd k) with | some t => some t | none => if Rd k = Rd k then some k else none) = _
    rw [h]; simp
  · intro p hp
    show (match fstR Rd k p with | some t => some t | none => if Rd k = p then some k else none) = _
    cases e : fstR Rd k p with
    | some t => rfl
    | none => simp [Ne.symm hp]
theorem ini_put (TO : Nat → Int) (TV : Nat → Bool) (k : Nat) : ini TO TV (k + 1) (TO k) = some (TV k) ∧ ∀ o, o ≠ TO k → ini TO TV (k + 1) o = ini TO TV k o := by
  constructor
  · show (if TO k = TO k then some (TV k) else _) = _
    simp
  · intro o ho
    show (if TO k = o then some (TV k) else _) = _
    rw [if_neg (Ne.symm ho)]
theorem ini_some (TO : Nat → Int) (TV : Nat → Bool) : ∀ {k j : Nat}, j < k → (ini TO TV k (TO j)).isSome = true
  | k + 1, j, hj => by
    show (if TO k = TO j then some (TV k) else _).isSome = true
    split
    · rfl
    · rename_i ne
      have : j ≠ k := fun e => ne (by rw [e])
      exact ini_some TO TV (by omega)
theorem ini_start (TO : Nat → Int) (TV : Nat → Bool) (v : Value) : boolMap (ini TO TV 0) v = none := by
  unfold boolMap ini
  cases v <;> simp <;> split <;> simp
theorem fstR_start (Rd : Nat → ByteArray) (v : Value) : strMap (fstR Rd 0) v = none := by
  unfold strMap fstR
  cases v <;> simp
end Go.Proofs.Qxb6605443a.fnTakeScript
