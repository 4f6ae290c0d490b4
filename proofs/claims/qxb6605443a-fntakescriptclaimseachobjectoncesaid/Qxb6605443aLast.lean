import Derived.Test.Qxb6605443aPlain
import Derived.Deep.Cut
import Derived.Deep.CutRange
namespace Go.Proofs.Qxb6605443a.fnTakeScript
open Go.ChangeShapes Go.WideShapes Go.ChangeAt Go.RowKit Go.Maps
open Go.Proofs.Qxb6605443a.Own
set_option linter.unusedVariables false

/-! ### The function in parts -/
/-- does the statement begin with region id? -/
def startsAt (id : Nat) : Code → Bool
  | .region i _ _ => i == id
  | .seq a _ => startsAt id a
  | .block _ c => startsAt id c
  | .scope c => startsAt id c
  | .loop c => startsAt id c
  | _ => false
/-- what is left from region id on -/
def dropTo (id : Nat) : Code → Code
  | .seq a b => if startsAt id a then .seq a b else dropTo id b
  | c => c

/-- the first statement, and what follows it -/
def fstC : Code → Code
  | .seq a _ => a
  | c => c
def sndC : Code → Code
  | .seq _ b => b
  | c => c

/-! ### What the last part counts -/
def cntd (Ob : Nat → Int) (C : Int → Option Nat) : Nat → Int → Option Bool
  | 0, _ => none
  | k + 1, o => if Ob k = o ∧ (C o).isSome = true then some true else cntd Ob C k o
theorem cntd_some {Ob : Nat → Int} {C : Int → Option Nat} {o : Int} : ∀ {k : Nat}, (cntd Ob C k o).isSome = true → cntd Ob C k o = some true ∧ (C o).isSome = true
  | k + 1, h => by
    unfold cntd at h ⊢
    split
    · rename_i e; exact ⟨rfl, e.2⟩
    · rename_i e; rw [if_neg e] at h; exact cntd_some h
theorem cntd_of {Ob : Nat → Int} {C : Int → Option Nat} {o : Int} (hc : (C o).isSome = true) : ∀ {k j : Nat}, j < k → Ob j = o → cntd Ob C k o = some true
  | k + 1, j, hj, e => by
    unfold cntd
    split
    · rfl
    · rename_i ne
      by_cases h : j = k
      · subst h; exact absurd ⟨e, hc⟩ ne
      · exact cntd_of hc (by omega) e
theorem cntd_none {Ob : Nat → Int} {C : Int → Option Nat} {k : Nat} (hc : C (Ob k) = none) : cntd Ob C (k + 1) = cntd Ob C k := by
  funext o
  show (if Ob k = o ∧ (C o).isSome = true then some true else cntd Ob C k o) = _
  rw [if_neg]
  rintro ⟨rfl, h⟩
  rw [hc] at h; cases h
theorem cntd_had {Ob : Nat → Int} {C : Int → Option Nat} {k : Nat} (h : cntd Ob C k (Ob k) = some true) : cntd Ob C (k + 1) = cntd Ob C k := by
  funext o
  show (if Ob k = o ∧ (C o).isSome = true then some true else cntd Ob C k o) = _
  split
  · rename_i e; rw [← e.1, h]
  · rfl
theorem cntd_now {Ob : Nat → Int} {C : Int → Option Nat} {k c : Nat} (hc : C (Ob k) = some c) : cntd Ob C (k + 1) (Ob k) = some true ∧ ∀ o, o ≠ Ob k → cntd Ob C (k + 1) o = cntd Ob C k o := by
  constructor
  · show (if Ob k = Ob k ∧ (C (Ob k)).isSome = true then some true else _) = _
    rw [if_pos ⟨rfl, by rw [hc]; rfl⟩]
  · intro o ho
    show (if Ob k = o ∧ (C o).isSome = true then some true else _) = _
    rw [if_neg]
    rintro ⟨e, _⟩
    exact ho e.symm
/-- what is counted: the objects of the list ahead and those claimed among the first k -/
def Cnt (I : Int → Option Bool) (Ob : Nat → Int) (C : Int → Option Nat) (k z : Nat) : Prop :=
  Card (fun v => (boolMap I v).isSome = true ∨ (boolMap (cntd Ob C k) v).isSome = true) z
theorem boolMap_some {f : Int → Option Bool} {v : Value} : (boolMap f v).isSome = true ↔ ∃ o, v = .int .i64 o ∧ (f o).isSome = true := by
  unfold boolMap
  split
  · rename_i o
    constructor
    · intro h; exact ⟨o, rfl, by simpa using h⟩
    · rintro ⟨o', e, h⟩
      cases e
      simpa using h
  · rename_i hne
    constructor
    · intro h; cases h
    · rintro ⟨o, e, _⟩
      exact absurd e (hne o)
theorem Cnt.start {P : Program} {K : TypeId} {w : World} {B q : Nat} {I : Int → Option Bool} (Ob : Nat → Int) (C : Int → Option Nat) (h : MapIs P K w B (boolMap I) q) : Cnt I Ob C 0 q :=
  (MapIs.card h).congr fun v => ⟨.inl, fun h => h.elim id fun h' => by
    obtain ⟨o, _, ho⟩ := boolMap_some.1 h'
    cases ho⟩
theorem Cnt.same {I : Int → Option Bool} {Ob : Nat → Int} {C : Int → Option Nat} {k z : Nat} (h : Cnt I Ob C k z) (e : cntd Ob C (k + 1) = cntd Ob C k) : Cnt I Ob C (k + 1) z := by
  unfold Cnt; rw [e]; exact h
theorem Cnt.had {I : Int → Option Bool} {Ob : Nat → Int} {C : Int → Option Nat} {k z c : Nat} (h : Cnt I Ob C k z) (hc : C (Ob k) = some c) (hi : (I (Ob k)).isSome = true) : Cnt I Ob C (k + 1) z := by
  refine Card.congr h fun v => ?_
  obtain ⟨h1, h2⟩ := cntd_now hc
  simp only [boolMap_some]
  constructor
  · rintro (h | ⟨o, rfl, ho⟩)
    · exact .inl h
    · by_cases e : o = Ob k
      · subst e; exact .inl ⟨_, rfl, hi⟩
      · exact .inr ⟨o, rfl, by rw [h2 o e]; exact ho⟩
  · rintro (h | ⟨o, rfl, ho⟩)
    · exact .inl h
    · by_cases e : o = Ob k
      · subst e; exact .inl ⟨_, rfl, hi⟩
      · exact .inr ⟨o, rfl, by rw [h2 o e] at ho; exact ho⟩
theorem Cnt.new {I : Int → Option Bool} {Ob : Nat → Int} {C : Int → Option Nat} {k z c : Nat} (h : Cnt I Ob C k z) (hc : C (Ob k) = some c) (hi : I (Ob k) = none) (hn : cntd Ob C k (Ob k) = none) : Cnt I Ob C (k + 1) (z + 1) := by
  have hnot : ¬ ((boolMap I (.int .i64 (Ob k))).isSome = true ∨ (boolMap (cntd Ob C k) (.int .i64 (Ob k))).isSome = true) := by
    simp [boolMap, hi, hn]
  refine Card.congr (Card.add h hnot) fun v => ?_
  obtain ⟨h1, h2⟩ := cntd_now hc
  simp only [boolMap_some]
  constructor
  · rintro ((h | ⟨o, rfl, ho⟩) | rfl)
    · exact .inl h
    · by_cases e : o = Ob k
      · subst e; exact .inr ⟨_, rfl, by rw [h1]; rfl⟩
      · exact .inr ⟨o, rfl, by rw [h2 o e]; exact ho⟩
    · exact .inr ⟨_, rfl, by rw [h1]; rfl⟩
  · rintro (h | ⟨o, rfl, ho⟩)
    · exact .inl (.inl h)
    · by_cases e : o = Ob k
      · subst e; exact .inr rfl
      · exact .inl (.inr ⟨o, rfl, by rw [h2 o e] at ho; exact ho⟩)
/-- the count at the end is the map's -/
theorem Cnt.last {P : Program} {K : TypeId} {w : World} {B q n nr z : Nat} {I : Int → Option Bool} {Ob : Nat → Int} {C : Int → Option Nat} (h : Cnt I Ob C n z) (hm : MapIs P K w B (boolMap (tk I C nr)) q)
    (hC : ∀ o c, C o = some c → c < nr ∧ ∃ j, j < n ∧ Ob j = o) : q = z := by
  refine Card.uniq (MapIs.card hm) h fun v => ?_
  simp only [boolMap_some]
  constructor
  · rintro ⟨o, rfl, ho⟩
    cases hc : C o with
    | none =>
      simp only [tk, hc] at ho
      exact .inl ⟨o, rfl, ho⟩
    | some c =>
      obtain ⟨_, j, hj, e⟩ := hC o c hc
      exact .inr ⟨o, rfl, by rw [cntd_of (by rw [hc]; rfl) hj e]; rfl⟩
  · rintro (⟨o, rfl, ho⟩ | ⟨o, rfl, ho⟩)
    · refine ⟨o, rfl, ?_⟩
      cases hc : C o with
      | none => simp only [tk, hc]; exact ho
      | some c => simp [tk, hc, (hC o c hc).1]
    · refine ⟨o, rfl, ?_⟩
      obtain ⟨_, h2⟩ := cntd_some ho
      obtain ⟨c, hc⟩ := Option.isSome_iff_exists.1 h2
      simp [tk, hc, (hC o c hc).1]

theorem law3 : Keyed Try.prog 3 := int_keyed Try.underlying3
theorem law9 : Keyed Try.prog 9 := string_keyed Try.underlying9
theorem zero4 (w : World) : (zeroValue 4).run Try.prog w = .ok (.bool false) w := by kernel_rfl
theorem zero3 (w : World) : (zeroValue 3).run Try.prog w = .ok (.int .i64 0) w := by kernel_rfl
end Go.Proofs.Qxb6605443a.fnTakeScript
