import Derived.Test.Qxb6605443aCopies
namespace Go.Proofs.Qxb6605443a.fnTakeScript
open Go.ChangeShapes Go.WideShapes Go.ChangeAt Go.RowKit Go.Maps
open Go.Proofs.Qxb6605443a.Own
set_option linter.unusedVariables false

/-! ### The plain functions -/
/-- what the taken list says of object o (a later entry wins) -/
def ini (TO : Nat → Int) (TV : Nat → Bool) : Nat → Int → Option Bool
  | 0, _ => none
  | k + 1, o => if TO k = o then some (TV k) else ini TO TV k o
/-- the first of the first k reads that reads p -/
def fstR (Rd : Nat → ByteArray) : Nat → ByteArray → Option Nat
  | 0, _ => none
  | k + 1, p => match fstR Rd k p with
    | some t => some t
    | none => if Rd k = p then some k else none
/-- at which step object o is claimed, by the first k entries -/
def clm (Pa : Nat → ByteArray) (Ob : Nat → Int) (I : Int → Option Bool) (F : ByteArray → Option Nat) : Nat → Int → Option Nat
  | 0, _ => none
  | k + 1, o => if Ob k = o then (if I o = some true then clm Pa Ob I F k o else match F (Pa k) with
      | none => clm Pa Ob I F k o
      | some s => match clm Pa Ob I F k o with
        | none => some s
        | some c => if s < c then some s else some c) else clm Pa Ob I F k o
/-- the entries at p among the first k -/
def idx (Pa : Nat → ByteArray) : Nat → ByteArray → List Nat
  | 0, _ => []
  | k + 1, p => idx Pa k p ++ (if Pa k = p then [k] else [])
/-- what the map of taken objects says ahead of step t -/
def tk (I : Int → Option Bool) (C : Int → Option Nat) (t : Nat) (o : Int) : Option Bool :=
  match C o with
  | some c => if c < t then some true else I o
  | none => I o

/-! ### The maps as functions of values -/
def boolMap (f : Int → Option Bool) : Value → Option Value
  | .int .i64 o => (f o).map Value.bool
  | _ => none
def natMap (f : Int → Option Nat) : Value → Option Value
  | .int .i64 o => (f o).map (fun t => Value.int .i64 (t : Int))
  | _ => none
def strMap (f : ByteArray → Option Nat) : Value → Option Value
  | .string p => (f p).map (fun t => Value.int .i64 (t : Int))
  | _ => none

theorem boolMap_put {f g : Int → Option Bool} {o : Int} {b : Bool} (h1 : g o = some b) (h2 : ∀ x, x ≠ o → g x = f x) :
    boolMap g (.int .i64 o) = some (.bool b) ∧ ∀ k, k ≠ .int .i64 o → boolMap g k = boolMap f k := by
  refine ⟨by simp [boolMap, h1], fun k hk => ?_⟩
  unfold boolMap
  split
  · rw [h2 _ (fun e => hk (by rw [e]))]
  · rfl
theorem natMap_put {f g : Int → Option Nat} {o : Int} {b : Nat} (h1 : g o = some b) (h2 : ∀ x, x ≠ o → g x = f x) :
    natMap g (.int .i64 o) = some (.int .i64 (b : Int)) ∧ ∀ k, k ≠ .int .i64 o → natMap g k = natMap f k := by
  refine ⟨by simp [natMap, h1], fun k hk => ?_⟩
  unfold natMap
  split
  · rw [h2 _ (fun e => hk (by rw [e]))]
  · rfl
theorem strMap_put {f g : ByteArray → Option Nat} {o : ByteArray} {b : Nat} (h1 : g o = some b) (h2 : ∀ x, x ≠ o → g x = f x) :
    strMap g (.string o) = some (.int .i64 (b : Int)) ∧ ∀ k, k ≠ .string o → strMap g k = strMap f k := by
  refine ⟨by simp [strMap, h1], fun k hk => ?_⟩
  unfold strMap
  split
  · rw [h2 _ (fun e => hk (by rw [e]))]
  · rfl

/-! ### How many keys -/
/-- n different values meet S, and no others -/
def Card (S : Value → Prop) (n : Nat) : Prop := ∃ l : List Value, l.Nodup ∧ l.length = n ∧ ∀ v, v ∈ l ↔ S v
theorem Card.uniq {S S' : Value → Prop} {n n' : Nat} (h : Card S n) (h' : Card S' n') (e : ∀ v, S v ↔ S' v) : n = n' := by
  obtain ⟨l, hd, hl, hm⟩ := h
  obtain ⟨l', hd', hl', hm'⟩ := h'
  have hp : l.Perm l' := (List.perm_ext_iff_of_nodup hd hd').2 (fun v => (hm v).trans ((e v).trans (hm' v).symm))
  rw [← hl, ← hl', hp.length_eq]
theorem Card.congr {S S' : Value → Prop} {n : Nat} (h : Card S n) (e : ∀ v, S v ↔ S' v) : Card S' n := by
  obtain ⟨l, hd, hl, hm⟩ := h
  exact ⟨l, hd, hl, fun v => (hm v).trans (e v)⟩
theorem Card.add {S : Value → Prop} {n : Nat} (h : Card S n) {x : Value} (hx : ¬ S x) : Card (fun v => S v ∨ v = x) (n + 1) := by
  obtain ⟨l, hd, hl, hm⟩ := h
  refine ⟨x :: l, List.nodup_cons.2 ⟨fun hx' => hx ((hm x).1 hx'), hd⟩, by simp [hl], fun v => ?_⟩
  rw [List.mem_cons, hm v]
  exact ⟨fun h => h.elim .inr .inl, fun h => h.elim .inr .inl⟩
theorem MapIs.card {P : Program} {K : TypeId} {w : World} {B n : Nat} {m : Value → Option Value} (h : MapIs P K w B m n) : Card (fun v => (m v).isSome = true) n := by
  obtain ⟨es, clock, hb, hn, hk, hd, hv, hc⟩ := h
  refine ⟨es.toList.map (·.key), List.pairwise_map.2 hd, by simpa using hn, fun v => ?_⟩
  rw [List.mem_map]
  constructor
  · rintro ⟨x, hx, rfl⟩
    rw [hv x hx]; rfl
  · intro hs
    obtain ⟨u, hu⟩ := Option.isSome_iff_exists.1 hs
    exact hc v u hu

/-! ### The laws -/
theorem fstR_some {Rd : Nat → ByteArray} {p : ByteArray} : ∀ {k s : Nat}, fstR Rd k p = some s → s < k ∧ Rd s = p ∧ ∀ t, t < s → Rd t ≠ p
  | k + 1, s, h => by
    unfold fstR at h
    split at h
    · rename_i t ht
      cases h
      obtain ⟨h1, h2, h3⟩ := fstR_some ht
      exact ⟨by omega, h2, h3⟩
    · rename_i ht
      split at h
      · rename_i e
        cases h
        refine ⟨by omega, e, fun t hlt e' => ?_⟩
        exact fstR_none ht t hlt e'
      · cases h
where
  fstR_none {Rd : Nat → ByteArray} {p : ByteArray} : ∀ {k : Nat}, fstR Rd k p = none → ∀ t, t < k → Rd t ≠ p
    | k + 1, h, t, ht => by
      unfold fstR at h
      split at h
      · cases h
      · rename_i h'
        split at h
        · cases h
        · rename_i ne
          by_cases e : t = k
          · subst e; exact ne
          · exact fstR_none h' t (by omega)
theorem fstR_read {Rd : Nat → ByteArray} {p : ByteArray} {k t : Nat} (ht : t < k) (e : Rd t = p) : ∃ s, s ≤ t ∧ fstR Rd k p = some s := by
  cases h : fstR Rd k p with
  | none => exact absurd e (fstR_some.fstR_none h t ht)
  | some s =>
    obtain ⟨_, _, h3⟩ := fstR_some h
    refine ⟨s, ?_, rfl⟩
    rcases Nat.lt_or_ge t s with hlt | hge
    · exact absurd e (h3 t hlt)
    · exact hge

theorem clm_some {Pa : Nat → ByteArray} {Ob : Nat → Int} {I : Int → Option Bool} {F : ByteArray → Option Nat} {o : Int} : ∀ {k s : Nat}, clm Pa Ob I F k o = some s → I o ≠ some true ∧ ∃ i, i < k ∧ Ob i = o ∧ F (Pa i) = some s
  | k + 1, s, h => by
    have lift : clm Pa Ob I F k o = some s → I o ≠ some true ∧ ∃ i, i < k + 1 ∧ Ob i = o ∧ F (Pa i) = some s := fun h' => by
      obtain ⟨h1, i, hi, r⟩ := clm_some h'
      exact ⟨h1, i, by omega, r⟩
    unfold clm at h
    split at h
    · rename_i e
      split at h
      · exact lift h
      · rename_i hne
        split at h
        · exact lift h
        · rename_i s' hs'
          split at h
          · cases h; exact ⟨hne, k, by omega, e, hs'⟩
          · rename_i c hc
            split at h
            · cases h; exact ⟨hne, k, by omega, e, hs'⟩
            · cases h; exact lift hc
    · exact lift h
theorem clm_le {Pa : Nat → ByteArray} {Ob : Nat → Int} {I : Int → Option Bool} {F : ByteArray → Option Nat} {o : Int} (hI : I o ≠ some true) : ∀ {k i s : Nat}, i < k → Ob i = o → F (Pa i) = some s → ∃ c, c ≤ s ∧ clm Pa Ob I F k o = some c
  | k + 1, i, s, hi, e, hs => by
    by_cases hik : i = k
    · subst hik
      unfold clm
      rw [if_pos e, if_neg hI, hs]
      cases hc : clm Pa Ob I F i o with
      | none => exact ⟨s, Nat.le_refl _, rfl⟩
      | some c =>
        by_cases hlt : s < c
        · exact ⟨s, Nat.le_refl _, by simp [hlt]⟩
        · exact ⟨c, by omega, by simp [hlt]⟩
    · obtain ⟨c, hc1, hc2⟩ := clm_le hI (k := k) (by omega) e hs
      unfold clm
      split
      · split
        · exact ⟨c, hc1, hc2⟩
        · rename_i s' _
          rw [hc2]
          by_cases hlt : s' < c
          · exact ⟨s', by omega, by simp [hlt]⟩
          · exact ⟨c, hc1, by simp [hlt]⟩
      · exact ⟨c, hc1, hc2⟩

/-- THE PLAIN LAW at a step that reads p for the first time. -/
theorem claimed_now {Pa : Nat → ByteArray} {Ob : Nat → Int} {I : Int → Option Bool} {F : ByteArray → Option Nat} {n i t : Nat} (hi : i < n) (hF : F (Pa i) = some t) :
    tk I (clm Pa Ob I F n) t (Ob i) = some true ↔ clm Pa Ob I F n (Ob i) ≠ some t := by
  unfold tk
  cases hc : clm Pa Ob I F n (Ob i) with
  | none =>
    have : I (Ob i) = some true := by
      cases hI : decide (I (Ob i) = some true) with
      | true => simpa using hI
      | false =>
        obtain ⟨c, _, h⟩ := clm_le (Pa := Pa) (F := F) (by simpa using hI) hi rfl hF
        rw [hc] at h; cases h
    simp [this]
  | some c =>
    obtain ⟨hI, _⟩ := clm_some hc
    obtain ⟨c', h1, h2⟩ := clm_le (Pa := Pa) (F := F) hI hi rfl hF
    rw [hc] at h2
    cases h2
    by_cases hlt : c < t
    · have : c ≠ t := by omega
      simp [hlt, this]
    · have : c = t := by omega
      subst this
      simp [hI]
/-- .. and at one that reads it again. -/
theorem claimed_before {Pa : Nat → ByteArray} {Ob : Nat → Int} {I : Int → Option Bool} {F : ByteArray → Option Nat} {n i s t : Nat} (hi : i < n) (hF : F (Pa i) = some s) (hst : s < t) :
    tk I (clm Pa Ob I F n) t (Ob i) = some true := by
  unfold tk
  cases hI : decide (I (Ob i) = some true) with
  | true =>
    have hI' : I (Ob i) = some true := by simpa using hI
    cases hc : clm Pa Ob I F n (Ob i) with
    | none => exact hI'
    | some c => exact absurd hI' (clm_some hc).1
  | false =>
    obtain ⟨c, h1, h2⟩ := clm_le (Pa := Pa) (F := F) (by simpa using hI) hi rfl hF
    rw [h2]
    have : c < t := by omega
    simp [this]
end Go.Proofs.Qxb6605443a.fnTakeScript
