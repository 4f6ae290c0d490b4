import Derived.Test.Qxb6605443aCtx
namespace Go.Proofs.Qxb6605443a.fnTakeScript
open Go.ChangeShapes Go.WideShapes Go.ChangeAt Go.RowKit Go.Maps
open Go.Proofs.Qxb6605443a.Own
set_option linter.unusedVariables false
set_option linter.unusedSimpArgs false

/-- the slice that stands at path p -/
def at_ (M : Value → Option Value) (p : ByteArray) : Value := (M (.string p)).getD (.slice none 0 0)
/-- the map with v at path p -/
def putS (M : Value → Option Value) (p : ByteArray) (v : Value) : Value → Option Value
  | .string s => if s = p then some v else M (.string s)
  | x => M x
theorem putS_same (M : Value → Option Value) (p : ByteArray) (v : Value) : putS M p v (.string p) = some v := by simp [putS]
theorem putS_other (M : Value → Option Value) (p : ByteArray) (v : Value) (k : Value) (h : k ≠ .string p) : putS M p v k = M k := by
  unfold putS
  split
  · rename_i s
    rw [if_neg (fun e => h (by rw [e]))]
  · rfl
theorem at_same (M : Value → Option Value) (p : ByteArray) (v : Value) : at_ (putS M p v) p = v := by unfold at_; rw [putS_same]; rfl
theorem at_other (M : Value → Option Value) (p : ByteArray) (v : Value) (s : ByteArray) (h : s ≠ p) : at_ (putS M p v) s = at_ M s := by
  unfold at_; rw [putS_other _ _ _ _ (fun e => h (by simpa using e))]

/-- The map B holds, at each path, a slice of its own with the entries of the path among the first k. -/
structure Grp (w : World) (base B E sz : Nat) (cells : Nat → List Value) (Pa : Nat → ByteArray) (k : Nat) (M : Value → Option Value) : Prop where
  map : ∃ q, MapIs Try.prog 9 w B M q
  own : ∀ p, w.ownsRow base E sz (at_ M p) (idx Pa k p).length ((idx Pa k p).flatMap cells)
  apart : ∀ p p', p ≠ p' → (at_ M p).ownBlock = none ∨ (at_ M p).ownBlock ≠ (at_ M p').ownBlock

section
variable {w wa w1 w2 : World} {base B E sz k : Nat} {cells : Nat → List Value} {Pa : Nat → ByteArray} {M : Value → Option Value}

theorem Grp.made (w : World) (base E sz : Nat) (cells : Nat → List Value) (Pa : Nat → ByteArray) : Grp (w.alloc (.map #[] 0)) base w.heap.size E sz cells Pa 0 (fun _ => none) where
  map := ⟨0, MapIs.made w⟩
  own := fun p => World.ownsRow_nil _ _ _ _
  apart := fun p p' _ => .inl rfl

/-- other blocks change -/
theorem Grp.far {w' : World} {row : Option Nat} (h : Grp w base B E sz cells Pa k M) (hg : w.grownBy w' row) (hB : some B ≠ row) (hr : ∀ p, (at_ M p).ownBlock = none ∨ (at_ M p).ownBlock ≠ row) : Grp w' base B E sz cells Pa k M where
  map := h.map.imp fun _ x => x.of_block (hg.block B x.lt hB)
  own := fun p => (h.own p).kept hg (hr p)
  apart := h.apart
theorem Grp.grown {w' : World} (h : Grp w base B E sz cells Pa k M) (hg : w.grownBy w' none) : Grp w' base B E sz cells Pa k M :=
  h.far hg (by simp) (fun p => by cases (at_ M p).ownBlock <;> simp)

theorem idx_here (Pa : Nat → ByteArray) (k : Nat) : idx Pa (k + 1) (Pa k) = idx Pa k (Pa k) ++ [k] := by simp [idx]
theorem idx_there {p : ByteArray} (h : p ≠ Pa k) : idx Pa (k + 1) p = idx Pa k p := by simp [idx, Ne.symm h]

/-- one entry more: appended at its path -/
theorem Grp.step (h : Grp w base B E sz cells Pa k M) (h0 : w.grownBy wa none) {v' : Value} {g q' : Nat} (hg1 : wa.grownBy w1 (at_ M (Pa k)).ownBlock)
    (ho : w1.ownsRow base E sz v' ((idx Pa k (Pa k)).length + 1) ((idx Pa k (Pa k)).flatMap cells ++ cells k)) (hv : v'.ownBlock = some g) (hat : (at_ M (Pa k)).ownBlock = some g ∨ w.heap.size ≤ g)
    (hg2 : w1.grownBy w2 (some B)) (hm2 : MapIs Try.prog 9 w2 B (putS M (Pa k) v') q') : Grp w2 base B E sz cells Pa (k + 1) (putS M (Pa k) v') := by
  have ha := h.grown h0
  have hrow : (at_ M (Pa k)).ownBlock = none ∨ (at_ M (Pa k)).ownBlock ≠ some B := by
    obtain ⟨q, hm⟩ := ha.map
    exact row_map (ha.own (Pa k)) hm
  have hB1 : ∃ q, MapIs Try.prog 9 w1 B M q := ha.map.imp fun _ x => x.of_block (hg1.block B x.lt (by
    rcases hrow with e | e
    · rw [e]; simp
    · exact fun e' => e e'.symm))
  obtain ⟨q1, hm1⟩ := hB1
  refine ⟨⟨q', hm2⟩, fun p => ?_, fun p p' hne => ?_⟩
  · by_cases e : p = Pa k
    · subst e
      rw [at_same, idx_here, List.length_append, List.flatMap_append]
      have := ho.kept hg2 (row_map ho hm1)
      simpa using this
    · rw [at_other _ _ _ _ e, idx_there e]
      have o1 := (ha.own p).kept hg1 (ha.apart p (Pa k) e)
      exact o1.kept hg2 (row_map o1 hm1)
  · have lt : ∀ p r, (at_ M p).ownBlock = some r → r < w.heap.size := fun p r hr => ((h.own p).lt r hr).2
    by_cases e : p = Pa k
    · subst e
      rw [at_same, at_other _ _ _ _ (Ne.symm hne), hv]
      right
      rcases hat with ha' | ha'
      · rw [← ha']
        rcases h.apart _ _ hne with x | x
        · rw [x] at ha'; cases ha'
        · exact x
      · intro e'
        have := lt p' g e'.symm
        omega
    · by_cases e2 : p' = Pa k
      · subst e2
        rw [at_same, at_other _ _ _ _ e, hv]
        rcases hat with ha' | ha'
        · rw [← ha']; exact h.apart _ _ e
        · right
          intro e'
          have := lt p g e'
          omega
      · rw [at_other _ _ _ _ e, at_other _ _ _ _ e2]
        exact h.apart _ _ hne
end

/-- AN ENTRY IS APPENDED AND THE MAP WRITTEN: wa is the world ahead of the append: wr with blocks made and orders drawn. -/
theorem Grp.upd {wr wa : World} {base B E sz k T H : Nat} {cells : Nat → List Value} {Pa : Nat → ByteArray} {M : Value → Option Value} (h : Grp wr base B E sz cells Pa k M) (h0 : wr.grownBy wa none) (hH : wr.heap.size ≤ H) (hbase : base ≤ wr.heap.size) (hBb : base ≤ B)
    (hT : Try.prog.underlying T = some (.map 9 32) ∨ Try.prog.underlying T = some (.map 9 42)) (hp : (Pa k).size ≤ maxLen) (g cap : Nat) (w1 : World)
    (ho : w1.ownsRow base E sz (.slice (some ⟨g, 0, none⟩) ((idx Pa k (Pa k)).length + 1) cap) ((idx Pa k (Pa k)).length + 1) ((idx Pa k (Pa k)).flatMap cells ++ cells k)) (hg1 : wa.grownBy w1 (at_ M (Pa k)).ownBlock) (hat : (at_ M (Pa k)).ownBlock = some g ∨ g = H) :
    ∃ w2, (Instr.mapUpdate T (.map (some B)) (.string (Pa k)) (.slice (some ⟨g, 0, none⟩) ((idx Pa k (Pa k)).length + 1) cap)).run Try.prog w1 = .ok () w2 ∧ Below base wr w2 ∧ Grp w2 base B E sz cells Pa (k + 1) (putS M (Pa k) (.slice (some ⟨g, 0, none⟩) ((idx Pa k (Pa k)).length + 1) cap)) ∧
      (∀ j, j < wr.heap.size → j ≠ B → (at_ M (Pa k)).ownBlock ≠ some j → w2.heap[j]? = wr.heap[j]?) ∧ (∀ j, j < wa.heap.size → j ≠ B → (at_ M (Pa k)).ownBlock ≠ some j → w2.heap[j]? = wa.heap[j]?) := by
  have ha := h.grown h0
  have hrow : (at_ M (Pa k)).ownBlock = none ∨ (at_ M (Pa k)).ownBlock ≠ some B := by
    obtain ⟨q, hm⟩ := ha.map
    exact row_map (ha.own (Pa k)) hm
  obtain ⟨q, hm⟩ := ha.map
  have hm1 : MapIs Try.prog 9 w1 B M q := hm.of_block (hg1.block B hm.lt (by
    rcases hrow with e | e
    · rw [e]; simp
    · exact fun e' => e e'.symm))
  have hu : ∃ w2, (Instr.mapUpdate T (.map (some B)) (.string (Pa k)) (.slice (some ⟨g, 0, none⟩) ((idx Pa k (Pa k)).length + 1) cap)).run Try.prog w1 = .ok () w2 ∧ MapIs Try.prog 9 w2 B (putS M (Pa k) (.slice (some ⟨g, 0, none⟩) ((idx Pa k (Pa k)).length + 1) cap)) (if (M (.string (Pa k))).isSome then q else q + 1) ∧ w1.grownBy w2 (some B) ∧ w2.heap.size = w1.heap.size := by
    rcases hT with hT | hT
    · exact MapIs.update law9 hT hm1 (WideMaps.keyOf_string_mk Try.underlying9 hp) (putS_same _ _ _) (fun k hk => putS_other _ _ _ _ hk)
    · exact MapIs.update law9 hT hm1 (WideMaps.keyOf_string_mk Try.underlying9 hp) (putS_same _ _ _) (fun k hk => putS_other _ _ _ _ hk)
  obtain ⟨w2, hrun, hm2, hg2, hs2⟩ := hu
  have hbl : ∀ j, j < wr.heap.size → j ≠ B → (at_ M (Pa k)).ownBlock ≠ some j → w2.heap[j]? = wr.heap[j]? := fun j hj hjB hjo => by
    have l1 := Nat.lt_of_lt_of_le hj h0.size
    have l2 := Nat.lt_of_lt_of_le l1 hg1.size
    rw [hg2.block j l2 (by simpa using hjB), hg1.block j l1 (Ne.symm hjo), h0.block j hj (by simp)]
  refine ⟨w2, hrun, ⟨?_, ?_, ?_, ?_, ?_⟩, h.step h0 hg1 ho rfl (hat.imp id (fun (e : g = H) => (by rw [e]; exact hH : wr.heap.size ≤ g))) hg2 hm2, hbl, fun j hj hjB hjo => (hg2.block j (Nat.lt_of_lt_of_le hj hg1.size) (by simpa using hjB)).trans (hg1.block j hj (Ne.symm hjo))⟩
  · rw [hg2.os, hg1.os, h0.os]
  · rw [hg2.tape, hg1.tape, h0.tape]
  · rw [hg2.output, hg1.output, h0.output]
  · exact Nat.le_trans h0.size (Nat.le_trans hg1.size hg2.size)
  · intro j hj
    refine hbl j (by omega) (by omega) (fun e => ?_)
    have := ((h.own (Pa k)).lt j e).1
    omega

theorem clm_succ {Pa : Nat → ByteArray} {Ob : Nat → Int} {I : Int → Option Bool} {F : ByteArray → Option Nat} {k : Nat} (o : Int) : clm Pa Ob I F (k + 1) o = if Ob k = o then (if I o = some true then clm Pa Ob I F k o else match F (Pa k) with
      | none => clm Pa Ob I F k o
      | some s => match clm Pa Ob I F k o with
        | none => some s
        | some c => if s < c then some s else some c) else clm Pa Ob I F k o := rfl
theorem clm_keep {Pa : Nat → ByteArray} {Ob : Nat → Int} {I : Int → Option Bool} {F : ByteArray → Option Nat} {k : Nat} (h : I (Ob k) = some true ∨ F (Pa k) = none ∨ ∃ s c, F (Pa k) = some s ∧ clm Pa Ob I F k (Ob k) = some c ∧ ¬ s < c) : clm Pa Ob I F (k + 1) = clm Pa Ob I F k := by
  funext o
  rw [clm_succ]
  split
  · rename_i e
    subst e
    split
    · rfl
    · rename_i hI
      rcases h with h | h | ⟨s, c, h1, h2, h3⟩
      · exact absurd h hI
      · rw [h]
      · rw [h1, h2]; simp [h3]
  · rfl
theorem clm_put {Pa : Nat → ByteArray} {Ob : Nat → Int} {I : Int → Option Bool} {F : ByteArray → Option Nat} {k s : Nat} (hI : I (Ob k) ≠ some true) (hF : F (Pa k) = some s) (h : clm Pa Ob I F k (Ob k) = none ∨ ∃ c, clm Pa Ob I F k (Ob k) = some c ∧ s < c) :
    clm Pa Ob I F (k + 1) (Ob k) = some s ∧ ∀ o, o ≠ Ob k → clm Pa Ob I F (k + 1) o = clm Pa Ob I F k o := by
  constructor
  · rw [clm_succ, if_pos rfl, if_neg hI, hF]
    rcases h with h | ⟨c, h, h'⟩
    · rw [h]
    · rw [h]; simp [h']
  · intro o ho
    rw [clm_succ, if_neg (Ne.symm ho)]
/-- the map of the claims is written: the groups stand -/
theorem after41 {w wc w3 : World} {E sz k q : Nat} {cells : Nat → List Value} {Pa : Nat → ByteArray} {M m : Value → Option Value} (hb : Below w.heap.size w wc) (hG : Grp wc w.heap.size w.heap.size E sz cells Pa k M) (hm : MapIs Try.prog 3 wc (w.heap.size + 1) m q) (hg : wc.grownBy w3 (some (w.heap.size + 1))) :
    Below w.heap.size w w3 ∧ Grp w3 w.heap.size w.heap.size E sz cells Pa k M :=
  ⟨hb.grown hg hb.size (fun j hj => by cases hj; omega), hG.far hg (by simp) (fun p => row_map (hG.own p) hm)⟩
theorem flat_one {α : Type} (f : Nat → α) : ∀ (l : List Nat) (j : Nat), j < l.length → (l.flatMap fun i => [f i])[j]? = some (f (l.getD j 0))
  | x :: l, 0, _ => by simp
  | x :: l, j + 1, h => by
    have := flat_one f l j (by simpa using h)
    simpa using this
theorem flat_two {α : Type} (f g : Nat → α) : ∀ (l : List Nat) (j : Nat), j < l.length → (l.flatMap fun i => [f i, g i])[j * 2]? = some (f (l.getD j 0)) ∧ (l.flatMap fun i => [f i, g i])[j * 2 + 1]? = some (g (l.getD j 0))
  | x :: l, 0, _ => by simp
  | x :: l, j + 1, h => by
    have := flat_two f g l j (by simpa using h)
    have e1 : (j + 1) * 2 = j * 2 + 1 + 1 := by omega
    rw [e1]
    simpa using this
theorem Grp.seenI {w : World} {base B n : Nat} {Pa : Nat → ByteArray} {M : Value → Option Value} (h : Grp w base B 3 1 (fun i => [.int .i64 (i : Nat)]) Pa n M) (hn : n ≤ 65536) (p : ByteArray) :
    ∃ a c, (M (.string p)).getD (.slice none 0 0) = .slice a (idx Pa n p).length c ∧ Seen w a (idx Pa n p).length (fun j => .int .i64 (gi Pa n p j : Nat)) := by
  have hl := idx_len Pa p n
  obtain ⟨a, c, h1, h2, _⟩ := own_seen (V := fun j => .int .i64 (gi Pa n p j : Nat)) (h.own p) (by unfold maxLen; omega) (fun j hj => flat_one (fun i => Value.int .i64 (i : Nat)) _ _ hj)
  exact ⟨a, c, h1, h2⟩
theorem Grp.seenR {w : World} {base B n : Nat} {Pa Ky : Nat → ByteArray} {Ob : Nat → Int} {M : Value → Option Value} (h : Grp w base B 34 2 (fun i => [.string (Ky i), .int .i64 (Ob i)]) Pa n M) (p : ByteArray) :
    ∃ a c, (M (.string p)).getD (.slice none 0 0) = .slice a (idx Pa n p).length c ∧ SeenR w a (idx Pa n p).length (fun j => Ky (gi Pa n p j)) (fun j => Ob (gi Pa n p j)) := by
  have ho := h.own p
  have hcell := fun (g : Nat) (hg : (at_ M p).ownBlock = some g) => ho.cells hg
  rcases ho.2 with ⟨h1, h2⟩ | ⟨g, cap, cur, hv, _⟩
  · refine ⟨none, 0, ?_, fun hp => by omega⟩
    rw [h2]; exact h1
  · refine ⟨some ⟨g, 0, none⟩, cap, hv, fun _ => ⟨g, 0, rfl, fun j hj => ?_⟩⟩
    obtain ⟨x1, x2⟩ := flat_two (fun i => Value.string (Ky i)) (fun i => Value.int .i64 (Ob i)) _ _ hj
    have c1 := hcell g (by rw [hv]; rfl) _ _ x1
    have c2 := hcell g (by rw [hv]; rfl) _ _ x2
    rw [add_plain] at c1 c2
    exact ⟨c1, c2⟩
end Go.Proofs.Qxb6605443a.fnTakeScript
