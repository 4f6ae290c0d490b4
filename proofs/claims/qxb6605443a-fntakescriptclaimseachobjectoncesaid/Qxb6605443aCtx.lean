import Derived.Test.Qxb6605443aTake
namespace Go.Proofs.Qxb6605443a.fnTakeScript
open Go.ChangeShapes Go.WideShapes Go.ChangeAt Go.RowKit Go.Maps
open Go.Proofs.Qxb6605443a.Own
set_option linter.unusedVariables false
set_option linter.unusedSimpArgs false

theorem kp_mem {f : Int → Option Bool} {OO : Nat → Int} {j : Nat} : ∀ {k}, j ∈ kp f OO k ↔ j < k ∧ f (OO j) ≠ some true
  | 0 => by simp [kp]
  | k + 1 => by
    simp only [kp, List.mem_append, kp_mem (k := k)]
    by_cases hf : f (OO k) = some true
    · rw [if_pos hf]
      simp only [List.not_mem_nil, or_false]
      constructor
      · rintro ⟨h1, h2⟩; exact ⟨by omega, h2⟩
      · rintro ⟨h1, h2⟩
        by_cases e : j = k
        · subst e; exact absurd hf h2
        · exact ⟨by omega, h2⟩
    · rw [if_neg hf]
      simp only [List.mem_singleton]
      constructor
      · rintro (⟨h1, h2⟩ | rfl)
        · exact ⟨by omega, h2⟩
        · exact ⟨by omega, hf⟩
      · rintro ⟨h1, h2⟩
        by_cases e : j = k
        · exact .inr e
        · exact .inl ⟨by omega, h2⟩
theorem idx_mem {Pa : Nat → ByteArray} {p : ByteArray} {i : Nat} : ∀ {n}, i ∈ idx Pa n p ↔ i < n ∧ Pa i = p
  | 0 => by simp [idx]
  | n + 1 => by
    simp only [idx, List.mem_append, idx_mem (n := n)]
    by_cases hf : Pa n = p
    · rw [if_pos hf]
      simp only [List.mem_singleton]
      constructor
      · rintro (⟨h1, h2⟩ | rfl)
        · exact ⟨by omega, h2⟩
        · exact ⟨by omega, hf⟩
      · rintro ⟨h1, h2⟩
        by_cases e : i = n
        · exact .inr e
        · exact .inl ⟨by omega, h2⟩
    · rw [if_neg hf]
      simp only [List.not_mem_nil, or_false]
      constructor
      · rintro ⟨h1, h2⟩; exact ⟨by omega, h2⟩
      · rintro ⟨h1, h2⟩
        by_cases e : i = n
        · subst e; exact absurd h2 hf
        · exact ⟨by omega, h2⟩
theorem idx_len (Pa : Nat → ByteArray) (p : ByteArray) : ∀ n, (idx Pa n p).length ≤ n
  | 0 => Nat.le_refl _
  | n + 1 => by have := idx_len Pa p n; simp only [idx, List.length_append]; split <;> simp <;> omega
/-- the group's member j -/
def gi (Pa : Nat → ByteArray) (n : Nat) (p : ByteArray) (j : Nat) : Nat := (idx Pa n p).getD j 0
theorem gi_lt {Pa : Nat → ByteArray} {n j : Nat} {p : ByteArray} (hj : j < (idx Pa n p).length) : gi Pa n p j < n ∧ Pa (gi Pa n p j) = p := by
  unfold gi
  rw [List.getD_eq_getElem?_getD, List.getElem?_eq_getElem hj]
  exact idx_mem.1 (List.getElem_mem hj)

section
variable {Pa Rd : Nat → ByteArray} {Ob : Nat → Int} {I : Int → Option Bool} {n nr t : Nat}

theorem now_iff {j : Nat} (hj : j < (idx Pa n (Rd t)).length) (hF : fstR Rd nr (Rd t) = some t) :
    tk I (clm Pa Ob I (fstR Rd nr) n) t (Ob (gi Pa n (Rd t) j)) = some true ↔ clm Pa Ob I (fstR Rd nr) n (Ob (gi Pa n (Rd t) j)) ≠ some t := by
  obtain ⟨h1, h2⟩ := gi_lt hj
  exact claimed_now h1 (by rw [h2]; exact hF)
theorem before_empty {s : Nat} (hF : fstR Rd nr (Rd t) = some s) (hs : s < t) :
    ∀ k, k ≤ (idx Pa n (Rd t)).length → kp (tk I (clm Pa Ob I (fstR Rd nr) n) t) (fun j => Ob (gi Pa n (Rd t) j)) k = []
  | 0, _ => rfl
  | k + 1, hk => by
    obtain ⟨h1, h2⟩ := gi_lt (Pa := Pa) (n := n) (p := Rd t) (j := k) (by omega)
    have hyes : tk I (clm Pa Ob I (fstR Rd nr) n) t ((fun j => Ob (gi Pa n (Rd t) j)) k) = some true := claimed_before h1 (by rw [h2]; exact hF) hs
    rw [kp_no (f := tk I (clm Pa Ob I (fstR Rd nr) n) t) (OO := fun j => Ob (gi Pa n (Rd t) j)) (k := k) hyes]
    exact before_empty hF hs k (by omega)
theorem step_tk (ht : t < nr) :
    marked (tk I (clm Pa Ob I (fstR Rd nr) n) t) ((kp (tk I (clm Pa Ob I (fstR Rd nr) n) t) (fun j => Ob (gi Pa n (Rd t) j)) (idx Pa n (Rd t)).length).map (fun j => Ob (gi Pa n (Rd t) j))) = tk I (clm Pa Ob I (fstR Rd nr) n) (t + 1) := by
  funext o
  unfold marked
  split
  · rename_i hm
    obtain ⟨j, hj, rfl⟩ := List.mem_map.1 hm
    obtain ⟨hjl, hne⟩ := kp_mem.1 hj
    obtain ⟨h1, h2⟩ := gi_lt hjl
    obtain ⟨s, hs, hF⟩ := fstR_read (Rd := Rd) (p := Rd t) ht rfl
    rcases Nat.lt_or_ge s t with hlt | hge
    · exact absurd (claimed_before h1 (by rw [h2]; exact hF) hlt) hne
    · obtain rfl : s = t := by omega
      have hc : clm Pa Ob I (fstR Rd nr) n (Ob (gi Pa n (Rd s) j)) = some s := by
        cases hd : decide (clm Pa Ob I (fstR Rd nr) n (Ob (gi Pa n (Rd s) j)) = some s) with
        | true => simpa using hd
        | false => exact absurd ((now_iff hjl hF).2 (by simpa using hd)) hne
      show some true = tk I _ (s + 1) _
      simp only [tk, hc]
      rw [if_pos (by omega)]
  · rename_i hm
    show tk I _ t o = tk I _ (t + 1) o
    cases hc : clm Pa Ob I (fstR Rd nr) n o with
    | none => simp only [tk, hc]
    | some c =>
      simp only [tk, hc]
      by_cases e : c = t
      · subst e
        obtain ⟨hI, i, hi, hio, hF⟩ := clm_some hc
        obtain ⟨_, hR, _⟩ := fstR_some hF
        have hmem : i ∈ idx Pa n (Rd c) := idx_mem.2 ⟨hi, hR.symm⟩
        obtain ⟨j, hj, hji⟩ := List.getElem_of_mem hmem
        have hg : gi Pa n (Rd c) j = i := by
          unfold gi
          rw [List.getD_eq_getElem?_getD, List.getElem?_eq_getElem hj]
          exact hji
        refine absurd (List.mem_map.2 ⟨j, kp_mem.2 ⟨hj, ?_⟩, ?_⟩) hm
        · simp only [hg, hio, tk, hc]
          rw [if_neg (Nat.lt_irrefl _)]
          exact hI
        · simp only [hg]; exact hio
      · by_cases hlt : c < t
        · rw [if_pos hlt, if_pos (by omega)]
        · rw [if_neg hlt, if_neg (by omega)]
theorem tk_zero (C : Int → Option Nat) : tk I C 0 = I := funext fun o => by
  unfold tk; split <;> simp
end

theorem cell_one_new2 (w : World) (o : Obj) (v : Value) (t : TypeId) : ∀ j u, [v][j]? = some u → ((w.alloc o).alloc (.cells #[v] t)).cell? ((⟨w.heap.size + 1, 0, none⟩ : Addr).add j) = some u := by
  have h := cell_one_new (w.alloc o) v t
  have e : (w.alloc o).heap.size = w.heap.size + 1 := by simp
  rw [e] at h
  exact h

/-- What part C is told of the world: all but the map of the taken. -/
structure Ctx (w : World) (B10 B15 B17 B21 B22 B13 n nt nr : Nat) (a0 a1 a2 : Option Addr) (Pa Ky Rd : Nat → ByteArray) (Ob TO : Nat → Int) (TV : Nat → Bool) (I : Int → Option Bool) (M10 M21 : Value → Option Value) : Prop where
  s0 : SeenE w a0 n Pa Ky Ob
  s1 : SeenT w a1 nt TO TV
  s2 : Seen w a2 nr (fun j => .string (Rd j))
  m10 : ∃ q, MapIs Try.prog 9 w B10 M10 q
  m15 : ∃ q, q ≤ 65536 ∧ MapIs Try.prog 3 w B15 (boolMap I) q
  m17 : ∃ q, MapIs Try.prog 9 w B17 (strMap (fstR Rd nr)) q
  m21 : ∃ q, MapIs Try.prog 9 w B21 M21 q
  m22 : ∃ q, MapIs Try.prog 3 w B22 (natMap (clm Pa Ob I (fstR Rd nr) n)) q
  n10 : B10 ≠ B13
  n15 : B15 ≠ B13
  n17 : B17 ≠ B13
  n21 : B21 ≠ B13
  n22 : B22 ≠ B13
  g10 : ∀ p, ∃ a c, (M10 (.string p)).getD (.slice none 0 0) = .slice a (idx Pa n p).length c ∧ SeenR w a (idx Pa n p).length (fun j => Ky (gi Pa n p j)) (fun j => Ob (gi Pa n p j))
  g21 : ∀ p, ∃ a c, (M21 (.string p)).getD (.slice none 0 0) = .slice a (idx Pa n p).length c ∧ Seen w a (idx Pa n p).length (fun j => .int .i64 (gi Pa n p j : Nat))

theorem MapIs.far {w w' : World} {P : Program} {K B B' q : Nat} {m : Value → Option Value} (h : MapIs P K w B m q) (hg : w.grownBy w' (some B')) (hne : B ≠ B') : MapIs P K w' B m q :=
  h.of_block (hg.block B h.lt (fun e => hne (by simpa using e)))
theorem SeenE.far {w w' : World} {a : Option Addr} {n : Nat} {Pa Ky : Nat → ByteArray} {Ob : Nat → Int} {B : Nat} (h : SeenE w a n Pa Ky Ob) (hg : w.grownBy w' (some B)) {P : Program} {K q : Nat} {m : Value → Option Value} (hm : MapIs P K w B m q) : SeenE w' a n Pa Ky Ob :=
  ⟨h.1, fun hn => by
    obtain ⟨b, off, e, hc⟩ := h.2 hn
    refine ⟨b, off, e, fun j hj => ?_⟩
    obtain ⟨h1, h2, h3⟩ := hc j hj
    have hl := World.block_lt_of_cell? w _ h1
    have hne : some b ≠ some B := fun e => cell_map h1 hm (by simpa using e)
    exact ⟨(hg.cell_far ⟨b, off + j * 3, none⟩ hl hne).trans h1, (hg.cell_far ⟨b, off + j * 3 + 1, none⟩ hl hne).trans h2, (hg.cell_far ⟨b, off + j * 3 + 2, none⟩ hl hne).trans h3⟩⟩
theorem SeenT.far {w w' : World} {a : Option Addr} {n : Nat} {TO : Nat → Int} {TV : Nat → Bool} {B : Nat} (h : SeenT w a n TO TV) (hg : w.grownBy w' (some B)) {P : Program} {K q : Nat} {m : Value → Option Value} (hm : MapIs P K w B m q) : SeenT w' a n TO TV :=
  ⟨h.1, fun hn => by
    obtain ⟨b, off, e, hc⟩ := h.2 hn
    refine ⟨b, off, e, fun j hj => ?_⟩
    obtain ⟨h1, h2⟩ := hc j hj
    have hl := World.block_lt_of_cell? w _ h1
    have hne : some b ≠ some B := fun e => cell_map h1 hm (by simpa using e)
    exact ⟨(hg.cell_far ⟨b, off + j * 2, none⟩ hl hne).trans h1, (hg.cell_far ⟨b, off + j * 2 + 1, none⟩ hl hne).trans h2⟩⟩

theorem Ctx.far {w w' : World} {B10 B15 B17 B21 B22 B13 n nt nr : Nat} {a0 a1 a2 : Option Addr} {Pa Ky Rd : Nat → ByteArray} {Ob TO : Nat → Int} {TV : Nat → Bool} {I : Int → Option Bool} {M10 M21 : Value → Option Value}
    (h : Ctx w B10 B15 B17 B21 B22 B13 n nt nr a0 a1 a2 Pa Ky Rd Ob TO TV I M10 M21) (hg : w.grownBy w' (some B13)) {P : Program} {K q : Nat} {m : Value → Option Value} (hm : MapIs P K w B13 m q) : Ctx w' B10 B15 B17 B21 B22 B13 n nt nr a0 a1 a2 Pa Ky Rd Ob TO TV I M10 M21 where
  s0 := h.s0.far hg hm
  s1 := h.s1.far hg hm
  s2 := Seen.far h.s2 hg hm
  m10 := h.m10.imp fun _ x => MapIs.far x hg h.n10
  m15 := h.m15.imp fun _ x => ⟨x.1, MapIs.far x.2 hg h.n15⟩
  m17 := h.m17.imp fun _ x => MapIs.far x hg h.n17
  m21 := h.m21.imp fun _ x => MapIs.far x hg h.n21
  m22 := h.m22.imp fun _ x => MapIs.far x hg h.n22
  n10 := h.n10
  n15 := h.n15
  n17 := h.n17
  n21 := h.n21
  n22 := h.n22
  g10 := fun p => by
    obtain ⟨a, c, e, s⟩ := h.g10 p
    exact ⟨a, c, e, s.far hg hm⟩
  g21 := fun p => by
    obtain ⟨a, c, e, s⟩ := h.g21 p
    exact ⟨a, c, e, Seen.far s hg hm⟩
end Go.Proofs.Qxb6605443a.fnTakeScript
