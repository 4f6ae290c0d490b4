import Derived.Test.Qxb6003694aMaps
namespace Go.Proofs.Qxb6003694a.fnMissingIsExactlyTheAbsent
open Go.ChangeShapes Go.WideShapes Go.ChangeAt Go.RowKit Go.Maps
open Go.Proofs.Qxb6003694a.Own
set_option linter.unusedVariables false

/-- is x among the first k? -/
def hasB (K : Nat → Int) : Nat → Int → Bool
  | 0, _ => false
  | k + 1, x => hasB K k x || K k == x

theorem hasB_of {K : Nat → Int} {x : Int} : ∀ {n j : Nat}, j < n → (K j == x) = true → hasB K n x = true
  | n + 1, j, hj, e => by
    simp only [hasB, Bool.or_eq_true]
    by_cases h : j = n
    · subst h; exact .inr e
    · exact .inl (hasB_of (by omega) e)

theorem has_any (ao : Option Addr) (n c : Nat) (K : Nat → Int) (x : Int) (w : World) (hn : n ≤ 1048576) (h : 0 < n → ∃ b off, ao = some ⟨b, off, none⟩ ∧ ∀ j, j < n → w.cell? ⟨b, off + j, none⟩ = some (.int .u16 (K j))) :
    Calls Try.prog 21 #[.slice ao n c, .int .u16 x] w fun e w' => e = .returned (.bool (hasB K n x)) ∧ w = w' := by
  by_cases h0 : n = 0
  · subst h0
    go_enter Try.func21, Try.ntmps21
    go_wp2
    refine wp_loop_rounds 1 ?_
    rw [rounds_succ]
    go_wp2
    go_ret
    exact ⟨rfl, rfl⟩
  · obtain ⟨b, off, rfl, hc⟩ := h (by omega)
    go_enter Try.func21, Try.ntmps21
    go_wp2
    go_loop [5] (fun i => ∃ k : Nat, k ≤ n ∧ i = .int .i64 k ∧ hasB K k x = false) (fun i => n - (intOf i).toNat)
    case atStart => exact ⟨0, Nat.zero_le _, rfl, rfl⟩
    case round =>
      obtain ⟨k, hk, rfl, hs⟩ := hrel
      by_cases hlt : k < n
      · have e0 := hc k hlt
        have HS : Hid (hasB K k x = false) := hs
        clear hs
        go_wp2
        · go_ret
          have he : (K k == x) = true := by assumption
          refine ⟨?_, rfl⟩
          show Ending.returned (.bool true) = _
          rw [hasB_of hlt he]
        · have he : (K k == x) = false := by assumption
          go_round
          case rel => exact ⟨k + 1, by omega, by go_num, by simp only [hasB, HS.out, he]; rfl⟩
          case measure => simp [intOf]; omega
      · have ek : n = k := by omega
        subst ek
        have HS : Hid (hasB K n x = false) := hs
        clear hs
        go_wp2
        go_ret
        refine ⟨?_, rfl⟩
        show Ending.returned (.bool false) = _
        rw [HS.out]

/-- the map that keyValSet makes of the first k -/
def mOf (K : Nat → Int) (V : Nat → Bool) : Nat → Value → Option Value
  | 0, _ => none
  | k + 1, v => match v with
    | .int .u16 x => if K k == x then some (.bool (V k)) else mOf K V k v
    | _ => none
theorem mOf_some (K : Nat → Int) (V : Nat → Bool) (x : Int) : ∀ k, (mOf K V k (.int .u16 x)).isSome = hasB K k x
  | 0 => rfl
  | k + 1 => by
    have ih := mOf_some K V x k
    simp only [mOf, hasB]
    by_cases h : (K k == x) = true
    · simp [h]
    · simp only [Bool.not_eq_true] at h
      simp [h, ih]
theorem mOf_same (K : Nat → Int) (V : Nat → Bool) (k : Nat) : mOf K V (k + 1) (.int .u16 (K k)) = some (.bool (V k)) := by simp [mOf]
theorem mOf_int (K : Nat → Int) (V : Nat → Bool) : ∀ (k : Nat) (v : Value), (∀ x, v ≠ .int .u16 x) → mOf K V k v = none
  | 0, _, _ => rfl
  | k + 1, v, h => by
    unfold mOf
    split
    · exact absurd rfl (h _)
    · rfl
theorem mOf_other (K : Nat → Int) (V : Nat → Bool) (k : Nat) (v : Value) (h : v ≠ .int .u16 (K k)) : mOf K V (k + 1) v = mOf K V k v := by
  by_cases hx : ∃ x, v = .int .u16 x
  · obtain ⟨x, rfl⟩ := hx
    have : (K k == x) = false := by simp; intro e; exact h (by rw [e])
    simp [mOf, this]
  · have h' : ∀ x, v ≠ .int .u16 x := fun x e => hx ⟨x, e⟩
    rw [mOf_int K V _ v h', mOf_int K V _ v h']

theorem law24 : Keyed Try.prog 24 := int_keyed Try.underlying24

theorem wf_u16 {x : Int} (h0 : 0 ≤ x) (h1 : x ≤ 65535) : (Lit.int .u16 x).wf = true := WalkArith.wf_u16 (by omega)

theorem set_pos (b1 o1 b2 o2 n c1 c2 : Nat) (K : Nat → Int) (V : Nat → Bool) (hK : ∀ j, j < n → 0 ≤ K j ∧ K j ≤ 65535) (hn : n ≤ 1048576) (hn0 : 0 < n) (w : World)
    (h1 : ∀ j, j < n → w.cell? ⟨b1, o1 + j, none⟩ = some (.int .u16 (K j))) (h2 : ∀ j, j < n → w.cell? ⟨b2, o2 + j, none⟩ = some (.bool (V j))) :
    Calls Try.prog 19 #[.slice (some ⟨b1, o1, none⟩) n c1, .slice (some ⟨b2, o2, none⟩) n c2] w fun e w' => e = .returned (.map (some w.heap.size)) ∧ Below w.heap.size w w' ∧ ∃ q, MapIs Try.prog 24 w' w.heap.size (mOf K V n) q := by
  have hmm := fun x w => run_makeMap_hint (P := Try.prog) (T := 51) Try.underlying51 x w
  have hbl1 := World.block_lt_of_cell? w _ (h1 0 hn0)
  have hbl2 := World.block_lt_of_cell? w _ (h2 0 hn0)
  go_enter Try.func19, Try.ntmps19
  go_wp2
  go_loopw [6] (fun i wr => ∃ k : Nat, k ≤ n ∧ i = .int .i64 k ∧ Below w.heap.size w wr ∧ ∃ q, MapIs Try.prog 24 wr w.heap.size (mOf K V k) q) (fun i _ => n - (intOf i).toNat)
  case atStart => exact ⟨0, Nat.zero_le _, rfl, (Below.refl _ _).alloc (Nat.le_refl _) _, 0, MapIs.made w⟩
  case round =>
    obtain ⟨k, hk, rfl, hb, q, hm⟩ := hrel
    clear hmm
    by_cases hlt : k < n
    · have e1 := (hb.cell (p := ⟨b1, o1 + k, none⟩) hbl1).trans (h1 k hlt)
      have e2 := (hb.cell (p := ⟨b2, o2 + k, none⟩) hbl2).trans (h2 k hlt)
      have hk1 : (k : Int) < n := by omega
      obtain ⟨t0, t1⟩ := hK k hlt
      obtain ⟨w1, hrun, hm1, hg1, hs1⟩ := MapIs.update (w := wr.drew) (T := 51) law24 Try.underlying51 hm (keyOf_int_mk Try.underlying24 (wf_u16 t0 t1)) (mOf_same K V k) (fun v hv => mOf_other K V k v hv)
      have hbw : Below w.heap.size w w1 := hb.drew.grown hg1 (by have := hb.size; exact this) (fun j hj => by cases hj; exact Nat.le_refl _)
      go_wp2
      go_region
      go_wp2
      go_roundw
      case rel => exact ⟨k + 1, by omega, by go_num, hbw, _, hm1⟩
      case measure => simp [intOf]; omega
    · have ek : n = k := by omega
      subst ek
      go_wp2
      go_ret
      exact ⟨rfl, hb, q, hm⟩

theorem set_empty (a1 a2 : Option Addr) (c1 c2 : Nat) (K : Nat → Int) (V : Nat → Bool) (w : World) :
    Calls Try.prog 19 #[.slice a1 0 c1, .slice a2 0 c2] w fun e w' => e = .returned (.map (some w.heap.size)) ∧ Below w.heap.size w w' ∧ ∃ q, MapIs Try.prog 24 w' w.heap.size (mOf K V 0) q := by
  have hmm := fun x w => run_makeMap_hint (P := Try.prog) (T := 51) Try.underlying51 x w
  go_enter Try.func19, Try.ntmps19
  go_wp2
  refine wp_loop_rounds 1 ?_
  rw [rounds_succ]
  go_wp2
  go_ret
  exact ⟨rfl, (Below.refl _ _).alloc (Nat.le_refl _) _, 0, MapIs.made w⟩

/-- of the first k those that p keeps -/
def kl (I : Nat → Int) (p : Int → Bool) : Nat → List Int
  | 0 => []
  | k + 1 => kl I p k ++ (if p (I k) then [I k] else [])
theorem kl_len (I : Nat → Int) (p : Int → Bool) : ∀ k, (kl I p k).length ≤ k
  | 0 => Nat.le_refl _
  | k + 1 => by have := kl_len I p k; simp only [kl, List.length_append]; split <;> simp <;> omega

theorem app_below {w wr w1 : World} {v : Value} {e n : Nat} {xs : List Value} {o : Obj} (hb : Below w.heap.size w wr) (hown : wr.ownsRow w.heap.size e 1 v n xs) (hg : (wr.alloc o).grownBy w1 v.ownBlock) : Below w.heap.size w w1 :=
  (hb.alloc hb.size o).grown hg (by have := hb.size; simp; omega) (fun k hk => (hown.lt k hk).1)

theorem kl_yes {I : Nat → Int} {p : Int → Bool} {k : Nat} (h : p (I k) = true) : kl I p (k + 1) = kl I p k ++ [I k] := by simp [kl, h]
theorem kl_no {I : Nat → Int} {p : Int → Bool} {k : Nat} (h : p (I k) = false) : kl I p (k + 1) = kl I p k := by simp [kl, h]

theorem kl_len_succ (I : Nat → Int) (p : Int → Bool) (k : Nat) : (kl I p (k + 1)).length ≤ (kl I p k).length + 1 := by
  simp only [kl, List.length_append]; split <;> simp
theorem kl_prefix (I : Nat → Int) (p : Int → Bool) : ∀ (d k : Nat), ∃ r, kl I p (k + d) = kl I p k ++ r
  | 0, k => ⟨[], by simp⟩
  | d + 1, k => by
    obtain ⟨r, hr⟩ := kl_prefix I p d k
    exact ⟨r ++ (if p (I (k + d)) then [I (k + d)] else []), by rw [show k + (d + 1) = (k + d) + 1 by omega]; simp only [kl, hr, List.append_assoc]⟩
theorem kl_at {I O : Nat → Int} {p : Int → Bool} {n m k t : Nat} (hm : (kl I p n).length = m) (hO : ∀ j, j < m → O j = (kl I p n).getD j 0) (hk : k < n) (ht : t < m) :
    (kl I p k).length = t → p (I k) = true → O t = I k := by
  intro hl hp
  obtain ⟨r, hr⟩ := kl_prefix I p (n - (k + 1)) (k + 1)
  rw [show k + 1 + (n - (k + 1)) = n by omega, kl_yes hp] at hr
  rw [hO t ht, hr, ← hl]
  simp
theorem kl_stay {I : Nat → Int} {p : Int → Bool} {k t : Nat} {o : Int} (hkt : (kl I p k).length ≤ t) (h : (kl I p k).length = t → p (I k) = true → o = I k) (hne : ¬ I k = o) : (kl I p (k + 1)).length ≤ t := by
  by_cases e : (kl I p k).length = t
  · cases hp : p (I k)
    · rw [kl_no hp]; exact hkt
    · exact absurd (h e hp).symm hne
  · have := kl_len_succ I p k
    omega

theorem zero4 (w : World) : (zeroValue 4).run Try.prog w = .ok (.bool false) w := by kernel_rfl

theorem miss_pos (b off n c B q : Nat) (I : Nat → Int) (m : Value → Option Value) (p : Int → Bool) (hp : ∀ x, p x = !(m (.int .u16 x)).isSome) (hI : ∀ j, j < n → 0 ≤ I j ∧ I j ≤ 65535) (hn : n ≤ 1048576) (hn0 : 0 < n) (w : World)
    (h1 : ∀ j, j < n → w.cell? ⟨b, off + j, none⟩ = some (.int .u16 (I j))) (hm : MapIs Try.prog 24 w B m q) :
    Calls Try.prog 27 #[.slice (some ⟨b, off, none⟩) n c, .map (some B)] w fun e w' => ∃ v, e = .returned v ∧ Below w.heap.size w w' ∧ w'.ownsRow w.heap.size 24 1 v (kl I p n).length ((kl I p n).map (Value.int .u16)) := by
  have hbl1 := World.block_lt_of_cell? w _ (h1 0 hn0)
  obtain ⟨i0, hi, hz0, hz1, hz2⟩ := info_parts Try.info24
  go_enter Try.func27, Try.ntmps27
  go_wp2
  go_loopw [5, 12] (fun v i wr => ∃ k : Nat, k ≤ n ∧ i = .int .i64 k ∧ Below w.heap.size w wr ∧ wr.ownsRow w.heap.size 24 1 v (kl I p k).length ((kl I p k).map (Value.int .u16))) (fun _ i _ => n - (intOf i).toNat)
  case atStart => exact ⟨0, Nat.zero_le _, rfl, Below.refl _ _, World.ownsRow_nil _ _ _ _⟩
  case round =>
    obtain ⟨k, hk, rfl, hb, hown⟩ := hrel
    by_cases hlt : k < n
    · have e1 := (hb.cell (p := ⟨b, off + k, none⟩) hbl1).trans (h1 k hlt)
      have hk1 : (k : Int) < n := by omega
      obtain ⟨t0, t1⟩ := hI k hlt
      have hmr := hm.below hb hm.lt
      have hlk := hmr.look true (T := 51) law24 Try.underlying51 (zero4 wr) (keyOf_int_mk Try.underlying24 (wf_u16 t0 t1))
      simp only [if_true] at hlk
      have hle := kl_len I p k
      cases hs : (m (.int .u16 (I k))).isSome
      · rw [hs] at hlk
        have HS : Hid (p (I k) = true) := by rw [hp, hs]; rfl
        clear hs hmr
        go_wp2_with (at_builtin; refine wpList_append_own _ rfl _ _ 22 rfl w.heap.size 24 i0 (.int .u16 0) 1 2 Try.underlying22 hi hz0 hz1 hz2 rfl (by decide) _ _ _ rfl (hown.alloc _) ⟨wr.heap.size, 0, none⟩ 1 1 [.int .u16 (I k)] rfl rfl (cell_one_new _ _ _) (ints_oneCell .u16 [I k]) (by unfold maxLen; omega) (by omega) (by have := hb.size; simp; omega) ?_; intro v' w1 hown' hgrow _)
        have hbw := app_below hb hown hgrow
        have hnew : w1.ownsRow w.heap.size 24 1 v' (kl I p (k + 1)).length ((kl I p (k + 1)).map (Value.int .u16)) := by
          rw [kl_yes HS.out]; simpa using hown'
        go_roundw
        case rel => exact ⟨k + 1, by omega, by go_num, hbw, hnew⟩
        case measure => simp [intOf]; omega
      · rw [hs] at hlk
        have HS : Hid (p (I k) = false) := by rw [hp, hs]; rfl
        clear hs hmr
        go_wp2
        go_roundw
        case rel => exact ⟨k + 1, by omega, by go_num, hb, by rw [kl_no HS.out]; exact hown⟩
        case measure => simp [intOf]; omega
    · have ek : n = k := by omega
      subst ek
      go_wp2
      go_ret
      exact ⟨_, rfl, hb, hown⟩

theorem miss_empty (ao : Option Addr) (c : Nat) (mv : Value) (w : World) :
    Calls Try.prog 27 #[.slice ao 0 c, mv] w fun e w' => e = .returned (.slice none 0 0) ∧ Below w.heap.size w w' := by
  go_enter Try.func27, Try.ntmps27
  go_wp2
  refine wp_loop_rounds 1 ?_
  rw [rounds_succ]
  go_wp2
  go_ret
  exact ⟨rfl, Below.refl _ _⟩

/-- subsequenceU16 says true where a is what p keeps of b. -/
theorem sub_any (ao bo : Option Addr) (m n ca cb : Nat) (O I : Nat → Int) (p : Int → Bool) (hm : (kl I p n).length = m) (hO : ∀ j, j < m → O j = (kl I p n).getD j 0) (hn : n ≤ 1048576) (w : World)
    (ha : 0 < m → ∃ b off, ao = some ⟨b, off, none⟩ ∧ ∀ j, j < m → w.cell? ⟨b, off + j, none⟩ = some (.int .u16 (O j)))
    (hb : 0 < n → ∃ b off, bo = some ⟨b, off, none⟩ ∧ ∀ j, j < n → w.cell? ⟨b, off + j, none⟩ = some (.int .u16 (I j))) :
    Calls Try.prog 22 #[.slice ao m ca, .slice bo n cb] w fun e w' => e = .returned (.bool true) ∧ Below w.heap.size w w' := by
  have hmn : m ≤ n := by have := kl_len I p n; omega
  by_cases h0 : m = 0
  · have HM : Hid ((kl I p n).length = m) := hm
    clear hm hO ha
    subst h0
    by_cases h0' : n = 0
    · subst h0'
      go_enter Try.func22, Try.ntmps22
      go_wp2
      refine wp_loop_rounds 1 ?_
      rw [rounds_succ]
      go_wp2
      go_ret
      exact ⟨rfl, Below.refl _ _⟩
    · have hn0 : (0 : Int) < n := by omega
      go_enter Try.func22, Try.ntmps22
      go_wp2
      refine wp_loop_rounds 1 ?_
      rw [rounds_succ]
      go_wp2
      go_ret
      exact ⟨rfl, Below.refl _ _⟩
  · obtain ⟨b1, o1, rfl, c1⟩ := ha (by omega)
    obtain ⟨b2, o2, rfl, c2⟩ := hb (by omega)
    go_enter Try.func22, Try.ntmps22
    go_wp2
    go_loopw [5, 6] (fun j i wr => ∃ k t : Nat, k ≤ n ∧ i = .int .i64 k ∧ j = .int .i64 t ∧ (kl I p k).length ≤ t ∧ t ≤ m ∧ Below w.heap.size w wr) (fun _ i _ => n - (intOf i).toNat)
    case atStart => exact ⟨0, 0, Nat.zero_le _, rfl, rfl, Nat.zero_le _, Nat.zero_le _, Below.refl _ _⟩
    case round =>
      obtain ⟨k, t, hk, rfl, rfl, hkt, htm, hbw⟩ := hrel
      by_cases hlt : k < n ∧ t < m
      · obtain ⟨hkn, htm'⟩ := hlt
        have e1 := (hbw.cell (p := ⟨b1, o1 + t, none⟩) (World.block_lt_of_cell? w _ (c1 t htm'))).trans (c1 t htm')
        have e2 := (hbw.cell (p := ⟨b2, o2 + k, none⟩) (World.block_lt_of_cell? w _ (c2 k hkn))).trans (c2 k hkn)
        have i1 : (k : Int) < n := by omega
        have i2 : (t : Int) < m := by omega
        have HK : Hid ((kl I p k).length = t → p (I k) = true → O t = I k) := kl_at hm hO hkn htm'
        clear hO hm
        go_wp2
        go_quiet (fail)
        go_wp2
        · have he : (I k == O t) = true := by assumption
          have hstep : (kl I p (k + 1)).length ≤ t + 1 := by
            have := kl_len_succ I p k; omega
          go_roundw
          case rel => exact ⟨k + 1, t + 1, by omega, by go_num, by go_num, hstep, by omega, below_drewN hbw _⟩
          case measure => simp [intOf]; omega
        · have he : (I k == O t) = false := by assumption
          have hstep : (kl I p (k + 1)).length ≤ t := kl_stay hkt HK.out (by simpa using he)
          go_roundw
          case rel => exact ⟨k + 1, t, by omega, by go_num, rfl, hstep, htm, below_drewN hbw _⟩
          case measure => simp [intOf]; omega
      · have ht : t = m := by
          by_cases h : k < n
          · omega
          · obtain rfl : k = n := by omega
            omega
        subst ht
        by_cases h : k < n
        · have i1 : (k : Int) < n := by omega
          have htt : decide ((t : Int) < t) = false := by simp
          go_wp2
          go_ret
          exact ⟨rfl, hbw⟩
        · go_wp2
          go_ret
          exact ⟨rfl, hbw⟩
end Go.Proofs.Qxb6003694a.fnMissingIsExactlyTheAbsent
