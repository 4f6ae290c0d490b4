import Derived.Test.Qxb6605443aLast
import Derived.Deep.AppendLies
import Derived.StringKeys
namespace Go.Proofs.Qxb6605443a.fnTakeScript
open Go.ChangeShapes Go.WideShapes Go.ChangeAt Go.RowKit Go.Maps
open Go.Proofs.Qxb6605443a.Own
set_option linter.unusedVariables false
set_option linter.unusedSimpArgs false

theorem Try.info3 : (Try.prog.info? 3).map (fun i => (i.zero, i.size, i.bytes)) = some (some (.int .i64 0), 1, 8) := by kernel_rfl

/-- of the first k those whose object is not taken -/
def kp (f : Int → Option Bool) (OO : Nat → Int) : Nat → List Nat
  | 0 => []
  | k + 1 => kp f OO k ++ (if f (OO k) = some true then [] else [k])
theorem kp_len (f : Int → Option Bool) (OO : Nat → Int) : ∀ k, (kp f OO k).length ≤ k
  | 0 => Nat.le_refl _
  | k + 1 => by have := kp_len f OO k; simp only [kp, List.length_append]; split <;> simp <;> omega
theorem kp_lt {f : Int → Option Bool} {OO : Nat → Int} {j : Nat} : ∀ {k}, j ∈ kp f OO k → j < k
  | k + 1, h => by
    simp only [kp, List.mem_append] at h
    rcases h with h | h
    · have := kp_lt h; omega
    · split at h <;> simp at h; omega
theorem kp_yes {f : Int → Option Bool} {OO : Nat → Int} {k : Nat} (h : f (OO k) ≠ some true) : kp f OO (k + 1) = kp f OO k ++ [k] := by simp [kp, h]
theorem kp_no {f : Int → Option Bool} {OO : Nat → Int} {k : Nat} (h : f (OO k) = some true) : kp f OO (k + 1) = kp f OO k := by simp [kp, h]
/-- the map with the objects marked -/
def marked (f : Int → Option Bool) (os : List Int) (o : Int) : Option Bool := if o ∈ os then some true else f o
theorem marked_step {f : Int → Option Bool} {os : List Int} {t : Nat} (ht : t < os.length) :
    marked f (os.take (t + 1)) os[t] = some true ∧ ∀ o, o ≠ os[t] → marked f (os.take (t + 1)) o = marked f (os.take t) o := by
  have e : os.take (t + 1) = os.take t ++ [os[t]] := by simp
  constructor
  · unfold marked; rw [e, if_pos (List.mem_append_right _ (List.mem_singleton.2 rfl))]
  · intro o ho
    unfold marked; simp only [e, List.mem_append, List.mem_singleton, ho, or_false]

theorem marked_nil (f : Int → Option Bool) : marked f [] = f := funext fun o => by simp [marked]
theorem marked_at {f : Int → Option Bool} {OO : Nat → Int} {L : List Nat} {t : Nat} (ht : t < L.length) :
    boolMap (marked f ((L.map OO).take (t + 1))) (.int .i64 (OO (L.getD t 0))) = some (.bool true) ∧ ∀ k, k ≠ .int .i64 (OO (L.getD t 0)) → boolMap (marked f ((L.map OO).take (t + 1))) k = boolMap (marked f ((L.map OO).take t)) k := by
  obtain ⟨h1, h2⟩ := marked_step (f := f) (os := L.map OO) (t := t) (by simpa using ht)
  have e : (L.map OO)[t]'(by simpa using ht) = OO (L.getD t 0) := by simp [ht]
  rw [e] at h1 h2
  exact boolMap_put h1 h2

/-- rows of different elements lie apart -/
theorem rows_ne {w : World} {base base' e e' s s' n n' : Nat} {v v' : Value} {xs xs' : List Value} (h : w.ownsRow base e s v n xs) (h' : w.ownsRow base' e' s' v' n' xs') (hne : e ≠ e') : v.ownBlock = none ∨ v.ownBlock ≠ v'.ownBlock := by
  rcases h.2 with ⟨rfl, _⟩ | ⟨g, cap, cur, hv, hb, hg, _⟩
  · exact .inl rfl
  · right
    rcases h'.2 with ⟨rfl, _⟩ | ⟨g', cap', cur', hv', hb', hg', _⟩
    · rw [hv]; simp [Value.ownBlock]
    · rw [hv, hv']
      simp only [Value.ownBlock]
      intro e1
      have : g = g' := by simpa using e1
      subst this
      rw [hg] at hg'
      cases hg'
      exact hne rfl
theorem row_map {w : World} {base e s n : Nat} {v : Value} {xs : List Value} (h : w.ownsRow base e s v n xs) {P : Program} {K B q : Nat} {m : Value → Option Value} (hm : MapIs P K w B m q) : v.ownBlock = none ∨ v.ownBlock ≠ some B := by
  rcases h.2 with ⟨rfl, _⟩ | ⟨g, cap, cur, hv, hb, hg, _⟩
  · exact .inl rfl
  · right
    rw [hv]
    simp only [Value.ownBlock]
    intro e1
    have : g = B := by simpa using e1
    subst this
    obtain ⟨es, clock, hB, _⟩ := hm
    rw [hg] at hB
    cases hB
theorem cell_map {w : World} {a : Addr} {u : Value} (h : w.cell? a = some u) {P : Program} {K B q : Nat} {m : Value → Option Value} (hm : MapIs P K w B m q) : a.block ≠ B := by
  intro e
  obtain ⟨es, clock, hB, _⟩ := hm
  subst e
  unfold World.cell? at h
  rw [hB] at h
  simp at h

theorem cell_new (w : World) (cs : Array Value) (t j : Nat) : (w.alloc (.cells cs t)).cell? ⟨w.heap.size, j, none⟩ = cs[j]? := by
  rw [cell_of_row _ w.heap.size j cs t (0, 0) (heap_alloc_new _ _)]

/-- What a walk is told of a path's group: keys and objects. -/
def SeenR (w : World) (a : Option Addr) (n : Nat) (KK : Nat → ByteArray) (OO : Nat → Int) : Prop :=
  0 < n → ∃ b off, a = some ⟨b, off, none⟩ ∧ ∀ j, j < n → w.cell? ⟨b, off + j * 2, none⟩ = some (.string (KK j)) ∧ w.cell? ⟨b, off + j * 2 + 1, none⟩ = some (.int .i64 (OO j))

theorem SeenR.below {w w' : World} {a : Option Addr} {n : Nat} {KK : Nat → ByteArray} {OO : Nat → Int} (h : SeenR w a n KK OO) (hb : Below w.heap.size w w') : SeenR w' a n KK OO := fun hn => by
  obtain ⟨b, off, e, hc⟩ := h hn
  refine ⟨b, off, e, fun j hj => ?_⟩
  obtain ⟨h1, h2⟩ := hc j hj
  have hl := World.block_lt_of_cell? w _ h1
  exact ⟨(hb.cell (p := ⟨b, off + j * 2, none⟩) hl).trans h1, (hb.cell (p := ⟨b, off + j * 2 + 1, none⟩) hl).trans h2⟩
theorem SeenR.far {w w' : World} {a : Option Addr} {n : Nat} {KK : Nat → ByteArray} {OO : Nat → Int} {B : Nat} (h : SeenR w a n KK OO) (hg : w.grownBy w' (some B)) {P : Program} {K q : Nat} {m : Value → Option Value} (hm : MapIs P K w B m q) : SeenR w' a n KK OO := fun hn => by
  obtain ⟨b, off, e, hc⟩ := h hn
  refine ⟨b, off, e, fun j hj => ?_⟩
  obtain ⟨h1, h2⟩ := hc j hj
  have hl := World.block_lt_of_cell? w _ h1
  have hne : some b ≠ some B := fun e => cell_map h1 hm (by simpa using e)
  exact ⟨(hg.cell_far ⟨b, off + j * 2, none⟩ hl hne).trans h1, (hg.cell_far ⟨b, off + j * 2 + 1, none⟩ hl hne).trans h2⟩

/-- the two rows that take builds -/
def Two (w wr : World) (f : Int → Option Bool) (KK : Nat → ByteArray) (OO : Nat → Int) (k : Nat) (v5 v6 : Value) : Prop :=
  Below w.heap.size w wr ∧ wr.ownsRow w.heap.size 9 1 v5 (kp f OO k).length ((kp f OO k).map fun j => .string (KK j)) ∧ wr.ownsRow w.heap.size 3 1 v6 (kp f OO k).length ((kp f OO k).map fun j => .int .i64 (OO j)) ∧ ((kp f OO k).length = 0 → v5 = .slice none 0 0)

theorem app_below {w wr w1 : World} {v : Value} {e n : Nat} {xs : List Value} {o : Obj} (hb : Below w.heap.size w wr) (hown : wr.ownsRow w.heap.size e 1 v n xs) (hg : (wr.alloc o).grownBy w1 v.ownBlock) : Below w.heap.size w w1 :=
  (hb.alloc hb.size o).grown hg (by have := hb.size; simp; omega) (fun k hk => (hown.lt k hk).1)
theorem heap_cell_old (w : World) (o : Obj) {b i : Nat} (hb : b < w.heap.size) : (w.alloc o).cell? ⟨b, i, none⟩ = w.cell? ⟨b, i, none⟩ := World.cell?_of_block (heap_alloc_old w o hb)

theorem two_new {w w2 : World} {v v2 : Value} {l : List Nat} {k : Nat} {KK : Nat → ByteArray} {OO : Nat → Int} (hb : Below w.heap.size w w2) (h5 : w2.ownsRow w.heap.size 9 1 v (l.length + 1) ((l.map fun j => .string (KK j)) ++ [.string (KK k)])) (h6 : w2.ownsRow w.heap.size 3 1 v2 (l.length + 1) ((l.map fun j => .int .i64 (OO j)) ++ [.int .i64 (OO k)])) :
    Below w.heap.size w w2 ∧ w2.ownsRow w.heap.size 9 1 v (l ++ [k]).length ((l ++ [k]).map fun j => .string (KK j)) ∧ w2.ownsRow w.heap.size 3 1 v2 (l ++ [k]).length ((l ++ [k]).map fun j => .int .i64 (OO j)) ∧ ((l ++ [k]).length = 0 → v = .slice none 0 0) :=
  ⟨hb, by simpa using h5, by simpa using h6, fun h => by simp at h⟩
theorem own_seen {w : World} {base e n : Nat} {v : Value} {xs : List Value} {V : Nat → Value} (h : w.ownsRow base e 1 v n xs) (hn : n ≤ maxLen) (hx : ∀ j, j < n → xs[j]? = some (V j)) : ∃ a c, v = .slice a n c ∧ Seen w a n V ∧ (a = none → n = 0) := by
  have hcell := fun (g : Nat) (hg : v.ownBlock = some g) => h.cells hg
  rcases h.2 with ⟨rfl, rfl⟩ | ⟨g, cap, cur, hv, _⟩
  · exact ⟨none, 0, rfl, ⟨hn, fun h => absurd h (Nat.lt_irrefl _)⟩, fun _ => rfl⟩
  · refine ⟨some ⟨g, 0, none⟩, cap, hv, ⟨hn, fun _ => ⟨g, 0, rfl, fun j hj => ?_⟩⟩, fun e => by cases e⟩
    have hc := hcell g (by rw [hv]; rfl) j _ (hx j hj)
    rw [add_plain] at hc
    exact hc
theorem below_grown {w w' : World} (h : Below w.heap.size w w') (row : Option Nat) : w.grownBy w' row := ⟨h.os, h.tape, h.output, h.size, fun k hk _ => h.block k hk⟩
theorem Seen.far {w w' : World} {a : Option Addr} {n : Nat} {V : Nat → Value} {B : Nat} (h : Seen w a n V) (hg : w.grownBy w' (some B)) {P : Program} {K q : Nat} {m : Value → Option Value} (hm : MapIs P K w B m q) : Seen w' a n V :=
  ⟨h.1, fun hn => by
    obtain ⟨b, off, e, hc⟩ := h.2 hn
    exact ⟨b, off, e, fun j hj => (hg.cell_far ⟨b, off + j, none⟩ (World.block_lt_of_cell? w _ (hc j hj)) (fun e => cell_map (hc j hj) hm (by simpa using e))).trans (hc j hj)⟩⟩

set_option maxHeartbeats 4000000 in
theorem take_any (X B10 B13 q10 q13 cnt cp : Nat) (a : Option Addr) (p : ByteArray) (M10 : Value → Option Value) (f : Int → Option Bool) (KK : Nat → ByteArray) (OO : Nat → Int) (w : World) (hp : p.size ≤ maxLen)
    (hX0 : w.cell? ⟨X, 0, none⟩ = some (.map (some B10))) (hX1 : w.cell? ⟨X, 1, none⟩ = some (.map (some B13))) (m10 : MapIs Try.prog 9 w B10 M10 q10) (hM : (M10 (.string p)).getD (.slice none 0 0) = .slice a cnt cp)
    (hcnt : cnt ≤ 65536) (sR : SeenR w a cnt KK OO) (hOO : ∀ j, j < cnt → (Lit.int .i64 (OO j)).wf = true) (m13 : MapIs Try.prog 3 w B13 (boolMap f) q13) :
    Calls Try.prog 9 #[.pointer (some ⟨X, 0, none⟩), .string p] w fun e w' => ∃ a' c' q', e = .returned (.slice a' (kp f OO cnt).length c') ∧ ((kp f OO cnt).length = 0 ↔ a' = none) ∧ w.grownBy w' (some B13) ∧
      Seen w' a' (kp f OO cnt).length (fun j => .string (KK ((kp f OO cnt).getD j 0))) ∧ MapIs Try.prog 3 w' B13 (boolMap (marked f ((kp f OO cnt).map OO))) q' := by
  have HOO : Hid _ := hOO
  have HM : Hid _ := hM
  have hlk := m10.look false (T := 31) law9 Try.underlying31 (z := .slice none 0 0) (by kernel_rfl) (WideMaps.keyOf_string_mk Try.underlying9 hp)
  rw [if_neg (by decide), hM] at hlk
  clear hOO hM
  obtain ⟨i9, hi9, hz0, hz1, hz2⟩ := info_parts Try.info9
  obtain ⟨i3, hi3, hy0, hy1, hy2⟩ := info_parts Try.info3
  have hXl := World.block_lt_of_cell? w _ hX0
  go_enter Try.func9, Try.ntmps9
  go_wp2
  go_loopw [5, 6, 18] (fun v5 v6 i wr => ∃ k : Nat, k ≤ cnt ∧ i = .int .i64 k ∧ Two w wr f KK OO k v5 v6) (fun _ _ i _ => cnt - (intOf i).toNat)
  case atStart => exact ⟨0, Nat.zero_le _, rfl, Below.refl _ _, World.ownsRow_nil _ _ _ _, World.ownsRow_nil _ _ _ _, fun _ => rfl⟩
  case round =>
    obtain ⟨k, hk, rfl, hT⟩ := hrel
    clear hlk
    by_cases hlt : k < cnt
    · obtain ⟨b, off, rfl, hc⟩ := sR (by omega)
      obtain ⟨e1, e2⟩ := hc k hlt
      have hbl := World.block_lt_of_cell? w _ e1
      have hk1 : (k : Int) < cnt := by omega
      obtain ⟨hb, o5, o6, hnil⟩ := hT
      have f1 := (hb.cell (p := ⟨b, off + k * 2, none⟩) hbl).trans e1
      have f2 := (hb.cell (p := ⟨b, off + k * 2 + 1, none⟩) hbl).trans e2
      have f3 := (hb.cell (p := ⟨X, 0, none⟩) hXl).trans hX0
      have f4 := (hb.cell (p := ⟨X, 1, none⟩) hXl).trans hX1
      go_upto_region 6 with (fail)
      obtain ⟨wa, hwa⟩ : ∃ wa, wa = wr.alloc (Obj.cells #[Value.string (KK k), Value.int IntKind.i64 (OO k)] 34) := ⟨_, rfl⟩
      have hsa : wr.heap.size < wa.heap.size := by rw [hwa]; simp
      have hba : Below w.heap.size w wa := by rw [hwa]; exact hb.alloc hb.size _
      have o5a := o5.alloc (Obj.cells #[Value.string (KK k), Value.int IntKind.i64 (OO k)] 34)
      have o6a := o6.alloc (Obj.cells #[Value.string (KK k), Value.int IntKind.i64 (OO k)] 34)
      have g0 : wa.cell? ⟨wr.heap.size, 0, none⟩ = some (.string (KK k)) := by rw [hwa]; exact cell_new _ _ _ _
      have g1 : wa.cell? ⟨wr.heap.size, 1, none⟩ = some (.int .i64 (OO k)) := by rw [hwa]; exact cell_new _ _ _ _
      have f4a := (hba.cell (p := ⟨X, 1, none⟩) hXl).trans hX1
      have hkey := keyOf_int_mk (P := Try.prog) Try.underlying3 (HOO.out k hlt)
      have r13 := m13.below hba m13.lt
      have l13 := MapIs.look (w := wa.drew) false (T := 35) law3 Try.underlying35 (zero4 wa.drew) r13 hkey
      have hval : (boolMap f (.int .i64 (OO k))).getD (.bool false) = .bool (decide (f (OO k) = some true)) := by
        cases hf : f (OO k) with
        | none => simp [boolMap, hf]
        | some b => cases b <;> simp [boolMap, hf]
      rw [if_neg (by decide), hval] at l13
      rw [← hwa] at o5a o6a ⊢
      clear hwa hval r13 hkey f1 f2 f3 f4 e1 e2
      have hkl := kp_len f OO k
      by_cases hf : f (OO k) = some true
      · rw [decide_eq_true hf] at l13
        have HF : Hid _ := hf
        clear hf
        go_region
        go_wp2
        go_roundw
        case rel => exact ⟨k + 1, by omega, by go_num, by rw [Two, kp_no HF.out]; exact ⟨hba.drew, o5a, o6a, hnil⟩⟩
        case measure => simp [intOf]; omega
      · rw [decide_eq_false hf] at l13
        have HF : Hid _ := hf
        clear hf
        go_region
        go_upto_region 7 with (fail)
        obtain ⟨wd, hwd⟩ : ∃ wd, wd = wa.drew := ⟨_, rfl⟩
        have hsd : wr.heap.size < wd.heap.size := by rw [hwd]; exact hsa
        have hbd : Below w.heap.size w wd := by rw [hwd]; exact hba.drew
        have o5d : wd.ownsRow w.heap.size 9 1 u5 (kp f OO k).length ((kp f OO k).map fun j => .string (KK j)) := by rw [hwd]; exact o5a
        have o6d : wd.ownsRow w.heap.size 3 1 u6 (kp f OO k).length ((kp f OO k).map fun j => .int .i64 (OO j)) := by rw [hwd]; exact o6a
        have g0d : wd.cell? ⟨wr.heap.size, 0, none⟩ = some (.string (KK k)) := by rw [hwd]; exact g0
        have g1d : wd.cell? ⟨wr.heap.size, 1, none⟩ = some (.int .i64 (OO k)) := by rw [hwd]; exact g1
        rw [← hwd]
        have hnotr : ∀ r, u5.ownBlock = some r → r < wr.heap.size := fun r hr => (o5.lt r hr).2
        clear hwd l13 g0 g1 o5a o6a f4a
        go_upto_region 8 with (at_builtin; refine wpList_append_own _ rfl _ _ 24 rfl w.heap.size 9 i9 (.string ByteArray.empty) 1 16 Try.underlying24 hi9 hz0 hz1 hz2 rfl (by decide) _ _ _ rfl (o5d.alloc _) ⟨wd.heap.size, 0, none⟩ 1 1 [.string (KK k)] rfl rfl (cell_one_new _ _ _) (fun u hu => by rw [List.mem_singleton.1 hu]; rfl) (by unfold maxLen; omega) (by omega) (by have := hbd.size; simp; omega) ?_; intro v' w1 hown' hgrow _)
        have hg' : (wd.alloc (.cells #[.string (KK k)] 9)).grownBy w1 u5.ownBlock := hgrow
        have ho' : w1.ownsRow w.heap.size 9 1 v' ((kp f OO k).length + 1) (((kp f OO k).map fun j => .string (KK j)) ++ [.string (KK k)]) := hown'
        clear hgrow hown'
        have hb1 : Below w.heap.size w w1 := app_below hbd o5d hg'
        have o6e := (o6d.alloc _).kept hg' (rows_ne o6d o5d (by decide))
        have g1e : w1.cell? ⟨wr.heap.size, 1, none⟩ = some (.int .i64 (OO k)) := (hg'.cell_far ⟨wr.heap.size, 1, none⟩ (by simp; omega) (fun e => Nat.lt_irrefl _ (hnotr _ e.symm))).trans ((heap_cell_old _ _ hsd).trans g1d)
        clear g0d g1d o5d o6d o5 o6 hnotr
        go_wp2_with (at_builtin; refine wpList_append_own _ rfl _ _ 42 rfl w.heap.size 3 i3 (.int .i64 0) 1 8 Try.underlying42 hi3 hy0 hy1 hy2 rfl (by decide) _ _ _ rfl (o6e.alloc _) ⟨w1.heap.size, 0, none⟩ 1 1 [.int .i64 (OO k)] rfl rfl (cell_one_new _ _ _) (fun u hu => by rw [List.mem_singleton.1 hu]; rfl) (by unfold maxLen; omega) (by omega) (by have := hb1.size; simp; omega) ?_; intro v2 w2 hown2 hgrow2 _)
        have hg2 : (w1.alloc (.cells #[.int .i64 (OO k)] 3)).grownBy w2 u6.ownBlock := hgrow2
        have ho2 : w2.ownsRow w.heap.size 3 1 v2 ((kp f OO k).length + 1) (((kp f OO k).map fun j => .int .i64 (OO j)) ++ [.int .i64 (OO k)]) := hown2
        have hb2 : Below w.heap.size w w2 := app_below hb1 o6e hg2
        have o5f := (ho'.alloc _).kept hg2 (rows_ne ho' o6e (by decide))
        go_roundw
        case rel => exact ⟨k + 1, by omega, by go_num, by rw [Two, kp_yes HF.out]; exact two_new hb2 o5f ho2⟩
        case measure => simp [intOf]; omega
    · have ek : cnt = k := by omega
      subst ek
      obtain ⟨hb, o5, o6, hnil⟩ := hT
      have hkl := kp_len f OO cnt
      have hmem : ∀ j, j < (kp f OO cnt).length → (kp f OO cnt).getD j 0 < cnt := fun j hj => by
        rw [List.getD_eq_getElem?_getD, List.getElem?_eq_getElem hj]
        exact kp_lt (List.getElem_mem hj)
      obtain ⟨a6, c6, rfl, s6, _⟩ := own_seen (V := fun j => .int .i64 (OO ((kp f OO cnt).getD j 0))) o6 (by unfold maxLen; omega) (fun j hj => by simp [hj])
      obtain ⟨a5, c5, rfl, s5, hn5⟩ := own_seen (V := fun j => .string (KK ((kp f OO cnt).getD j 0))) o5 (by unfold maxLen; omega) (fun j hj => by simp [hj])
      have hnone : (kp f OO cnt).length = 0 ↔ a5 = none := ⟨fun h => by have := hnil h; simpa using (Value.slice.inj this).1, hn5⟩
      clear o5 o6 hnil hn5
      obtain ⟨wq, rfl⟩ : ∃ wq, wq = wr := ⟨_, rfl⟩
      have r13 := m13.below hb m13.lt
      generalize hL : kp f OO cnt = L at *
      have HL : Hid _ := hL
      clear hL
      obtain ⟨O6, hO6⟩ : ∃ O6 : Nat → Int, ∀ j, OO (L.getD j 0) = O6 j := ⟨_, fun _ => rfl⟩
      simp only [hO6] at s6
      have HO6 : Hid _ := hO6
      clear hO6
      go_wp2
      go_loopw [43] (fun i ws => ∃ t q' : Nat, t ≤ L.length ∧ i = .int .i64 t ∧ wq.grownBy ws (some B13) ∧ MapIs Try.prog 3 ws B13 (boolMap (marked f ((L.map OO).take t))) q') (fun i _ => L.length - (intOf i).toNat)
      case atStart => exact ⟨0, q13, Nat.zero_le _, rfl, ⟨rfl, rfl, rfl, Nat.le_refl _, fun _ _ _ => rfl⟩, by rw [List.take_zero, marked_nil]; exact r13⟩
      case round =>
        obtain ⟨t, q', ht, rfl, hg, hm⟩ := hrel
        have hXw := (hb.cell (p := ⟨X, 1, none⟩) hXl).trans hX1
        have fX := (hg.cell_far ⟨X, 1, none⟩ (World.block_lt_of_cell? wq _ hXw) (fun e => cell_map hXw r13 (by simpa using e))).trans hXw
        by_cases hlt : t < L.length
        · obtain ⟨b6, off6, rfl, h6⟩ := s6.2 (by omega)
          have e6 := h6 t hlt
          have f6 := (hg.cell_far ⟨b6, off6 + t, none⟩ (World.block_lt_of_cell? wq _ e6) (fun e => cell_map e6 r13 (by simpa using e))).trans e6
          have hkey := keyOf_int_mk (P := Try.prog) Try.underlying3 (HOO.out _ (hmem t hlt))
          obtain ⟨p3, p4⟩ := marked_at (f := f) (OO := OO) hlt
          rw [HO6.out] at p3 p4 hkey
          obtain ⟨w1, hrun, hm1, hg1, hs1⟩ := MapIs.update (w := wr) (T := 35) law3 Try.underlying35 hm hkey p3 p4
          have hk1 : (t : Int) < L.length := by omega
          clear p3 p4 hkey e6
          go_wp2
          go_roundw
          case rel => exact ⟨t + 1, _, by omega, by go_num, hg.trans hg1, hm1⟩
          case measure => simp [intOf]; omega
        · have ek : t = L.length := by omega
          subst ek
          have hm' : MapIs Try.prog 3 wr B13 (boolMap (marked f (L.map OO))) q' := by
            have := hm
            rw [List.take_of_length_le (by simp)] at this
            exact this
          have hgw : w.grownBy wr (some B13) := (below_grown hb _).trans hg
          have hS := Seen.far s5 hg r13
          clear hm
          go_wp2
          go_ret
          rw [HL.out]
          exact ⟨a5, c5, q', rfl, hnone, hgw, hS, hm'⟩

theorem zztake_any (B10 B13 q10 q13 cnt cp : Nat) (a : Option Addr) (p : ByteArray) (M10 : Value → Option Value) (f : Int → Option Bool) (KK : Nat → ByteArray) (OO : Nat → Int) (w : World) (hp : p.size ≤ maxLen)
    (m10 : MapIs Try.prog 9 w B10 M10 q10) (hM : (M10 (.string p)).getD (.slice none 0 0) = .slice a cnt cp)
    (hcnt : cnt ≤ 65536) (sR : SeenR w a cnt KK OO) (hOO : ∀ j, j < cnt → (Lit.int .i64 (OO j)).wf = true) (m13 : MapIs Try.prog 3 w B13 (boolMap f) q13) :
    Calls Try.prog 8 #[.map (some B10), .map (some B13), .string p] w fun e w' => ∃ a' c' q', e = .returned (.slice a' (kp f OO cnt).length c') ∧ ((kp f OO cnt).length = 0 ↔ a' = none) ∧ w.grownBy w' (some B13) ∧
      Seen w' a' (kp f OO cnt).length (fun j => .string (KK ((kp f OO cnt).getD j 0))) ∧ MapIs Try.prog 3 w' B13 (boolMap (marked f ((kp f OO cnt).map OO))) q' := by
  have HOO : Hid _ := hOO
  have HM : Hid _ := hM
  clear hOO hM
  go_enter Try.func8, Try.ntmps8
  go_wp2_with fail
  have hbA : Below w.heap.size w (w.alloc (.cells #[.map (some B10), .map (some B13)] 47)) := (Below.refl _ _).alloc (Nat.le_refl _) _
  refine (take_any w.heap.size B10 B13 q10 q13 cnt cp a p M10 f KK OO (w.alloc (.cells #[.map (some B10), .map (some B13)] 47)) hp (cell_new _ _ _ _) (cell_new _ _ _ _) (m10.alloc _) HM.out hcnt (SeenR.below sR hbA) HOO.out (m13.alloc _)).mono ?_
  rintro e w' ⟨a', c', q', rfl, h1, h2, h3, h4⟩
  have h2' := (below_grown hbA (some B13)).trans h2
  go_wp2
  go_ret
  exact ⟨a', c', q', rfl, h1, h2', h3, h4⟩
end Go.Proofs.Qxb6605443a.fnTakeScript
