import Derived.Test.Qxb6605443aOwn
import Derived.Maps.Own
import Derived.Maps.OwnOps
namespace Go.Proofs.Qxb6605443a.Own
open Go.ChangeShapes Go.WideShapes Go.ChangeAt Go.RowKit Go.Maps
set_option linter.unusedVariables false

/-- Block B is a map of n entries: at key k it holds what 'm k' says. -/
def MapIs (P : Program) (K : TypeId) (w : World) (B : Nat) (m : Value → Option Value) (n : Nat) : Prop :=
  ∃ es clock, w.heap[B]? = some (.map es clock) ∧ es.size = n ∧ (∀ x ∈ es.toList, ∃ l, keyOf P K x.key = some l) ∧ (es.toList.Pairwise fun x y => x.key ≠ y.key) ∧
    (∀ x ∈ es.toList, m x.key = some x.val) ∧ (∀ k v, m k = some v → ∃ x ∈ es.toList, x.key = k)

section
variable {P : Program} {K E T : TypeId} {w w' : World} {B n : Nat} {m : Value → Option Value}

theorem MapIs.lt (h : MapIs P K w B m n) : B < w.heap.size := by
  obtain ⟨es, clock, hb, _⟩ := h
  exact (Array.getElem?_eq_some_iff.1 hb).1

theorem MapIs.of_block (h : MapIs P K w B m n) (e : w'.heap[B]? = w.heap[B]?) : MapIs P K w' B m n := by
  obtain ⟨es, clock, hb, r⟩ := h
  exact ⟨es, clock, e.trans hb, r⟩

theorem MapIs.congr {m' : Value → Option Value} (h : MapIs P K w B m n) (e : ∀ k, m' k = m k) : MapIs P K w B m' n := by
  have : m' = m := funext e
  rw [this]; exact h

theorem MapIs.made (w : World) : MapIs P K (w.alloc (.map #[] 0)) w.heap.size (fun _ => none) 0 :=
  ⟨#[], 0, heap_alloc_new _ _, rfl, by simp, by simp, by simp, by simp⟩

/-- 'm[k]', 'v, ok := m[k]' -/
theorem MapIs.look (c : Bool) (law : Keyed P K) (ht : P.underlying T = some (.map K E)) {z : Value} (hz : (zeroValue E).run P w = .ok z w) (h : MapIs P K w B m n) {key : Value} {kl : Lit} (hkey : keyOf P K key = some kl) :
    (Instr.lookup T (.map (some B)) key c).run P w = .ok (if c then .tuple #[(m key).getD z, .bool (m key).isSome] else (m key).getD z) w := by
  obtain ⟨es, clock, hb, hn, hk, hd, hv, hc⟩ := h
  rcases law.find w hkey es.toList hk with ⟨h1, h2⟩ | ⟨j, e0, h1, h2, h3⟩
  · have hm : m key = none := by
      cases e : m key with
      | none => rfl
      | some v =>
        obtain ⟨x, hx, hxk⟩ := hc key v e
        exact absurd hxk (h2 x hx)
    simp [Instr.lookup, run_underlying ht, MapKept.run_getObj_map hb, law.check w _ hkey, h1, hz, Result.andThen, hm]
  · have hm : m key = some e0.val := by rw [← h3]; exact hv e0 (List.mem_of_getElem? h2)
    simp [Instr.lookup, run_underlying ht, MapKept.run_getObj_map hb, law.check w _ hkey, h1, Result.andThen, hm]

/-- 'm[k] = v' -/
theorem MapIs.update (law : Keyed P K) (ht : P.underlying T = some (.map K E)) (h : MapIs P K w B m n) {m' : Value → Option Value} {key val : Value} {kl : Lit} (hkey : keyOf P K key = some kl) (hm1 : m' key = some val) (hm2 : ∀ k, k ≠ key → m' k = m k) :
    ∃ w', (Instr.mapUpdate T (.map (some B)) key val).run P w = .ok () w' ∧ MapIs P K w' B m' (if (m key).isSome then n else n + 1) ∧ w.grownBy w' (some B) ∧ w'.heap.size = w.heap.size := by
  obtain ⟨es, clock, hb, hn, hk, hd, hv, hc⟩ := h
  have hlt := (Array.getElem?_eq_some_iff.1 hb).1
  have grow : ∀ o, w.grownBy { w with heap := w.heap.setIfInBounds B o } (some B) := fun o =>
    ⟨rfl, rfl, rfl, by simp, fun k _ hne => by simp only [Array.getElem?_setIfInBounds]; rw [if_neg (fun e => hne (by rw [e]))]⟩
  have at_ : ∀ o, ({ w with heap := w.heap.setIfInBounds B o } : World).heap[B]? = some o := fun o => by simp [hlt]
  rcases law.find w hkey es.toList hk with ⟨h1, h2⟩ | ⟨j, e0, h1, h2, h3⟩
  · have hm : m key = none := by
      cases e : m key with
      | none => rfl
      | some v =>
        obtain ⟨x, hx, hxk⟩ := hc key v e
        exact absurd hxk (h2 x hx)
    refine ⟨_, by simp [Instr.mapUpdate, run_underlying ht, MapKept.run_getObj_map hb, law.check w false hkey, h1, MapKept.run_setObj_map _ hb, Result.andThen], ⟨es.push ⟨key, val, clock⟩, clock + 1, at_ _, by simp [hm, hn], ?_, ?_, ?_, ?_⟩, grow _, by simp⟩
    · intro x hx
      simp only [Array.toList_push, List.mem_append, List.mem_singleton] at hx
      rcases hx with hx | rfl
      · exact hk x hx
      · exact ⟨_, hkey⟩
    · simp only [Array.toList_push, List.pairwise_append]
      exact ⟨hd, by simp, fun x hx y hy => by simp at hy; subst hy; exact h2 x hx⟩
    · intro x hx
      simp only [Array.toList_push, List.mem_append, List.mem_singleton] at hx
      rcases hx with hx | rfl
      · rw [hm2 _ (h2 x hx)]; exact hv x hx
      · exact hm1
    · intro k v e
      simp only [Array.toList_push, List.mem_append, List.mem_singleton]
      by_cases hkk : k = key
      · exact ⟨_, .inr rfl, hkk.symm⟩
      · rw [hm2 _ hkk] at e
        obtain ⟨x, hx, hxk⟩ := hc k v e
        exact ⟨x, .inl hx, hxk⟩
  · have hm : m key = some e0.val := by rw [← h3]; exact hv e0 (List.mem_of_getElem? h2)
    have hj : es[j]? = some e0 := by simpa using h2
    have hjl : j < es.toList.length := (List.getElem?_eq_some_iff.1 h2).1
    have hlist : (es.modify j (fun e' => { e' with key := key, val := val })).toList = es.toList.set j { e0 with key := key, val := val } := by rw [Array.toList_modify, Go.ChangeMaps.modify_eq_set _ _ _ _ h2]
    have hej : es.toList[j] = e0 := (List.getElem?_eq_some_iff.1 h2).2
    have who : ∀ x ∈ es.toList.set j { e0 with key := key, val := val }, x = { e0 with key := key, val := val } ∨ (x ∈ es.toList ∧ x.key ≠ key) := by
      intro x hx
      obtain ⟨i, hi, ex⟩ := List.getElem_of_mem hx
      rw [List.getElem_set] at ex
      split at ex
      · exact Or.inl ex.symm
      · rename_i hne
        have hi' : i < es.toList.length := by simpa using hi
        refine Or.inr ⟨ex ▸ List.getElem_mem hi', ?_⟩
        have hne2 : es.toList[i].key ≠ es.toList[j].key := by
          rcases Nat.lt_or_gt_of_ne hne with hlt' | hlt'
          · exact ((List.pairwise_iff_getElem.1 hd) j i hjl hi' hlt').symm
          · exact (List.pairwise_iff_getElem.1 hd) i j hi' hjl hlt'
        rw [hej, h3] at hne2
        rw [← ex]
        exact hne2
    refine ⟨_, by simp [Instr.mapUpdate, run_underlying ht, MapKept.run_getObj_map hb, law.check w false hkey, h1, hj, h3, law.stays w hkey, MapKept.run_setObj_map _ hb, Result.andThen], ⟨es.modify j (fun e' => { e' with key := key, val := val }), clock, at_ _, by simp [hm, hn], ?_, ?_, ?_, ?_⟩, grow _, by simp⟩
    · intro x hx
      rw [hlist] at hx
      rcases who x hx with rfl | ⟨hx', _⟩
      · exact ⟨_, hkey⟩
      · exact hk x hx'
    · rw [hlist]
      have hmap : (es.toList.set j { e0 with key := key, val := val }).map (·.key) = es.toList.map (·.key) := by
        rw [List.map_set]
        apply List.ext_getElem
        · simp
        · intro i h1' h2'
          rw [List.getElem_set]
          split
          · rename_i e; subst e; simp [hej, h3]
          · rfl
      have hd' : (es.toList.map (·.key)).Pairwise (· ≠ ·) := List.pairwise_map.2 hd
      rw [← hmap] at hd'
      exact List.pairwise_map.1 hd'
    · intro x hx
      rw [hlist] at hx
      rcases who x hx with rfl | ⟨hx', hne⟩
      · exact hm1
      · rw [hm2 _ hne]; exact hv x hx'
    · intro k v e
      rw [hlist]
      by_cases hkk : k = key
      · exact ⟨{ e0 with key := key, val := val }, List.mem_iff_getElem.2 ⟨j, by simpa using hjl, by simp⟩, hkk.symm⟩
      · rw [hm2 _ hkk] at e
        obtain ⟨x, hx, hxk⟩ := hc k v e
        obtain ⟨i, hi, ex⟩ := List.getElem_of_mem hx
        refine ⟨x, List.mem_iff_getElem.2 ⟨i, by simpa using hi, ?_⟩, hxk⟩
        rw [List.getElem_set, if_neg]
        · exact ex
        · intro hji
          subst hji
          rw [hej] at ex
          subst ex
          exact hkk (hxk.symm.trans h3)

theorem MapIs.alloc (h : MapIs P K w B m n) (o : Obj) : MapIs P K (w.alloc o) B m n := h.of_block (heap_alloc_old w o h.lt)
theorem MapIs.drewN (h : MapIs P K w B m n) (q : Nat) : MapIs P K (w.drewN q) B m n := h
theorem MapIs.below {C : Nat} (h : MapIs P K w B m n) (hb : Below C w w') (hB : B < C) : MapIs P K w' B m n := h.of_block (hb.block B hB)

/-- 'len(m)' -/
theorem MapIs.len (ht : P.underlying T = some (.map K E)) (h : MapIs P K w B m n) (ty : TypeId) : (Builtin.len_ #[T] ty #[.map (some B)]).run P w = .ok (.int .i64 n) w := by
  obtain ⟨es, clock, hb, hn, _⟩ := h
  simp [Builtin.len_, run_underlying ht, MapKept.run_getObj_map hb, Result.andThen, hn, goInt]

/-- 'make(map[K]V, hint)' -/
theorem run_makeMap_hint (ht : P.underlying T = some (.map K E)) (x : Int) (w : World) : (Instr.makeMap T (some (.int .i64 x))).run P w = .ok (.map (some w.heap.size)) (w.alloc (.map #[] 0)) := by
  simp [Instr.makeMap, run_underlying ht, Result.andThen, asInt, asIntOf]

end
end Go.Proofs.Qxb6605443a.Own
