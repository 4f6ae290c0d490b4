import Derived.Test.Qxb6605443aGroups
import Derived.Test.Qxb6605443aPartC
import Derived.Deep.RegionHeld3
namespace Go.Proofs.Qxb6605443a.fnTakeScript
open Go.ChangeShapes Go.WideShapes Go.ChangeAt Go.RowKit Go.Maps
open Go.Proofs.Qxb6605443a.Own
set_option linter.unusedVariables false
set_option linter.unusedSimpArgs false

set_option maxRecDepth 100000 in
set_option maxHeartbeats 20000000 in
/-- FROM REGION 50 ON: the buckets and the claims. -/
theorem partB4 (a0 a1 a2 : Option Addr) (n nt nr c0 c1 c2 B10 B15 B17 B13 q13 q15 q17 b10 : Nat) (Pa Ky Rd : Nat → ByteArray) (Ob TO : Nat → Int) (TV : Nat → Bool) (I : Int → Option Bool) (M10 : Value → Option Value)
    (hn : n ≤ 65536) (hnt : nt ≤ 65536) (hnr : nr ≤ 65536) (hq15 : q15 ≤ 65536) (hOb : ∀ j, j < n → (Lit.int .i64 (Ob j)).wf = true) (hTO : ∀ j, j < nt → (Lit.int .i64 (TO j)).wf = true) (hRd : ∀ j, j < nr → (Rd j).size ≤ maxLen) (hPa : ∀ j, j < n → (Pa j).size ≤ maxLen)
    (hI : ∀ j, j < nt → (I (TO j)).isSome = true) (w0 w : World) (hb0 : Below w0.heap.size w0 w) (h13 : w0.heap.size ≤ B13)
    (s0 : SeenE w a0 n Pa Ky Ob) (s1 : SeenT w a1 nt TO TV) (s2 : Seen w a2 nr (fun j => .string (Rd j)))
    (g10 : Grp w b10 B10 34 2 (fun i => [.string (Ky i), .int .i64 (Ob i)]) Pa n M10) (m13 : MapIs Try.prog 3 w B13 (boolMap I) q13) (m15 : MapIs Try.prog 3 w B15 (boolMap I) q15) (m17 : MapIs Try.prog 9 w B17 (strMap (fstR Rd nr)) q17)
    (n10 : B10 ≠ B13) (n15 : B15 ≠ B13) (n17 : B17 ≠ B13)
    (u3 u4 u5 u6 u7 u8 u9 u11 u12 u14 u16 u18 u19 u20 u21 u22 u23 u24 u25 u26 u27 u28 u29 u30 u31 u32 u33 u34 u35 u36 u37 u38 u39 u40 u41 u42 u43 u44 u45 u46 u47 u48 u49 u50 u51 u52 u53 u54 u55 u56 u57 u58 u59 u60 u61 u62 u63 u64 u65 u66 u67 u68 u69 u70 u71 u72 u73 u74 u75 u76 u77 u78 u79 u80 u81 u82 u83 u84 u85 u86 u87 u88 u89 u90 u91 u92 u93 u94 u95 u96 u97 u98 u99 u100 u101 u102 u103 u104 u105 u106 u107 u108 u109 u110 u111 u112 u113 u114 u115 u116 u117 u118 u119 u120 u121 u122 u123 u124 u125 u126 u127 u128 u129 u130 u131 u132 u133 u134 u135 u136 u137 u138 u139 u140 u141 u142 u143 u144 u145 u146 u147 u148 u149 u150 u151 u152 u153 u154 u155 u156 u157 u158 u159 u160 u161 u162 u163 u164 u165 u166 u167 u168 u169 u170 u171 u172 u173 u174 u175 u176 u177 u178 u179 u180 u181 u182 u183 u184 u185 u186 u187 u188 u189 u190 u191 u192 u193 u194 u195 u196 u197 u198 u199 u200 u201 u202 u203 u204 u205 u206 u207 u208 u209 u210 u211 u212 u213 u214 u215 u216 u217 u218 u219 u220 u221 u222 u223 u224 u225 u226 u227 u228 u229 u230 u231 u232 u233 u234 u235 u236 u237 u238 u239 u240 u241 u242 u243 u244 u245 u246 u247 u248 u249 u250 u251 u252 u253 u254 u255 u256 u257 u258 u259 u260 u261 u262 u263 u264 u265 u266 u267 u268 u269 u270 u271 u272 u273 u274 u275 u276 u277 u278 u279 u280 u281 u282 u283 u284 u285 u286 u287 u288 u289 u290 u291 u292 u293 u294 u295 u296 u297 u298 u299 u300 u301 u302 u303 u304 u305 u306 u307 u308 u309 u310 u311 u312 u313 u314 u315 u316 u317 u318 u319 u320 u321 u322 u323 u324 u325 u326 u327 u328 u329 u330 u331 u332 u333 u334 u335 u336 u337 u338 u339 u340 u341 u342 u343 u344 u345 u346 u347 u348 u349 u350 u351 u352 u353 u354 u355 u356 u357 u358 u359 u360 u361 u362 u363 u364 u365 u366 u367 u368 u369 u370 u371 u372 u373 u374 u375 u376 u377 u378 u379 u380 u381 u382 u383 u384 u385 u386 u387 u388 u389 u390 u391 u392 u393 u394 u395 u396 u397 u398 u399 u400 u401 u402 u403 u404 u405 u406 u407 u408 u409 u410 u411 u412 u413 u414 u415 u416 u417 u418 u419 u420 u421 u422 u423 u424 u425 u426 u427 u428 u429 u430 u431 u432 u433 u434 u435 u436 u437 u438 u439 u440 u441 u442 u443 u444 u445 u446 u447 u448 u449 u450 u451 u452 u453 u454 u455 u456 u457 u458 u459 u460 u461 u462 u463 u464 u465 u466 u467 : Value) (K : Act → World → Prop)
    (hK : ∀ a w', Code.wp Try.prog (sndC (dropTo 50 (Try.f3.body.getD .skip))) (bodyPost Try.prog Try.f3 (fun e w' => e = .returned (.bool true) ∧ Below w0.heap.size w0 w')) a w' → K a w') :
    Code.wp Try.prog (fstC (dropTo 50 (Try.f3.body.getD .skip))) (Exit.then K <| bodyPost Try.prog Try.f3 (fun e w' => e = .returned (.bool true) ∧ Below w0.heap.size w0 w')) ⟨#[.slice a0 n c0, .slice a1 nt c1, .slice a2 nr c2, u3, u4, u5, u6, u7, u8, u9, .map (some B10), u11, u12, .map (some B13), u14, .map (some B15), u16, .map (some B17), u18, u19, u20, u21, u22, u23, u24, u25, u26, u27, u28, u29, u30, u31, u32, u33, u34, u35, u36, u37, u38, u39, u40, u41, u42, u43, u44, u45, u46, u47, u48, u49, u50, u51, u52, u53, u54, u55, u56, u57, u58, u59, u60, u61, u62, u63, u64, u65, u66, u67, u68, u69, u70, u71, u72, u73, u74, u75, u76, u77, u78, u79, u80, u81, u82, u83, u84, u85, u86, u87, u88, u89, u90, u91, u92, u93, u94, u95, u96, u97, u98, u99, u100, u101, u102, u103, u104, u105, u106, u107, u108, u109, u110, u111, u112, u113, u114, u115, u116, u117, u118, u119, u120, u121, u122, u123, u124, u125, u126, u127, u128, u129, u130, u131, u132, u133, u134, u135, u136, u137, u138, u139, u140, u141, u142, u143, u144, u145, u146, u147, u148, u149, u150, u151, u152, u153, u154, u155, u156, u157, u158, u159, u160, u161, u162, u163, u164, u165, u166, u167, u168, u169, u170, u171, u172, u173, u174, u175, u176, u177, u178, u179, u180, u181, u182, u183, u184, u185, u186, u187, u188, u189, u190, u191, u192, u193, u194, u195, u196, u197, u198, u199, u200, u201, u202, u203, u204, u205, u206, u207, u208, u209, u210, u211, u212, u213, u214, u215, u216, u217, u218, u219, u220, u221, u222, u223, u224, u225, u226, u227, u228, u229, u230, u231, u232, u233, u234, u235, u236, u237, u238, u239, u240, u241, u242, u243, u244, u245, u246, u247, u248, u249, u250, u251, u252, u253, u254, u255, u256, u257, u258, u259, u260, u261, u262, u263, u264, u265, u266, u267, u268, u269, u270, u271, u272, u273, u274, u275, u276, u277, u278, u279, u280, u281, u282, u283, u284, u285, u286, u287, u288, u289, u290, u291, u292, u293, u294, u295, u296, u297, u298, u299, u300, u301, u302, u303, u304, u305, u306, u307, u308, u309, u310, u311, u312, u313, u314, u315, u316, u317, u318, u319, u320, u321, u322, u323, u324, u325, u326, u327, u328, u329, u330, u331, u332, u333, u334, u335, u336, u337, u338, u339, u340, u341, u342, u343, u344, u345, u346, u347, u348, u349, u350, u351, u352, u353, u354, u355, u356, u357, u358, u359, u360, u361, u362, u363, u364, u365, u366, u367, u368, u369, u370, u371, u372, u373, u374, u375, u376, u377, u378, u379, u380, u381, u382, u383, u384, u385, u386, u387, u388, u389, u390, u391, u392, u393, u394, u395, u396, u397, u398, u399, u400, u401, u402, u403, u404, u405, u406, u407, u408, u409, u410, u411, u412, u413, u414, u415, u416, u417, u418, u419, u420, u421, u422, u423, u424, u425, u426, u427, u428, u429, u430, u431, u432, u433, u434, u435, u436, u437, u438, u439, u440, u441, u442, u443, u444, u445, u446, u447, u448, u449, u450, u451, u452, u453, u454, u455, u456, u457, u458, u459, u460, u461, u462, u463, u464, u465, u466, u467], []⟩ w := by
  conv => arg 2; whnf
  conv at hK => enter [a, w', 1, 2]; whnf
  have HO : Hid _ := hOb
  have HT : Hid _ := hTO
  have HR : Hid _ := hRd
  have HP : Hid _ := hPa
  have HI : Hid _ := hI
  have HB : Hid (Below w0.heap.size w0 w) := hb0
  clear hOb hTO hI hb0 hRd hPa
  have hmk40 := fun w => run_makeMap (P := Try.prog) 40 w
  have hmk41 := fun w => run_makeMap (P := Try.prog) 41 w
  obtain ⟨i3, hi3, hy0, hy1, hy2⟩ := info_parts Try.info3
  go_wp2
  go_loopw [23] (fun i wr => ∃ k q : Nat, ∃ M, k ≤ n ∧ i = .int .i64 k ∧ Below w.heap.size w wr ∧ Grp wr w.heap.size w.heap.size 3 1 (fun i => [.int .i64 (i : Nat)]) Pa k M ∧ MapIs Try.prog 3 wr (w.heap.size + 1) (natMap (clm Pa Ob I (fstR Rd nr) k)) q) (fun i _ => n - (intOf i).toNat)
  case atStart =>
    refine ⟨0, 0, fun _ => none, Nat.zero_le _, rfl, ((Below.refl _ _).alloc (Nat.le_refl _) _).alloc (by simp) _, (Grp.made w _ _ _ _ _).grown (below_grown ((Below.refl _ _).alloc (Nat.le_refl _) _) none), ?_⟩
    have := MapIs.made (P := Try.prog) (K := 3) (w.alloc (.map #[] 0))
    have e : (w.alloc (.map #[] 0)).heap.size = w.heap.size + 1 := by simp
    rw [e] at this
    exact this.congr fun v => by unfold natMap clm; cases v <;> simp <;> split <;> simp
  case round =>
    obtain ⟨k, q, M, hk, rfl, hb, hG, hm⟩ := hrel
    clear hmk40 hmk41
    by_cases hlt : k < n
    · obtain ⟨b, off, rfl, hc⟩ := s0.2 (by omega)
      obtain ⟨e1, e2, e3⟩ := hc k hlt
      have hbl := World.block_lt_of_cell? w _ e1
      have f1 := (hb.cell (p := ⟨b, off + k * 3, none⟩) hbl).trans e1
      have f2 := (hb.cell (p := ⟨b, off + k * 3 + 1, none⟩) hbl).trans e2
      have f3 := (hb.cell (p := ⟨b, off + k * 3 + 2, none⟩) hbl).trans e3
      have hk1 : (k : Int) < n := by omega
      clear e1 e2 e3 hc
      go_upto_region 56 with (fail)
      obtain ⟨wa, hwa⟩ : ∃ wa, wa = wr.alloc (Obj.cells #[.string (Pa k), .string (Ky k), .int .i64 (Ob k)] 27) := ⟨_, rfl⟩
      have hsa : wr.heap.size < wa.heap.size := by rw [hwa]; simp
      have hba : Below w.heap.size w wa := by rw [hwa]; exact hb.alloc hb.size _
      have hga : wr.grownBy wa none := by rw [hwa]; exact below_grown ((Below.refl _ _).alloc (Nat.le_refl _) _) none
      have g0 : wa.cell? ⟨wr.heap.size, 0, none⟩ = some (.string (Pa k)) := by rw [hwa]; exact cell_new _ _ _ _
      have g1 : wa.cell? ⟨wr.heap.size, 1, none⟩ = some (.string (Ky k)) := by rw [hwa]; exact cell_new _ _ _ _
      have g2 : wa.cell? ⟨wr.heap.size, 2, none⟩ = some (.int .i64 (Ob k)) := by rw [hwa]; exact cell_new _ _ _ _
      rw [← hwa]
      obtain ⟨X, hX⟩ : ∃ X, wr.heap.size = X := ⟨_, rfl⟩
      rw [hX] at g0 g1 g2 hsa ⊢
      clear hwa
      have hPk := HP.out k hlt
      obtain ⟨q21, m21⟩ := hG.map
      have m21a : MapIs Try.prog 9 wa.drew w.heap.size M q21 := m21.of_block (hga.block _ m21.lt (by simp))
      have hkeyP := WideMaps.keyOf_string_mk (P := Try.prog) (k := 9) Try.underlying9 hPk
      have l21 : (Instr.lookup 40 (.map (some w.heap.size)) (.string (Pa k)) false).run Try.prog wa.drew = .ok (at_ M (Pa k)) wa.drew := by
        have := m21a.look false (T := 40) law9 Try.underlying40 (z := .slice none 0 0) (by kernel_rfl) hkeyP
        rw [if_neg (by decide)] at this
        exact this
      have l21' : (Instr.lookup 40 (.map (some w.heap.size)) (.string (Pa k)) false).run Try.prog (wa.drew.alloc (.cells #[.int .i64 (k : Nat)] 3)) = .ok (at_ M (Pa k)) (wa.drew.alloc (.cells #[.int .i64 (k : Nat)] 3)) := by
        have := (m21a.alloc (.cells #[.int .i64 (k : Nat)] 3)).look false (T := 40) law9 Try.underlying40 (z := .slice none 0 0) (by kernel_rfl) hkeyP
        rw [if_neg (by decide)] at this
        exact this
      have hgb : wr.grownBy (wa.drew.alloc (.cells #[.int .i64 (k : Nat)] 3)) none := hga.trans (below_grown (((Below.refl wa.heap.size wa).drew).alloc (Nat.le_refl _) _) none)
      have hownB := (hG.grown hgb).own (Pa k)
      have hil := idx_len Pa (Pa k) k
      have hupd : Hid _ := hG.upd (T := 40) (H := (wa.drew.alloc (.cells #[.int .i64 (k : Nat)] 3)).heap.size) hgb hgb.size hb.size (Nat.le_refl _) (.inr Try.underlying40) hPk
      clear m21 m21a hkeyP
      obtain ⟨len, hlenE⟩ : ∃ len, (idx Pa k (Pa k)).length = len := ⟨_, rfl⟩
      obtain ⟨v0, hv0⟩ : ∃ v0, at_ M (Pa k) = v0 := ⟨_, rfl⟩
      rw [hlenE] at hil
      rw [hlenE, hv0] at hupd hownB
      rw [hv0] at l21 l21'
      have c0 : wa.drew.cell? ⟨X, 0, none⟩ = some (.string (Pa k)) := g0
      have c0' : (wa.drew.alloc (.cells #[.int .i64 (k : Nat)] 3)).cell? ⟨X, 0, none⟩ = some (.string (Pa k)) := (heap_cell_old wa.drew _ hsa).trans g0
      have l21'' : (Instr.lookup 40 (.map (some w.heap.size)) (.string (Pa k)) false).run Try.prog (wa.alloc (.cells #[.int .i64 (k : Nat)] 3)).drew = .ok v0 (wa.alloc (.cells #[.int .i64 (k : Nat)] 3)).drew := l21'
      have c0'' : (wa.alloc (.cells #[.int .i64 (k : Nat)] 3)).drew.cell? ⟨X, 0, none⟩ = some (.string (Pa k)) := c0'
      have hnewsB : Hid (∀ j u, [Value.int .i64 (k : Nat)][j]? = some u → (wa.alloc (.cells #[.int .i64 (k : Nat)] 3)).drew.cell? ((⟨wa.heap.size, 0, none⟩ : Addr).add j) = some u) := cell_one_new wa.drew _ _
      have hXo : v0.ownBlock ≠ some X := fun e => by
        rw [← hv0] at e
        have := ((hG.own (Pa k)).lt X e).2
        omega
      have hXB : X ≠ w.heap.size := by have := (hG.map).choose_spec.lt; omega
      have h22o : v0.ownBlock ≠ some (w.heap.size + 1) := fun e => by
        rcases row_map (hG.own (Pa k)) hm with e' | e'
        · rw [hv0, e] at e'; cases e'
        · exact e' (by rw [hv0]; exact e)
      have hmlt := hm.lt
      have HC2 : Hid ((wa.drew.alloc (.cells #[.int .i64 (k : Nat)] 3)).cell? ⟨X, 2, none⟩ = some (.int .i64 (Ob k))) := (heap_cell_old wa.drew _ hsa).trans g2
      go_cut [] from 241 to 291 (fun wc => ∃ M', Below w.heap.size w wc ∧ Grp wc w.heap.size w.heap.size 3 1 (fun i => [.int .i64 (i : Nat)]) Pa (k + 1) M' ∧ MapIs Try.prog 3 wc (w.heap.size + 1) (natMap (clm Pa Ob I (fstR Rd nr) k)) q ∧ wc.cell? ⟨X, 0, none⟩ = some (.string (Pa k)) ∧ wc.cell? ⟨X, 2, none⟩ = some (.int .i64 (Ob k)))
      case first =>
        go_region_held3 (fun w' => w'.cell? ⟨X, 0, none⟩ = some (.string (Pa k)))
          (with_reducible assumption)
          (first | (refine step_append_lies _ rfl _ _ 42 rfl w.heap.size 3 i3 (.int .i64 0) 1 8 Try.underlying42 hi3 hy0 hy1 hy2 rfl (by decide) v0 len _ rfl hownB ⟨wa.heap.size, 0, none⟩ 1 1 [.int .i64 (k : Nat)] rfl rfl hnewsB.out (fun u hu => by rw [List.mem_singleton.1 hu]; rfl) (by decide) (by unfold maxLen; omega) (by omega) (Nat.le_trans hb.size hgb.size) _ rfl ?_; intro g cap w1 hown hgrow hat hltg; obtain ⟨w2, hrun, hbel, hgrp, hblk, hblk1⟩ := hupd.out g cap w1 hown hgrow hat; have hcell1 : w1.cell? ⟨X, 0, none⟩ = some (.string (Pa k)) := (hgrow.cell_far ⟨X, 0, none⟩ (by simp; omega) (Ne.symm hXo)).trans c0'; have hcell2 : w2.cell? ⟨X, 0, none⟩ = some (.string (Pa k)) := (World.cell?_of_block (hblk1 X (by simp; omega) hXB hXo)).trans c0'))
        · go_wp2_with fail
          go_meet
          exact ⟨_, hb.trans hbel, hgrp, hm.of_block (hblk _ hmlt (by omega) h22o), hcell2, (World.cell?_of_block (a := ⟨X, 2, none⟩) (hblk1 X (by simp; omega) hXB hXo)).trans HC2.out⟩
        · go_wp2_with fail
          go_meet
          exact ⟨_, hb.trans hbel, hgrp, hm.of_block (hblk _ hmlt (by omega) h22o), hcell2, (World.cell?_of_block (a := ⟨X, 2, none⟩) (hblk1 X (by simp; omega) hXB hXo)).trans HC2.out⟩
      case rest =>
        obtain ⟨M', hbc, hGc, hmc, k0, k2⟩ := hcut
        clear l21 l21' l21'' c0 c0' c0'' hownB hupd hnewsB g0 g1 g2 hga hba hgb hb hG hm f1 f2 f3 hXo h22o hmlt HC2
        have hkey := keyOf_int_mk (P := Try.prog) Try.underlying3 (HO.out k hlt)
        have l15 := (m15.below hbc m15.lt).look false (T := 35) law3 Try.underlying35 (zero4 wc) hkey
        have l17 := (m17.below hbc m17.lt).look true (T := 38) law9 Try.underlying38 (zero3 wc) (WideMaps.keyOf_string_mk Try.underlying9 hPk)
        have l22 := hmc.look true (T := 41) law3 Try.underlying41 (zero3 wc) hkey
        have hval : (boolMap I (.int .i64 (Ob k))).getD (.bool false) = .bool (decide (I (Ob k) = some true)) := by
          cases hf : I (Ob k) with
          | none => simp [boolMap, hf]
          | some b => cases b <;> simp [boolMap, hf]
        rw [if_neg (by decide), hval] at l15
        clear hval
        by_cases hIk : I (Ob k) = some true
        · rw [decide_eq_true hIk] at l15
          have hkeep : Hid _ := clm_keep (Pa := Pa) (F := fstR Rd nr) (.inl hIk)
          have HIk : Hid _ := hIk
          clear l17 l22 hIk hkey
          go_wp2
          go_roundw
          case rel => exact ⟨k + 1, q, M', by omega, by go_num, hbc, hGc, by rw [hkeep.out]; exact hmc⟩
          case measure => simp [intOf]; omega
        · rw [decide_eq_false hIk] at l15
          cases hFk : fstR Rd nr (Pa k) with
          | none =>
            simp only [strMap, hFk, if_true, Option.map_none, Option.getD_none, Option.isSome_none] at l17
            have hkeep : Hid _ := clm_keep (Pa := Pa) (F := fstR Rd nr) (Ob := Ob) (I := I) (.inr (.inl hFk))
            have HIk : Hid _ := hIk
            have HFk : Hid _ := hFk
            clear l22 hIk hFk hkey
            go_wp2
            go_roundw
            case rel => exact ⟨k + 1, q, M', by omega, by go_num, hbc, hGc, by rw [hkeep.out]; exact hmc⟩
            case measure => simp [intOf]; omega
          | some s =>
            simp only [strMap, hFk, if_true, Option.map_some, Option.getD_some, Option.isSome_some] at l17
            have hsr := (fstR_some hFk).1
            cases hck : clm Pa Ob I (fstR Rd nr) k (Ob k) with
            | none =>
              simp only [natMap, hck, if_true, Option.map_none, Option.getD_none, Option.isSome_none] at l22
              obtain ⟨p1, p2⟩ := clm_put (Pa := Pa) (Ob := Ob) hIk hFk (.inl hck)
              obtain ⟨p3, p4⟩ := natMap_put p1 p2
              obtain ⟨w3, hrun, hm3, hg3, hs3⟩ := MapIs.update (w := wc) (T := 41) law3 Try.underlying41 hmc hkey p3 p4
              have hfin := after41 hbc hGc hmc hg3
              have HIk : Hid _ := hIk
              have HFk : Hid _ := hFk
              have Hck : Hid _ := hck
              clear hIk hFk hck hkey p1 p2 p3 p4
              go_wp2
              go_roundw
              case rel => exact ⟨k + 1, _, M', by omega, by go_num, hfin.1, hfin.2, hm3⟩
              case measure => simp [intOf]; omega
            | some c =>
              simp only [natMap, hck, if_true, Option.map_some, Option.getD_some, Option.isSome_some] at l22
              by_cases hsc : s < c
              · obtain ⟨p1, p2⟩ := clm_put (Pa := Pa) (Ob := Ob) hIk hFk (.inr ⟨c, hck, hsc⟩)
                obtain ⟨p3, p4⟩ := natMap_put p1 p2
                obtain ⟨w3, hrun, hm3, hg3, hs3⟩ := MapIs.update (w := wc) (T := 41) law3 Try.underlying41 hmc hkey p3 p4
                have hfin := after41 hbc hGc hmc hg3
                have hsc' : (s : Int) < c := by omega
                have HIk : Hid _ := hIk
                have HFk : Hid _ := hFk
                have Hck : Hid _ := hck
                clear hIk hFk hck hkey p1 p2 p3 p4
                go_wp2
                go_roundw
                case rel => exact ⟨k + 1, _, M', by omega, by go_num, hfin.1, hfin.2, hm3⟩
                case measure => simp [intOf]; omega
              · have hkeep : Hid _ := clm_keep (Pa := Pa) (F := fstR Rd nr) (Ob := Ob) (I := I) (.inr (.inr ⟨s, c, hFk, hck, hsc⟩))
                have hsc' : ¬ (s : Int) < c := by omega
                have HIk : Hid _ := hIk
                have HFk : Hid _ := hFk
                have Hck : Hid _ := hck
                clear hIk hFk hck hkey
                go_wp2
                go_roundw
                case rel => exact ⟨k + 1, q, M', by omega, by go_num, hbc, hGc, by rw [hkeep.out]; exact hmc⟩
                case measure => simp [intOf]; omega
    · have ek : n = k := by omega
      subst ek
      have hbz : Below w0.heap.size w0 wr := HB.out.trans (hb.mono HB.out.size)
      have hlt13 := m13.lt
      have cx : Ctx wr B10 B15 B17 w.heap.size (w.heap.size + 1) B13 n nt nr a0 a1 a2 Pa Ky Rd Ob TO TV I M10 M :=
        { s0 := s0.below hb, s1 := s1.below hb, s2 := Seen.below s2 hb, m10 := g10.map.imp fun _ x => x.below hb x.lt, m15 := ⟨q15, hq15, m15.below hb m15.lt⟩, m17 := ⟨q17, m17.below hb m17.lt⟩, m21 := hG.map, m22 := ⟨q, hm⟩, n10 := n10, n15 := n15, n17 := n17, n21 := by omega, n22 := by omega,
          g10 := (g10.grown (below_grown hb none)).seenR, g21 := hG.seenI hn }
      have m13' := m13.below hb m13.lt
      go_upto_region 63 with (fail)
      exact partC a0 a1 a2 n nt nr _ _ _ B10 B15 B17 _ _ B13 q13 Pa Ky Rd Ob TO TV I M10 M hn hnt hnr HO.out HT.out HR.out HI.out w0 wr hbz h13 cx m13' _ _ _ _ _ _ _ _ _ _ _ _ _ _ _ _ _ _ _ _ _ _ _ _ _ _ _ _ _ _ _ _ _ _ _ _ _ _ _ _ _ _ _ _ _ _ _ _ _ _ _ _ _ _ _ _ _ _ _ _ _ _ _ _ _ _ _ _ _ _ _ _ _ _ _ _ _ _ _ _ _ _ _ _ _ _ _ _ _ _ _ _ _ _ _ _ _ _ _ _ _ _ _ _ _ _ _ _ _ _ _ _ _ _ _ _ _ _ _ _ _ _ _ _ _ _ _ _ _ _ _ _ _ _ _ _ _ _ _ _ _ _ _ _ _ _ _ _ _ _ _ _ _ _ _ _ _ _ _ _ _ _ _ _ _ _ _ _ _ _ _ _ _ _ _ _ _ _ _ _ _ _ _ _ _ _ _ _ _ _ _ _ _ _ _ _ _ _ _ _ _ _ _ _ _ _ _ _ _ _ _ _ _ _ _ _ _ _ _ _ _ _ _ _ _ _ _ _ _ _ _ _ _ _ _ _ _ _ _ _ _ _ _ _ _ _ _ _ _ _ _ _ _ _ _ _ _ _ _ _ _ _ _ _ _ _ _ _ _ _ _ _ _ _ _ _ _ _ _ _ _ _ _ _ _ _ _ _ _ _ _ _ _ _ _ _ _ _ _ _ _ _ _ _ _ _ _ _ _ _ _ _ _ _ _ _ _ _ _ _ _ _ _ _ _ _ _ _ _ _ _ _ _ _ _ _ _ _ _ _ _ _ _ _ _ _ _ _ _ _ _ _ _ _ _ _ _ _ _ _ _ _ _ _ _ _ _ _ _ _ _ _ _ _ _ _ _ _ _ _ _ _ _ _ _ _ _ _ _ _ _ _ _ _ _ _ _ _ _ _ _ _ _ _ _ _ _ _ _ _ _ _ _ _ _ _ _ _ _ _ _ _ _ _ _ _ _ _ _ _ _ _ _ _ _ _ _ _ _ _ _ _ _ _ _ _ _ _ _ _ _ _ _ _ _ _ _ _ _ _ _ (by assumption) (by assumption)
end Go.Proofs.Qxb6605443a.fnTakeScript
