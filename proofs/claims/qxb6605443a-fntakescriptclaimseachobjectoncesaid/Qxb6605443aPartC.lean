import Derived.Test.Qxb6605443aCtx
import Derived.Test.Qxb6605443aPartD
namespace Go.Proofs.Qxb6605443a.fnTakeScript
open Go.ChangeShapes Go.WideShapes Go.ChangeAt Go.RowKit Go.Maps
open Go.Proofs.Qxb6605443a.Own
set_option linter.unusedVariables false
set_option linter.unusedSimpArgs false

set_option maxRecDepth 100000 in
set_option maxHeartbeats 20000000 in
/-- FROM REGION 63 ON: the steps of the script. -/
theorem partC (a0 a1 a2 : Option Addr) (n nt nr c0 c1 c2 B10 B15 B17 B21 B22 B13 q13 : Nat) (Pa Ky Rd : Nat → ByteArray) (Ob TO : Nat → Int) (TV : Nat → Bool) (I : Int → Option Bool) (M10 M21 : Value → Option Value)
    (hn : n ≤ 65536) (hnt : nt ≤ 65536) (hnr : nr ≤ 65536) (hOb : ∀ j, j < n → (Lit.int .i64 (Ob j)).wf = true) (hTO : ∀ j, j < nt → (Lit.int .i64 (TO j)).wf = true) (hRd : ∀ j, j < nr → (Rd j).size ≤ maxLen)
    (hI : ∀ j, j < nt → (I (TO j)).isSome = true) (w0 w : World) (hb0 : Below w0.heap.size w0 w) (h13 : w0.heap.size ≤ B13)
    (cx : Ctx w B10 B15 B17 B21 B22 B13 n nt nr a0 a1 a2 Pa Ky Rd Ob TO TV I M10 M21) (m13 : MapIs Try.prog 3 w B13 (boolMap I) q13)
    (u3 u4 u5 u6 u7 u8 u9 u11 u12 u14 u16 u18 u19 u20 u23 u24 u25 u26 u27 u28 u29 u30 u31 u32 u33 u34 u35 u36 u37 u38 u39 u40 u41 u42 u43 u44 u45 u46 u47 u48 u49 u50 u51 u52 u53 u54 u55 u56 u57 u58 u59 u60 u61 u62 u63 u64 u65 u66 u67 u68 u69 u70 u71 u72 u73 u74 u75 u76 u77 u78 u79 u80 u81 u82 u83 u84 u85 u86 u87 u88 u89 u90 u91 u92 u93 u94 u95 u96 u97 u98 u99 u100 u101 u102 u103 u104 u105 u106 u107 u108 u109 u110 u111 u112 u113 u114 u115 u116 u117 u118 u119 u120 u121 u122 u123 u124 u125 u126 u127 u128 u129 u130 u131 u132 u133 u134 u135 u136 u137 u138 u139 u140 u141 u142 u143 u144 u145 u146 u147 u148 u149 u150 u151 u152 u153 u154 u155 u156 u157 u158 u159 u160 u161 u162 u163 u164 u165 u166 u167 u168 u169 u170 u171 u172 u173 u174 u175 u176 u177 u178 u179 u180 u181 u182 u183 u184 u185 u186 u187 u188 u189 u190 u191 u192 u193 u194 u195 u196 u197 u198 u199 u200 u201 u202 u203 u204 u205 u206 u207 u208 u209 u210 u211 u212 u213 u214 u215 u216 u217 u218 u219 u220 u221 u222 u223 u224 u225 u226 u227 u228 u229 u230 u231 u232 u233 u234 u235 u236 u237 u238 u239 u240 u241 u242 u243 u244 u245 u246 u247 u248 u249 u250 u251 u252 u253 u254 u255 u256 u257 u258 u259 u260 u261 u262 u263 u264 u265 u266 u267 u268 u269 u270 u271 u272 u273 u274 u275 u276 u277 u278 u279 u280 u281 u282 u283 u284 u285 u286 u287 u288 u289 u290 u291 u292 u293 u294 u295 u296 u297 u298 u299 u300 u301 u302 u303 u304 u305 u306 u307 u308 u309 u310 u311 u312 u313 u314 u315 u316 u317 u318 u319 u320 u321 u322 u323 u324 u325 u326 u327 u328 u329 u330 u331 u332 u333 u334 u335 u336 u337 u338 u339 u340 u341 u342 u343 u344 u345 u346 u347 u348 u349 u350 u351 u352 u353 u354 u355 u356 u357 u358 u359 u360 u361 u362 u363 u364 u365 u366 u367 u368 u369 u370 u371 u372 u373 u374 u375 u376 u377 u378 u379 u380 u381 u382 u383 u384 u385 u386 u387 u388 u389 u390 u391 u392 u393 u394 u395 u396 u397 u398 u399 u400 u401 u402 u403 u404 u405 u406 u407 u408 u409 u410 u411 u412 u413 u414 u415 u416 u417 u418 u419 u420 u421 u422 u423 u424 u425 u426 u427 u428 u429 u430 u431 u432 u433 u434 u435 u436 u437 u438 u439 u440 u441 u442 u443 u444 u445 u446 u447 u448 u449 u450 u451 u452 u453 u454 u455 u456 u457 u458 u459 u460 u461 u462 u463 u464 u465 u466 u467 : Value) (K1 K2 : Act → World → Prop)
    (hK1 : ∀ a w', Code.wp Try.prog (sndC (fstC (dropTo 63 (Try.f3.body.getD .skip)))) (Exit.then K2 (bodyPost Try.prog Try.f3 (fun e w' => e = .returned (.bool true) ∧ Below w0.heap.size w0 w'))) a w' → K1 a w')
    (hK2 : ∀ a w', Code.wp Try.prog (sndC (dropTo 63 (Try.f3.body.getD .skip))) (bodyPost Try.prog Try.f3 (fun e w' => e = .returned (.bool true) ∧ Below w0.heap.size w0 w')) a w' → K2 a w') :
    Code.wp Try.prog (fstC (fstC (dropTo 63 (Try.f3.body.getD .skip)))) (Exit.then K1 (Exit.then K2 (bodyPost Try.prog Try.f3 (fun e w' => e = .returned (.bool true) ∧ Below w0.heap.size w0 w')))) ⟨#[.slice a0 n c0, .slice a1 nt c1, .slice a2 nr c2, u3, u4, u5, u6, u7, u8, u9, .map (some B10), u11, u12, .map (some B13), u14, .map (some B15), u16, .map (some B17), u18, u19, u20, .map (some B21), .map (some B22), u23, u24, u25, u26, u27, u28, u29, u30, u31, u32, u33, u34, u35, u36, u37, u38, u39, u40, u41, u42, u43, u44, u45, u46, u47, u48, u49, u50, u51, u52, u53, u54, u55, u56, u57, u58, u59, u60, u61, u62, u63, u64, u65, u66, u67, u68, u69, u70, u71, u72, u73, u74, u75, u76, u77, u78, u79, u80, u81, u82, u83, u84, u85, u86, u87, u88, u89, u90, u91, u92, u93, u94, u95, u96, u97, u98, u99, u100, u101, u102, u103, u104, u105, u106, u107, u108, u109, u110, u111, u112, u113, u114, u115, u116, u117, u118, u119, u120, u121, u122, u123, u124, u125, u126, u127, u128, u129, u130, u131, u132, u133, u134, u135, u136, u137, u138, u139, u140, u141, u142, u143, u144, u145, u146, u147, u148, u149, u150, u151, u152, u153, u154, u155, u156, u157, u158, u159, u160, u161, u162, u163, u164, u165, u166, u167, u168, u169, u170, u171, u172, u173, u174, u175, u176, u177, u178, u179, u180, u181, u182, u183, u184, u185, u186, u187, u188, u189, u190, u191, u192, u193, u194, u195, u196, u197, u198, u199, u200, u201, u202, u203, u204, u205, u206, u207, u208, u209, u210, u211, u212, u213, u214, u215, u216, u217, u218, u219, u220, u221, u222, u223, u224, u225, u226, u227, u228, u229, u230, u231, u232, u233, u234, u235, u236, u237, u238, u239, u240, u241, u242, u243, u244, u245, u246, u247, u248, u249, u250, u251, u252, u253, u254, u255, u256, u257, u258, u259, u260, u261, u262, u263, u264, u265, u266, u267, u268, u269, u270, u271, u272, u273, u274, u275, u276, u277, u278, u279, u280, u281, u282, u283, u284, u285, u286, u287, u288, u289, u290, u291, u292, u293, u294, u295, u296, u297, u298, u299, u300, u301, u302, u303, u304, u305, u306, u307, u308, u309, u310, u311, u312, u313, u314, u315, u316, u317, u318, u319, u320, u321, u322, u323, u324, u325, u326, u327, u328, u329, u330, u331, u332, u333, u334, u335, u336, u337, u338, u339, u340, u341, u342, u343, u344, u345, u346, u347, u348, u349, u350, u351, u352, u353, u354, u355, u356, u357, u358, u359, u360, u361, u362, u363, u364, u365, u366, u367, u368, u369, u370, u371, u372, u373, u374, u375, u376, u377, u378, u379, u380, u381, u382, u383, u384, u385, u386, u387, u388, u389, u390, u391, u392, u393, u394, u395, u396, u397, u398, u399, u400, u401, u402, u403, u404, u405, u406, u407, u408, u409, u410, u411, u412, u413, u414, u415, u416, u417, u418, u419, u420, u421, u422, u423, u424, u425, u426, u427, u428, u429, u430, u431, u432, u433, u434, u435, u436, u437, u438, u439, u440, u441, u442, u443, u444, u445, u446, u447, u448, u449, u450, u451, u452, u453, u454, u455, u456, u457, u458, u459, u460, u461, u462, u463, u464, u465, u466, u467], []⟩ w := by
  conv => arg 2; whnf
  conv at hK1 => enter [a, w', 1, 2]; whnf
  conv at hK2 => enter [a, w', 1, 2]; whnf
  obtain ⟨C, hCdef⟩ : ∃ C, clm Pa Ob I (fstR Rd nr) n = C := ⟨_, rfl⟩
  have HO : Hid _ := hOb
  have HT : Hid _ := hTO
  have HR : Hid _ := hRd
  have HI : Hid _ := hI
  have HB : Hid (Below w0.heap.size w0 w) := hb0
  have HCd : Hid _ := hCdef
  clear hOb hTO hI hb0 hRd hCdef
  obtain ⟨i9, hi9, hz0, hz1, hz2⟩ := info_parts Try.info9
  go_wp2
  go_loopw [29] (fun i wr => ∃ t q : Nat, t ≤ nr ∧ i = .int .i64 t ∧ w.grownBy wr (some B13) ∧ MapIs Try.prog 3 wr B13 (boolMap (tk I C t)) q) (fun i _ => nr - (intOf i).toNat)
  case atStart => exact ⟨0, q13, Nat.zero_le _, rfl, ⟨rfl, rfl, rfl, Nat.le_refl _, fun _ _ _ => rfl⟩, by rw [tk_zero]; exact m13⟩
  case round =>
    obtain ⟨t, q, ht, rfl, hg, hm⟩ := hrel
    have cr := cx.far hg m13
    by_cases hlt : t < nr
    · obtain ⟨b2, off2, rfl, hc2⟩ := cr.s2.2 (by omega)
      have e2 := hc2 t hlt
      have hk1 : (t : Int) < nr := by omega
      have hp := HR.out t hlt
      obtain ⟨q10, m10⟩ := cr.m10
      obtain ⟨ag, cg, hM, sR⟩ := cr.g10 (Rd t)
      obtain ⟨cnt, hcnt⟩ : ∃ cnt, (idx Pa n (Rd t)).length = cnt := ⟨_, rfl⟩
      rw [hcnt] at hM sR
      have hcn : cnt ≤ 65536 := by have := idx_len Pa (Rd t) n; omega
      have hgi : Hid (∀ j, j < cnt → gi Pa n (Rd t) j < n) := fun j hj => (gi_lt (by rw [hcnt]; exact hj)).1
      clear hc2
      go_wp2_with fail
      refine (zztake_any B10 B13 q10 q cnt cg ag (Rd t) M10 (tk I C t) (fun j => Ky (gi Pa n (Rd t) j)) (fun j => Ob (gi Pa n (Rd t) j)) wr hp m10 hM hcn sR (fun j hj => HO.out _ (hgi.out j hj)) hm).mono ?_
      rintro e w1 ⟨a', c', q', rfl, hnone, hg1, sG, hm1⟩
      have hstep : marked (tk I C t) ((kp (tk I C t) (fun j => Ob (gi Pa n (Rd t) j)) cnt).map (fun j => Ob (gi Pa n (Rd t) j))) = tk I C (t + 1) := by
        rw [← HCd.out, ← hcnt]; exact step_tk hlt
      rw [hstep] at hm1
      have c1' := cr.far hg1 hm
      have hgw := hg.trans hg1
      have hlen := kp_len (tk I C t) (fun j => Ob (gi Pa n (Rd t) j)) cnt
      obtain ⟨s, hs, hF⟩ := fstR_read (Rd := Rd) (p := Rd t) hlt rfl
      obtain ⟨q17, m17⟩ := c1'.m17
      have l17 := m17.look false (T := 38) law9 Try.underlying38 (zero3 w1) (WideMaps.keyOf_string_mk Try.underlying9 hp)
      simp only [strMap, hF, Bool.false_eq_true, if_false, Option.map_some, Option.getD_some] at l17
      have e2' := (hg1.cell_far ⟨b2, off2 + t, none⟩ (World.block_lt_of_cell? wr _ e2) (fun e => cell_map e2 hm (by simpa using e))).trans e2
      have HF : Hid _ := hF
      have Hcnt : Hid _ := hcnt
      obtain ⟨L, hL⟩ : ∃ L, kp (tk I C t) (fun j => Ob (gi Pa n (Rd t) j)) cnt = L := ⟨_, rfl⟩
      rw [hL] at hnone sG hlen ⊢
      have HL : Hid _ := hL
      have HN : Hid _ := hnone
      clear hstep hF hcnt hL hnone m10 hM sR m17 e2 cr hg hm hg1
      go_upto_if 312 with (fail)
      go_cut [31] from 292 to 377 (fun v31 wc => Below w1.heap.size w1 wc ∧ ∃ a c, v31 = .slice a L.length c ∧ Seen wc a L.length (fun j => .string (Ky (gi Pa n (Rd t) (L.getD j 0)))))
      case first =>
        by_cases est : s = t
        · subst est
          have htt : ((s : Int) == s) = true := by simp
          obtain ⟨q21, m21⟩ := c1'.m21
          obtain ⟨q22, m22⟩ := c1'.m22
          obtain ⟨a21, c21, hM21, s21⟩ := c1'.g21 (Rd s)
          rw [Hcnt.out] at hM21 s21
          have l21 := m21.look false (T := 40) law9 Try.underlying40 (z := .slice none 0 0) (by kernel_rfl) (WideMaps.keyOf_string_mk Try.underlying9 hp)
          rw [if_neg (by decide), hM21] at l21
          have HM21 : Hid _ := hM21
          clear m21 l17 hM21
          go_wp2
          go_loopw [31, 33] (fun v i wr => ∃ k : Nat, k ≤ cnt ∧ i = .int .i64 k ∧ Below w1.heap.size w1 wr ∧ wr.ownsRow w1.heap.size 9 1 v (kp (tk I C s) (fun j => Ob (gi Pa n (Rd s) j)) k).length ((kp (tk I C s) (fun j => Ob (gi Pa n (Rd s) j)) k).map fun j => .string (Ky (gi Pa n (Rd s) j)))) (fun _ i _ => cnt - (intOf i).toNat)
          case atStart => exact ⟨0, Nat.zero_le _, rfl, Below.refl _ _, World.ownsRow_nil _ _ _ _⟩
          case round =>
            obtain ⟨k, hk, rfl, hb, o31⟩ := hrel
            by_cases hltk : k < cnt
            · obtain ⟨b1, off1, rfl, h21⟩ := s21.2 (by omega)
              have hin := hgi.out k hltk
              obtain ⟨b0, off0, rfl, h0⟩ := c1'.s0.2 (by omega)
              obtain ⟨x1, x2, x3⟩ := h0 _ hin
              have y1 := h21 k hltk
              have hbl0 := World.block_lt_of_cell? w1 _ x1
              have z1 := (hb.cell (p := ⟨b0, off0 + gi Pa n (Rd s) k * 3, none⟩) hbl0).trans x1
              have z2 := (hb.cell (p := ⟨b0, off0 + gi Pa n (Rd s) k * 3 + 1, none⟩) hbl0).trans x2
              have z3 := (hb.cell (p := ⟨b0, off0 + gi Pa n (Rd s) k * 3 + 2, none⟩) hbl0).trans x3
              have z4 : wr.cell? ⟨b1, off1 + k, none⟩ = some (.int .i64 (gi Pa n (Rd s) k : Nat)) := (hb.cell (p := ⟨b1, off1 + k, none⟩) (World.block_lt_of_cell? w1 _ y1)).trans y1
              have hkey := keyOf_int_mk (P := Try.prog) Try.underlying3 (HO.out _ hin)
              have hiff : tk I C s (Ob (gi Pa n (Rd s) k)) = some true ↔ C (Ob (gi Pa n (Rd s) k)) ≠ some s := by
                rw [← HCd.out]; exact now_iff (by rw [Hcnt.out]; exact hltk) HF.out
              have HY : Hid (tk I C s (Ob (gi Pa n (Rd s) k)) = some true → kp (tk I C s) (fun j => Ob (gi Pa n (Rd s) j)) (k + 1) = kp (tk I C s) (fun j => Ob (gi Pa n (Rd s) j)) k) := fun h => kp_no (f := tk I C s) (OO := fun j => Ob (gi Pa n (Rd s) j)) h
              have HX : Hid (tk I C s (Ob (gi Pa n (Rd s) k)) ≠ some true → kp (tk I C s) (fun j => Ob (gi Pa n (Rd s) j)) (k + 1) = kp (tk I C s) (fun j => Ob (gi Pa n (Rd s) j)) k ++ [k]) := fun h => kp_yes (f := tk I C s) (OO := fun j => Ob (gi Pa n (Rd s) j)) h
              have r22 := m22.below hb m22.lt
              rw [HCd.out] at r22
              have hkl := kp_len (tk I C s) (fun j => Ob (gi Pa n (Rd s) j)) k
              clear x1 x2 x3 y1
              obtain ⟨i, hi⟩ : ∃ i, gi Pa n (Rd s) k = i := ⟨_, rfl⟩
              rw [hi] at z1 z2 z3 z4 hkey hiff HX HY hin
              have l22 := (r22.alloc (.cells #[.string (Pa i), .string (Ky i), .int .i64 (Ob i)] 27)).look true (T := 41) law3 Try.underlying41 (zero3 _) hkey
              have hk2 : (k : Int) < cnt := by omega
              have hi2 : (i : Int) < n := by omega
              have Hi : Hid _ := hi
              clear hi
              cases hCo : C (Ob i) with
              | none =>
                simp only [natMap, hCo, if_true, Option.map_none, Option.getD_none, Option.isSome_none] at l22
                have hno : tk I C s (Ob i) = some true := hiff.2 (by rw [hCo]; simp)
                have HH : Hid _ := hCo
                have HNO : Hid _ := hno
                have hbA := hb.alloc hb.size (.cells #[.string (Pa i), .string (Ky i), .int .i64 (Ob i)] 27)
                clear hCo hno hiff hkey r22
                go_wp2
                go_roundw
                case rel => exact ⟨k + 1, by omega, by go_num, hbA, by rw [HY.out HNO.out]; exact o31.alloc _⟩
                case measure => simp [intOf]; omega
              | some c =>
                simp only [natMap, hCo, if_true, Option.map_some, Option.getD_some, Option.isSome_some] at l22
                by_cases ecs : c = s
                · subst ecs
                  have hcc : ((c : Int) == c) = true := by simp
                  have hno : tk I C c (Ob i) ≠ some true := fun h => (hiff.1 h) hCo
                  have HH : Hid _ := hCo
                  have HNO : Hid _ := hno
                  have hbA := hb.alloc hb.size (.cells #[.string (Pa i), .string (Ky i), .int .i64 (Ob i)] 27)
                  have oA := o31.alloc (.cells #[.string (Pa i), .string (Ky i), .int .i64 (Ob i)] 27)
                  clear hCo hno hiff hkey r22
                  go_wp2_with (at_builtin; refine wpList_append_own _ rfl _ _ 24 rfl w1.heap.size 9 i9 (.string ByteArray.empty) 1 16 Try.underlying24 hi9 hz0 hz1 hz2 rfl (by decide) _ _ _ rfl (oA.alloc _) ⟨wr.heap.size + 1, 0, none⟩ 1 1 [.string (Ky i)] rfl rfl (cell_one_new2 _ _ _ _) (fun u hu => by rw [List.mem_singleton.1 hu]; rfl) (by unfold maxLen; omega) (by omega) (by have := hb.size; simp; omega) ?_; intro v' w2 hown' hgrow _)
                  have hg' : ((wr.alloc (.cells #[.string (Pa i), .string (Ky i), .int .i64 (Ob i)] 27)).alloc (.cells #[.string (Ky i)] 9)).grownBy w2 u31.ownBlock := hgrow
                  have hb2 : Below w1.heap.size w1 w2 := app_below hbA oA hg'
                  have ho2 : w2.ownsRow w1.heap.size 9 1 v' (kp (tk I C c) (fun j => Ob (gi Pa n (Rd c) j)) (k + 1)).length ((kp (tk I C c) (fun j => Ob (gi Pa n (Rd c) j)) (k + 1)).map fun j => .string (Ky (gi Pa n (Rd c) j))) := by
                    rw [HX.out HNO.out, List.map_append, List.length_append]
                    simpa [Hi.out] using hown'
                  go_roundw
                  case rel => exact ⟨k + 1, by omega, by go_num, hb2, ho2⟩
                  case measure => simp [intOf]; omega
                · have hcc : ((c : Int) == s) = false := by simp; omega
                  have hno : tk I C s (Ob i) = some true := hiff.2 (by rw [hCo]; simp; omega)
                  have HH : Hid _ := hCo
                  have HNO : Hid _ := hno
                  have hbA := hb.alloc hb.size (.cells #[.string (Pa i), .string (Ky i), .int .i64 (Ob i)] 27)
                  clear hCo hno hiff hkey r22
                  go_wp2
                  go_roundw
                  case rel => exact ⟨k + 1, by omega, by go_num, hbA, by rw [HY.out HNO.out]; exact o31.alloc _⟩
                  case measure => simp [intOf]; omega
            · have ek : cnt = k := by omega
              subst ek
              rw [HL.out] at o31
              obtain ⟨a3, c3, rfl, s3, _⟩ := own_seen (V := fun j => .string (Ky (gi Pa n (Rd s) (L.getD j 0)))) o31 (by unfold maxLen; omega) (fun j hj => by simp [hj])
              go_wp2
              go_meet
              case rel => exact ⟨hb, a3, c3, rfl, s3⟩
        · have htt : ((s : Int) == t) = false := by simp; omega
          have hLn : L = [] := by
            rw [← HL.out, ← HCd.out, ← Hcnt.out]
            exact before_empty HF.out (by omega) _ (Nat.le_refl _)
          have HLn : Hid _ := hLn
          clear hLn
          go_wp2
          go_meet
          case rel => exact ⟨Below.refl _ _, none, 0, by rw [HLn.out]; rfl, by rw [HLn.out]; exact ⟨Nat.zero_le _, fun h => absurd h (Nat.lt_irrefl _)⟩⟩
      case rest =>
        obtain ⟨hbc, a3, c3, rfl, s3⟩ := hcut
        have m13c := hm1.below hbc hm1.lt
        have sGc := Seen.below sG hbc
        have hgc : w.grownBy wc (some B13) := hgw.trans (below_grown hbc _)
        obtain ⟨S, hS⟩ : ∃ S : Nat → ByteArray, ∀ j, Ky (gi Pa n (Rd t) (L.getD j 0)) = S j := ⟨_, fun _ => rfl⟩
        simp only [hS] at sGc s3
        clear hS sG
        obtain ⟨len, hlenE⟩ : ∃ len, L.length = len := ⟨_, rfl⟩
        have HN' : Hid (len = 0 ↔ a' = none) := by rw [← hlenE]; exact HN.out
        rw [hlenE] at sGc s3 hlen ⊢
        have hnil := fun w => Lib.run_eql_slice_nil (P := Try.prog) w 24 9 a' len c' 0 0 Try.underlying24
        clear hlenE l17 e2'
        by_cases h0 : len = 0
        · have ha' := HN'.out.1 h0
          subst ha'
          subst h0
          go_wp2
          refine wp_loop_rounds 1 ?_
          rw [rounds_succ]
          go_wp2
          go_roundw
          case rel => exact ⟨t + 1, _, by omega, by go_num, hgc, m13c⟩
          case measure => simp [intOf]; omega
        · obtain ⟨bG, oG, rfl, hcG⟩ := sGc.2 (by omega)
          obtain ⟨bW, oW, rfl, hcW⟩ := s3.2 (by omega)
          have hlz : ((len : Int) == 0) = false := by simp; omega
          have hll : ((len : Int) == len) = true := by simp
          go_wp2
          go_loopw [37] (fun i wr => ∃ j : Nat, j ≤ len ∧ i = .int .i64 j ∧ Below wc.heap.size wc wr) (fun i _ => len - (intOf i).toNat)
          case atStart => exact ⟨0, Nat.zero_le _, rfl, Below.refl _ _⟩
          case round =>
            obtain ⟨j, hj, rfl, hbj⟩ := hrel
            clear hnil
            by_cases hjl : j < len
            · have y1 := hcG j hjl
              have y2 := hcW j hjl
              have z1 : wr.cell? ⟨bG, oG + j, none⟩ = some (.string (S j)) := (hbj.cell (p := ⟨bG, oG + j, none⟩) (World.block_lt_of_cell? wc _ y1)).trans y1
              have z2 : wr.cell? ⟨bW, oW + j, none⟩ = some (.string (S j)) := (hbj.cell (p := ⟨bW, oW + j, none⟩) (World.block_lt_of_cell? wc _ y2)).trans y2
              have hj2 : (j : Int) < len := by omega
              clear y1 y2
              go_wp2
              go_quiet (fail)
              go_wp2
              go_roundw
              case rel => exact ⟨j + 1, by omega, by go_num, below_drewN hbj _⟩
              case measure => simp [intOf]; omega
            · have ej : len = j := by omega
              subst ej
              have m13d := m13c.below hbj m13c.lt
              have hgd : w.grownBy wr (some B13) := hgc.trans (below_grown hbj _)
              go_wp2
              go_roundw
              case rel => exact ⟨t + 1, _, by omega, by go_num, hgd, m13d⟩
              case measure => simp [intOf]; omega
    · have ek : nr = t := by omega
      subst ek
      have hbz : Below w0.heap.size w0 wr := HB.out.grown hg HB.out.size (fun k hk => by cases hk; exact h13)
      obtain ⟨q15, hq15, m15⟩ := cr.m15
      obtain ⟨q22, m22⟩ := cr.m22
      rw [HCd.out] at m22
      have hC : Hid (∀ o c, C o = some c → c < nr ∧ ∃ j, j < n ∧ Ob j = o) := fun o c h => by
        rw [← HCd.out] at h
        obtain ⟨_, i, hi, hio, hF⟩ := clm_some h
        exact ⟨(fstR_some hF).1, i, hi, hio⟩
      go_upto_region 84 with (fail)
      exact partD _ _ _ n nt nr _ _ _ B13 B15 B22 q q15 q22 Pa Ky Ob TO TV I C hn hnt hq15 HO.out HT.out hC.out HI.out w0 wr hbz cr.s0 cr.s1 hm m15 m22 _ _ _ _ _ _ _ _ _ _ _ _ _ _ _ _ _ _ _ _ _ _ _ _ _ _ _ _ _ _ _ _ _ _ _ _ _ _ _ _ _ _ _ _ _ _ _ _ _ _ _ _ _ _ _ _ _ _ _ _ _ _ _ _ _ _ _ _ _ _ _ _ _ _ _ _ _ _ _ _ _ _ _ _ _ _ _ _ _ _ _ _ _ _ _ _ _ _ _ _ _ _ _ _ _ _ _ _ _ _ _ _ _ _ _ _ _ _ _ _ _ _ _ _ _ _ _ _ _ _ _ _ _ _ _ _ _ _ _ _ _ _ _ _ _ _ _ _ _ _ _ _ _ _ _ _ _ _ _ _ _ _ _ _ _ _ _ _ _ _ _ _ _ _ _ _ _ _ _ _ _ _ _ _ _ _ _ _ _ _ _ _ _ _ _ _ _ _ _ _ _ _ _ _ _ _ _ _ _ _ _ _ _ _ _ _ _ _ _ _ _ _ _ _ _ _ _ _ _ _ _ _ _ _ _ _ _ _ _ _ _ _ _ _ _ _ _ _ _ _ _ _ _ _ _ _ _ _ _ _ _ _ _ _ _ _ _ _ _ _ _ _ _ _ _ _ _ _ _ _ _ _ _ _ _ _ _ _ _ _ _ _ _ _ _ _ _ _ _ _ _ _ _ _ _ _ _ _ _ _ _ _ _ _ _ _ _ _ _ _ _ _ _ _ _ _ _ _ _ _ _ _ _ _ _ _ _ _ _ _ _ _ _ _ _ _ _ _ _ _ _ _ _ _ _ _ _ _ _ _ _ _ _ _ _ _ _ _ _ _ _ _ _ _ _ _ _ _ _ _ _ _ _ _ _ _ _ _ _ _ _ _ _ _ _ _ _ _ _ _ _ _ _ _ _ _ _ _ _ _ _ _ _ _ _ _ _ _ _ _ _ _ _ _ _ _ _ _ _ _ _ _ _ _ _ _ _ _ _ _ _ _ _ _ _ _ _ _ _ _ _ _ _ _ _ _ _ _ _ _ _ _ _ (by assumption)
end Go.Proofs.Qxb6605443a.fnTakeScript
