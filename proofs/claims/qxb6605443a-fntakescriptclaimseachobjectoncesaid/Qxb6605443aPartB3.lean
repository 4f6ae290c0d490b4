import Derived.Test.Qxb6605443aHeads
import Derived.Test.Qxb6605443aPartB4
namespace Go.Proofs.Qxb6605443a.fnTakeScript
open Go.ChangeShapes Go.WideShapes Go.ChangeAt Go.RowKit Go.Maps
open Go.Proofs.Qxb6605443a.Own
set_option linter.unusedVariables false
set_option linter.unusedSimpArgs false

set_option maxRecDepth 100000 in
set_option maxHeartbeats 20000000 in
/-- FROM REGION 43 ON: the first readings. -/
theorem partB3 (a0 a1 a2 : Option Addr) (n nt nr c0 c1 c2 B10 B15 B13 q13 q15 b10 : Nat) (Pa Ky Rd : Nat → ByteArray) (Ob TO : Nat → Int) (TV : Nat → Bool) (I : Int → Option Bool) (M10 : Value → Option Value)
    (hn : n ≤ 65536) (hnt : nt ≤ 65536) (hnr : nr ≤ 65536) (hq15 : q15 ≤ 65536) (hOb : ∀ j, j < n → (Lit.int .i64 (Ob j)).wf = true) (hTO : ∀ j, j < nt → (Lit.int .i64 (TO j)).wf = true) (hRd : ∀ j, j < nr → (Rd j).size ≤ maxLen) (hPa : ∀ j, j < n → (Pa j).size ≤ maxLen)
    (hI : ∀ j, j < nt → (I (TO j)).isSome = true) (w0 w : World) (hb0 : Below w0.heap.size w0 w) (h13 : w0.heap.size ≤ B13)
    (s0 : SeenE w a0 n Pa Ky Ob) (s1 : SeenT w a1 nt TO TV) (s2 : Seen w a2 nr (fun j => .string (Rd j)))
    (g10 : Grp w b10 B10 34 2 (fun i => [.string (Ky i), .int .i64 (Ob i)]) Pa n M10) (m13 : MapIs Try.prog 3 w B13 (boolMap I) q13) (m15 : MapIs Try.prog 3 w B15 (boolMap I) q15)
    (n10 : B10 ≠ B13) (n15 : B15 ≠ B13)
    (u3 u4 u5 u6 u7 u8 u9 u11 u12 u14 u16 u17 u18 u19 u20 u21 u22 u23 u24 u25 u26 u27 u28 u29 u30 u31 u32 u33 u34 u35 u36 u37 u38 u39 u40 u41 u42 u43 u44 u45 u46 u47 u48 u49 u50 u51 u52 u53 u54 u55 u56 u57 u58 u59 u60 u61 u62 u63 u64 u65 u66 u67 u68 u69 u70 u71 u72 u73 u74 u75 u76 u77 u78 u79 u80 u81 u82 u83 u84 u85 u86 u87 u88 u89 u90 u91 u92 u93 u94 u95 u96 u97 u98 u99 u100 u101 u102 u103 u104 u105 u106 u107 u108 u109 u110 u111 u112 u113 u114 u115 u116 u117 u118 u119 u120 u121 u122 u123 u124 u125 u126 u127 u128 u129 u130 u131 u132 u133 u134 u135 u136 u137 u138 u139 u140 u141 u142 u143 u144 u145 u146 u147 u148 u149 u150 u151 u152 u153 u154 u155 u156 u157 u158 u159 u160 u161 u162 u163 u164 u165 u166 u167 u168 u169 u170 u171 u172 u173 u174 u175 u176 u177 u178 u179 u180 u181 u182 u183 u184 u185 u186 u187 u188 u189 u190 u191 u192 u193 u194 u195 u196 u197 u198 u199 u200 u201 u202 u203 u204 u205 u206 u207 u208 u209 u210 u211 u212 u213 u214 u215 u216 u217 u218 u219 u220 u221 u222 u223 u224 u225 u226 u227 u228 u229 u230 u231 u232 u233 u234 u235 u236 u237 u238 u239 u240 u241 u242 u243 u244 u245 u246 u247 u248 u249 u250 u251 u252 u253 u254 u255 u256 u257 u258 u259 u260 u261 u262 u263 u264 u265 u266 u267 u268 u269 u270 u271 u272 u273 u274 u275 u276 u277 u278 u279 u280 u281 u282 u283 u284 u285 u286 u287 u288 u289 u290 u291 u292 u293 u294 u295 u296 u297 u298 u299 u300 u301 u302 u303 u304 u305 u306 u307 u308 u309 u310 u311 u312 u313 u314 u315 u316 u317 u318 u319 u320 u321 u322 u323 u324 u325 u326 u327 u328 u329 u330 u331 u332 u333 u334 u335 u336 u337 u338 u339 u340 u341 u342 u343 u344 u345 u346 u347 u348 u349 u350 u351 u352 u353 u354 u355 u356 u357 u358 u359 u360 u361 u362 u363 u364 u365 u366 u367 u368 u369 u370 u371 u372 u373 u374 u375 u376 u377 u378 u379 u380 u381 u382 u383 u384 u385 u386 u387 u388 u389 u390 u391 u392 u393 u394 u395 u396 u397 u398 u399 u400 u401 u402 u403 u404 u405 u406 u407 u408 u409 u410 u411 u412 u413 u414 u415 u416 u417 u418 u419 u420 u421 u422 u423 u424 u425 u426 u427 u428 u429 u430 u431 u432 u433 u434 u435 u436 u437 u438 u439 u440 u441 u442 u443 u444 u445 u446 u447 u448 u449 u450 u451 u452 u453 u454 u455 u456 u457 u458 u459 u460 u461 u462 u463 u464 u465 u466 u467 : Value) (K : Act → World → Prop)
    (hK : ∀ a w', Code.wp Try.prog (sndC (dropTo 43 (Try.f3.body.getD .skip))) (bodyPost Try.prog Try.f3 (fun e w' => e = .returned (.bool true) ∧ Below w0.heap.size w0 w')) a w' → K a w') :
    Code.wp Try.prog (fstC (dropTo 43 (Try.f3.body.getD .skip))) (Exit.then K <| bodyPost Try.prog Try.f3 (fun e w' => e = .returned (.bool true) ∧ Below w0.heap.size w0 w')) ⟨#[.slice a0 n c0, .slice a1 nt c1, .slice a2 nr c2, u3, u4, u5, u6, u7, u8, u9, .map (some B10), u11, u12, .map (some B13), u14, .map (some B15), u16, u17, u18, u19, u20, u21, u22, u23, u24, u25, u26, u27, u28, u29, u30, u31, u32, u33, u34, u35, u36, u37, u38, u39, u40, u41, u42, u43, u44, u45, u46, u47, u48, u49, u50, u51, u52, u53, u54, u55, u56, u57, u58, u59, u60, u61, u62, u63, u64, u65, u66, u67, u68, u69, u70, u71, u72, u73, u74, u75, u76, u77, u78, u79, u80, u81, u82, u83, u84, u85, u86, u87, u88, u89, u90, u91, u92, u93, u94, u95, u96, u97, u98, u99, u100, u101, u102, u103, u104, u105, u106, u107, u108, u109, u110, u111, u112, u113, u114, u115, u116, u117, u118, u119, u120, u121, u122, u123, u124, u125, u126, u127, u128, u129, u130, u131, u132, u133, u134, u135, u136, u137, u138, u139, u140, u141, u142, u143, u144, u145, u146, u147, u148, u149, u150, u151, u152, u153, u154, u155, u156, u157, u158, u159, u160, u161, u162, u163, u164, u165, u166, u167, u168, u169, u170, u171, u172, u173, u174, u175, u176, u177, u178, u179, u180, u181, u182, u183, u184, u185, u186, u187, u188, u189, u190, u191, u192, u193, u194, u195, u196, u197, u198, u199, u200, u201, u202, u203, u204, u205, u206, u207, u208, u209, u210, u211, u212, u213, u214, u215, u216, u217, u218, u219, u220, u221, u222, u223, u224, u225, u226, u227, u228, u229, u230, u231, u232, u233, u234, u235, u236, u237, u238, u239, u240, u241, u242, u243, u244, u245, u246, u247, u248, u249, u250, u251, u252, u253, u254, u255, u256, u257, u258, u259, u260, u261, u262, u263, u264, u265, u266, u267, u268, u269, u270, u271, u272, u273, u274, u275, u276, u277, u278, u279, u280, u281, u282, u283, u284, u285, u286, u287, u288, u289, u290, u291, u292, u293, u294, u295, u296, u297, u298, u299, u300, u301, u302, u303, u304, u305, u306, u307, u308, u309, u310, u311, u312, u313, u314, u315, u316, u317, u318, u319, u320, u321, u322, u323, u324, u325, u326, u327, u328, u329, u330, u331, u332, u333, u334, u335, u336, u337, u338, u339, u340, u341, u342, u343, u344, u345, u346, u347, u348, u349, u350, u351, u352, u353, u354, u355, u356, u357, u358, u359, u360, u361, u362, u363, u364, u365, u366, u367, u368, u369, u370, u371, u372, u373, u374, u375, u376, u377, u378, u379, u380, u381, u382, u383, u384, u385, u386, u387, u388, u389, u390, u391, u392, u393, u394, u395, u396, u397, u398, u399, u400, u401, u402, u403, u404, u405, u406, u407, u408, u409, u410, u411, u412, u413, u414, u415, u416, u417, u418, u419, u420, u421, u422, u423, u424, u425, u426, u427, u428, u429, u430, u431, u432, u433, u434, u435, u436, u437, u438, u439, u440, u441, u442, u443, u444, u445, u446, u447, u448, u449, u450, u451, u452, u453, u454, u455, u456, u457, u458, u459, u460, u461, u462, u463, u464, u465, u466, u467], []⟩ w := by
  conv => arg 2; whnf
  conv at hK => enter [a, w', 1, 2]; whnf
  have HO : Hid _ := hOb
  have HT : Hid _ := hTO
  have HR : Hid _ := hRd
  have HP : Hid _ := hPa
  have HI : Hid _ := hI
  have HB : Hid (Below w0.heap.size w0 w) := hb0
  clear hOb hTO hI hb0 hRd hPa
  have hmk38 := fun w => run_makeMap (P := Try.prog) 38 w
  go_wp2
  go_loopw [18] (fun i wr => ∃ k q : Nat, k ≤ nr ∧ i = .int .i64 k ∧ Below w.heap.size w wr ∧ MapIs Try.prog 9 wr w.heap.size (strMap (fstR Rd k)) q) (fun i _ => nr - (intOf i).toNat)
  case atStart => exact ⟨0, 0, Nat.zero_le _, rfl, (Below.refl _ _).alloc (Nat.le_refl _) _, (MapIs.made w).congr (fstR_start Rd)⟩
  case round =>
    obtain ⟨k, q, hk, rfl, hb, hm⟩ := hrel
    clear hmk38
    by_cases hlt : k < nr
    · obtain ⟨b, off, rfl, hc⟩ := s2.2 (by omega)
      have e1 := hc k hlt
      have hbl := World.block_lt_of_cell? w _ e1
      have f1 := (hb.cell (p := ⟨b, off + k, none⟩) hbl).trans e1
      have hk1 : (k : Int) < nr := by omega
      have hkey := WideMaps.keyOf_string_mk (P := Try.prog) (k := 9) Try.underlying9 (HR.out k hlt)
      have l := hm.look true (T := 38) law9 Try.underlying38 (zero3 wr) hkey
      clear e1 hc
      cases hF : fstR Rd k (Rd k) with
      | some s =>
        simp only [strMap, hF, if_true, Option.map_some, Option.getD_some, Option.isSome_some] at l
        have hkeep : Hid _ := fstR_keep hF
        clear hF hkey
        go_wp2
        go_roundw
        case rel => exact ⟨k + 1, q, by omega, by go_num, hb, by rw [hkeep.out]; exact hm⟩
        case measure => simp [intOf]; omega
      | none =>
        simp only [strMap, hF, if_true, Option.map_none, Option.getD_none, Option.isSome_none] at l
        obtain ⟨p1, p2⟩ := fstR_put hF
        obtain ⟨p3, p4⟩ := strMap_put p1 p2
        obtain ⟨w3, hrun, hm3, hg3, hs3⟩ := MapIs.update (w := wr) (T := 38) law9 Try.underlying38 hm hkey p3 p4
        have hbw : Below w.heap.size w w3 := hb.grown hg3 hb.size (fun j hj => by cases hj; exact Nat.le_refl _)
        clear hF hkey p1 p2 p3 p4
        go_wp2
        go_roundw
        case rel => exact ⟨k + 1, _, by omega, by go_num, hbw, hm3⟩
        case measure => simp [intOf]; omega
    · have ek : nr = k := by omega
      subst ek
      have hbz : Below w0.heap.size w0 wr := HB.out.trans (hb.mono HB.out.size)
      have hlt13 := m13.lt
      have t0 := s0.below hb
      have t1 := s1.below hb
      have t2 := Seen.below s2 hb
      have tg := g10.grown (below_grown hb none)
      have m13' := m13.below hb m13.lt
      have m15' := m15.below hb m15.lt
      have n17 : w.heap.size ≠ B13 := by omega
      go_upto_region 50 with (fail)
      exact partB4 a0 a1 a2 n nt nr _ _ _ B10 B15 _ B13 q13 q15 q b10 Pa Ky Rd Ob TO TV I M10 hn hnt hnr hq15 HO.out HT.out HR.out HP.out HI.out w0 wr hbz h13 t0 t1 t2 tg m13' m15' hm n10 n15 n17 _ _ _ _ _ _ _ _ _ _ _ _ _ _ _ _ _ _ _ _ _ _ _ _ _ _ _ _ _ _ _ _ _ _ _ _ _ _ _ _ _ _ _ _ _ _ _ _ _ _ _ _ _ _ _ _ _ _ _ _ _ _ _ _ _ _ _ _ _ _ _ _ _ _ _ _ _ _ _ _ _ _ _ _ _ _ _ _ _ _ _ _ _ _ _ _ _ _ _ _ _ _ _ _ _ _ _ _ _ _ _ _ _ _ _ _ _ _ _ _ _ _ _ _ _ _ _ _ _ _ _ _ _ _ _ _ _ _ _ _ _ _ _ _ _ _ _ _ _ _ _ _ _ _ _ _ _ _ _ _ _ _ _ _ _ _ _ _ _ _ _ _ _ _ _ _ _ _ _ _ _ _ _ _ _ _ _ _ _ _ _ _ _ _ _ _ _ _ _ _ _ _ _ _ _ _ _ _ _ _ _ _ _ _ _ _ _ _ _ _ _ _ _ _ _ _ _ _ _ _ _ _ _ _ _ _ _ _ _ _ _ _ _ _ _ _ _ _ _ _ _ _ _ _ _ _ _ _ _ _ _ _ _ _ _ _ _ _ _ _ _ _ _ _ _ _ _ _ _ _ _ _ _ _ _ _ _ _ _ _ _ _ _ _ _ _ _ _ _ _ _ _ _ _ _ _ _ _ _ _ _ _ _ _ _ _ _ _ _ _ _ _ _ _ _ _ _ _ _ _ _ _ _ _ _ _ _ _ _ _ _ _ _ _ _ _ _ _ _ _ _ _ _ _ _ _ _ _ _ _ _ _ _ _ _ _ _ _ _ _ _ _ _ _ _ _ _ _ _ _ _ _ _ _ _ _ _ _ _ _ _ _ _ _ _ _ _ _ _ _ _ _ _ _ _ _ _ _ _ _ _ _ _ _ _ _ _ _ _ _ _ _ _ _ _ _ _ _ _ _ _ _ _ _ _ _ _ _ _ _ _ _ _ _ _ _ _ _ _ _ _ _ _ _ _ _ _ _ _ _ _ _ (by assumption)
end Go.Proofs.Qxb6605443a.fnTakeScript
