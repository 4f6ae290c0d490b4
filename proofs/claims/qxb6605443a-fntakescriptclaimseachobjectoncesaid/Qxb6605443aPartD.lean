import Derived.Test.Qxb6605443aLast
namespace Go.Proofs.Qxb6605443a.fnTakeScript
open Go.ChangeShapes Go.WideShapes Go.ChangeAt Go.RowKit Go.Maps
open Go.Proofs.Qxb6605443a.Own
set_option linter.unusedVariables false
set_option linter.unusedSimpArgs false

set_option maxRecDepth 100000 in
set_option maxHeartbeats 20000000 in
/-- THE LAST PART: from region 84 on. -/
theorem partD (a0 a1 a2 : Option Addr) (n nt nr c0 c1 c2 B13 B15 B22 q13 q15 q22 : Nat) (Pa Ky : Nat → ByteArray) (Ob TO : Nat → Int) (TV : Nat → Bool) (I : Int → Option Bool) (C : Int → Option Nat)
    (hn : n ≤ 65536) (hnt : nt ≤ 65536) (hq : q15 ≤ 65536) (hOb : ∀ j, j < n → (Lit.int .i64 (Ob j)).wf = true) (hTO : ∀ j, j < nt → (Lit.int .i64 (TO j)).wf = true)
    (hC : ∀ o c, C o = some c → c < nr ∧ ∃ j, j < n ∧ Ob j = o) (hI : ∀ j, j < nt → (I (TO j)).isSome = true) (w0 w : World) (hb0 : Below w0.heap.size w0 w)
    (s0 : SeenE w a0 n Pa Ky Ob) (s1 : SeenT w a1 nt TO TV)
    (m13 : MapIs Try.prog 3 w B13 (boolMap (tk I C nr)) q13) (m15 : MapIs Try.prog 3 w B15 (boolMap I) q15) (m22 : MapIs Try.prog 3 w B22 (natMap C) q22)
    (u3 u4 u5 u6 u7 u8 u9 u10 u11 u12 u14 u16 u17 u18 u19 u20 u21 u23 u24 u25 u26 u27 u28 u29 u30 u31 u32 u33 u34 u35 u36 u37 u38 u39 u40 u41 u42 u43 u44 u45 u46 u47 u48 u49 u50 u51 u52 u53 u54 u55 u56 u57 u58 u59 u60 u61 u62 u63 u64 u65 u66 u67 u68 u69 u70 u71 u72 u73 u74 u75 u76 u77 u78 u79 u80 u81 u82 u83 u84 u85 u86 u87 u88 u89 u90 u91 u92 u93 u94 u95 u96 u97 u98 u99 u100 u101 u102 u103 u104 u105 u106 u107 u108 u109 u110 u111 u112 u113 u114 u115 u116 u117 u118 u119 u120 u121 u122 u123 u124 u125 u126 u127 u128 u129 u130 u131 u132 u133 u134 u135 u136 u137 u138 u139 u140 u141 u142 u143 u144 u145 u146 u147 u148 u149 u150 u151 u152 u153 u154 u155 u156 u157 u158 u159 u160 u161 u162 u163 u164 u165 u166 u167 u168 u169 u170 u171 u172 u173 u174 u175 u176 u177 u178 u179 u180 u181 u182 u183 u184 u185 u186 u187 u188 u189 u190 u191 u192 u193 u194 u195 u196 u197 u198 u199 u200 u201 u202 u203 u204 u205 u206 u207 u208 u209 u210 u211 u212 u213 u214 u215 u216 u217 u218 u219 u220 u221 u222 u223 u224 u225 u226 u227 u228 u229 u230 u231 u232 u233 u234 u235 u236 u237 u238 u239 u240 u241 u242 u243 u244 u245 u246 u247 u248 u249 u250 u251 u252 u253 u254 u255 u256 u257 u258 u259 u260 u261 u262 u263 u264 u265 u266 u267 u268 u269 u270 u271 u272 u273 u274 u275 u276 u277 u278 u279 u280 u281 u282 u283 u284 u285 u286 u287 u288 u289 u290 u291 u292 u293 u294 u295 u296 u297 u298 u299 u300 u301 u302 u303 u304 u305 u306 u307 u308 u309 u310 u311 u312 u313 u314 u315 u316 u317 u318 u319 u320 u321 u322 u323 u324 u325 u326 u327 u328 u329 u330 u331 u332 u333 u334 u335 u336 u337 u338 u339 u340 u341 u342 u343 u344 u345 u346 u347 u348 u349 u350 u351 u352 u353 u354 u355 u356 u357 u358 u359 u360 u361 u362 u363 u364 u365 u366 u367 u368 u369 u370 u371 u372 u373 u374 u375 u376 u377 u378 u379 u380 u381 u382 u383 u384 u385 u386 u387 u388 u389 u390 u391 u392 u393 u394 u395 u396 u397 u398 u399 u400 u401 u402 u403 u404 u405 u406 u407 u408 u409 u410 u411 u412 u413 u414 u415 u416 u417 u418 u419 u420 u421 u422 u423 u424 u425 u426 u427 u428 u429 u430 u431 u432 u433 u434 u435 u436 u437 u438 u439 u440 u441 u442 u443 u444 u445 u446 u447 u448 u449 u450 u451 u452 u453 u454 u455 u456 u457 u458 u459 u460 u461 u462 u463 u464 u465 u466 u467 : Value) (K : Act → World → Prop)
    (hK : ∀ a w', Code.wp Try.prog (sndC (dropTo 84 (Try.f3.body.getD .skip))) (bodyPost Try.prog Try.f3 (fun e w' => e = .returned (.bool true) ∧ Below w0.heap.size w0 w')) a w' → K a w') :
    Code.wp Try.prog (fstC (dropTo 84 (Try.f3.body.getD .skip))) (Exit.then K <| bodyPost Try.prog Try.f3 (fun e w' => e = .returned (.bool true) ∧ Below w0.heap.size w0 w')) ⟨#[.slice a0 n c0, .slice a1 nt c1, .slice a2 nr c2, u3, u4, u5, u6, u7, u8, u9, u10, u11, u12, .map (some B13), u14, .map (some B15), u16, u17, u18, u19, u20, u21, .map (some B22), u23, u24, u25, u26, u27, u28, u29, u30, u31, u32, u33, u34, u35, u36, u37, u38, u39, u40, u41, u42, u43, u44, u45, u46, u47, u48, u49, u50, u51, u52, u53, u54, u55, u56, u57, u58, u59, u60, u61, u62, u63, u64, u65, u66, u67, u68, u69, u70, u71, u72, u73, u74, u75, u76, u77, u78, u79, u80, u81, u82, u83, u84, u85, u86, u87, u88, u89, u90, u91, u92, u93, u94, u95, u96, u97, u98, u99, u100, u101, u102, u103, u104, u105, u106, u107, u108, u109, u110, u111, u112, u113, u114, u115, u116, u117, u118, u119, u120, u121, u122, u123, u124, u125, u126, u127, u128, u129, u130, u131, u132, u133, u134, u135, u136, u137, u138, u139, u140, u141, u142, u143, u144, u145, u146, u147, u148, u149, u150, u151, u152, u153, u154, u155, u156, u157, u158, u159, u160, u161, u162, u163, u164, u165, u166, u167, u168, u169, u170, u171, u172, u173, u174, u175, u176, u177, u178, u179, u180, u181, u182, u183, u184, u185, u186, u187, u188, u189, u190, u191, u192, u193, u194, u195, u196, u197, u198, u199, u200, u201, u202, u203, u204, u205, u206, u207, u208, u209, u210, u211, u212, u213, u214, u215, u216, u217, u218, u219, u220, u221, u222, u223, u224, u225, u226, u227, u228, u229, u230, u231, u232, u233, u234, u235, u236, u237, u238, u239, u240, u241, u242, u243, u244, u245, u246, u247, u248, u249, u250, u251, u252, u253, u254, u255, u256, u257, u258, u259, u260, u261, u262, u263, u264, u265, u266, u267, u268, u269, u270, u271, u272, u273, u274, u275, u276, u277, u278, u279, u280, u281, u282, u283, u284, u285, u286, u287, u288, u289, u290, u291, u292, u293, u294, u295, u296, u297, u298, u299, u300, u301, u302, u303, u304, u305, u306, u307, u308, u309, u310, u311, u312, u313, u314, u315, u316, u317, u318, u319, u320, u321, u322, u323, u324, u325, u326, u327, u328, u329, u330, u331, u332, u333, u334, u335, u336, u337, u338, u339, u340, u341, u342, u343, u344, u345, u346, u347, u348, u349, u350, u351, u352, u353, u354, u355, u356, u357, u358, u359, u360, u361, u362, u363, u364, u365, u366, u367, u368, u369, u370, u371, u372, u373, u374, u375, u376, u377, u378, u379, u380, u381, u382, u383, u384, u385, u386, u387, u388, u389, u390, u391, u392, u393, u394, u395, u396, u397, u398, u399, u400, u401, u402, u403, u404, u405, u406, u407, u408, u409, u410, u411, u412, u413, u414, u415, u416, u417, u418, u419, u420, u421, u422, u423, u424, u425, u426, u427, u428, u429, u430, u431, u432, u433, u434, u435, u436, u437, u438, u439, u440, u441, u442, u443, u444, u445, u446, u447, u448, u449, u450, u451, u452, u453, u454, u455, u456, u457, u458, u459, u460, u461, u462, u463, u464, u465, u466, u467], []⟩ w := by
  conv => arg 2; whnf
  conv at hK => enter [a, w', 1, 2]; whnf
  have HO : Hid _ := hOb
  have HT : Hid _ := hTO
  have HC : Hid _ := hC
  have HI : Hid _ := hI
  have HB : Hid (Below w0.heap.size w0 w) := hb0
  clear hOb hTO hC hI hb0
  have hlen15 := m15.len Try.underlying35
  have hmk := fun w => run_makeMap (P := Try.prog) 35 w
  have Z : Hid (Cnt I Ob C 0 q15) := Cnt.start Ob C m15
  have hw0 := w.heap.size
  go_wp2
  go_loopw [38, 40] (fun z i wr => ∃ k zz q : Nat, k ≤ n ∧ i = .int .i64 k ∧ z = .int .i64 zz ∧ zz ≤ q15 + k ∧ Cnt I Ob C k zz ∧ Below w.heap.size w wr ∧ MapIs Try.prog 3 wr w.heap.size (boolMap (cntd Ob C k)) q) (fun _ i _ => n - (intOf i).toNat)
  case atStart => exact ⟨0, q15, 0, Nat.zero_le _, rfl, rfl, by omega, Z.out, (Below.refl _ _).alloc (Nat.le_refl _) _, (MapIs.made w).congr (fun v => by unfold boolMap cntd; cases v <;> simp <;> split <;> simp)⟩
  case round =>
    obtain ⟨k, zz, q, hk, rfl, rfl, hzz, hZ, hb, hm⟩ := hrel
    clear hmk hlen15 hw0
    by_cases hlt : k < n
    · obtain ⟨b, off, rfl, hc⟩ := s0.2 (by omega)
      obtain ⟨e1, e2, e3⟩ := hc k hlt
      have hbl := World.block_lt_of_cell? w _ e1
      have f3 := (hb.cell (p := ⟨b, off + k * 3 + 2, none⟩) hbl).trans e3
      have hk1 : (k : Int) < n := by omega
      have hwf := HO.out k hlt
      have hkey := keyOf_int_mk (P := Try.prog) Try.underlying3 hwf
      have r13 := m13.below hb m13.lt
      have r15 := m15.below hb m15.lt
      have r22 := m22.below hb m22.lt
      have l22 := r22.look true (T := 41) law3 Try.underlying41 (zero3 wr) hkey
      have lc := hm.look false (T := 35) law3 Try.underlying35 (zero4 wr) hkey
      clear e1 e2 e3 hc s1
      cases hCo : C (Ob k) with
      | none =>
        simp only [natMap, hCo, if_true, Option.map_none, Option.getD_none, Option.isSome_none] at l22
        have hsame := cntd_none (Ob := Ob) (C := C) (k := k) hCo
        have HH : Hid _ := hCo
        clear hCo r13 r15 r22 lc hkey hwf
        go_wp2
        go_roundw
        case rel => exact ⟨k + 1, zz, q, by omega, by go_num, rfl, by omega, hZ.same hsame, hb, by rw [hsame]; exact hm⟩
        case measure => simp [intOf]; omega
      | some c =>
        simp only [natMap, hCo, if_true, Option.map_some, Option.getD_some, Option.isSome_some] at l22
        cases hcn : cntd Ob C k (Ob k) with
        | some bb =>
          obtain ⟨hbb, _⟩ := cntd_some (Ob := Ob) (C := C) (k := k) (o := Ob k) (by rw [hcn]; rfl)
          rw [hcn] at hbb
          cases hbb
          have hsame := cntd_had (C := C) hcn
          simp only [boolMap, hcn, Bool.false_eq_true, if_false, Option.map_some, Option.getD_some] at lc
          have HH : Hid _ := hCo
          have HN : Hid _ := hcn
          clear hCo hcn r13 r15 r22 hkey hwf
          go_wp2
          go_roundw
          case rel => exact ⟨k + 1, zz, q, by omega, by go_num, rfl, by omega, hZ.same hsame, hb, by rw [hsame]; exact hm⟩
          case measure => simp [intOf]; omega
        | none =>
          simp only [boolMap, hcn, Bool.false_eq_true, if_false, Option.map_none, Option.getD_none] at lc
          obtain ⟨p1, p2⟩ := cntd_now (Ob := Ob) (k := k) hCo
          obtain ⟨p3, p4⟩ := boolMap_put p1 p2
          obtain ⟨w1, hrun, hm1, hg1, hs1⟩ := MapIs.update (w := wr) (T := 35) law3 Try.underlying35 hm hkey p3 p4
          have hbw : Below w.heap.size w w1 := hb.grown hg1 hb.size (fun j hj => by cases hj; exact Nat.le_refl _)
          have t13 := m13.below hbw m13.lt
          have t15 := m15.below hbw m15.lt
          have l13 := t13.look true (T := 35) law3 Try.underlying35 (zero4 w1) hkey
          have l15 := t15.look true (T := 35) law3 Try.underlying35 (zero4 w1) hkey
          have htk : tk I C nr (Ob k) = some true := by simp [tk, hCo, (HC.out _ _ hCo).1]
          simp only [boolMap, htk, if_true, Option.map_some, Option.getD_some, Option.isSome_some] at l13
          cases hIo : I (Ob k) with
          | none =>
            simp only [boolMap, hIo, if_true, Option.map_none, Option.getD_none, Option.isSome_none] at l15
            have hZ' := hZ.new hCo hIo hcn
            have HH : Hid _ := hCo
            have HN : Hid _ := hcn
            have HI' : Hid _ := hIo
            have HT' : Hid _ := htk
            clear hCo hcn hIo htk r13 r15 r22 hkey hwf t13 t15 p1 p2 p3 p4
            go_wp2
            go_roundw
            case rel => exact ⟨k + 1, zz + 1, _, by omega, by go_num, by go_num, by omega, hZ', hbw, hm1⟩
            case measure => simp [intOf]; omega
          | some bb =>
            simp only [boolMap, hIo, if_true, Option.map_some, Option.getD_some, Option.isSome_some] at l15
            have hZ' := hZ.had hCo (by rw [hIo]; rfl)
            have HH : Hid _ := hCo
            have HN : Hid _ := hcn
            have HI' : Hid _ := hIo
            have HT' : Hid _ := htk
            clear hCo hcn hIo htk r13 r15 r22 hkey hwf t13 t15 p1 p2 p3 p4
            go_wp2
            go_roundw
            case rel => exact ⟨k + 1, zz, _, by omega, by go_num, rfl, by omega, hZ', hbw, hm1⟩
            case measure => simp [intOf]; omega
    · have ek : n = k := by omega
      subst ek
      obtain rfl := hZ.last m13 HC.out
      have hbz : Hid (Below w0.heap.size w0 wr) := HB.out.trans (hb.mono HB.out.size)
      go_wp2
      go_loop [48] (fun i => ∃ k : Nat, k ≤ nt ∧ i = .int .i64 k) (fun i => nt - (intOf i).toNat)
      case atStart => exact ⟨0, Nat.zero_le _, rfl⟩
      case round =>
        obtain ⟨k, hk, rfl⟩ := hrel
        have r13 := m13.below hb m13.lt
        by_cases hlt : k < nt
        · obtain ⟨b, off, rfl, hc⟩ := s1.2 (by omega)
          obtain ⟨e1, e2⟩ := hc k hlt
          have hbl := World.block_lt_of_cell? w _ e1
          have f3 := (hb.cell (p := ⟨b, off + k * 2, none⟩) hbl).trans e1
          have hk1 : (k : Int) < nt := by omega
          have hwf := HT.out k hlt
          have hkey := keyOf_int_mk (P := Try.prog) Try.underlying3 hwf
          have r15 := m15.below hb m15.lt
          have r22 := m22.below hb m22.lt
          have l22 := r22.look true (T := 41) law3 Try.underlying41 (zero3 wr) hkey
          have l13 := r13.look true (T := 35) law3 Try.underlying35 (zero4 wr) hkey
          have l15 := r15.look false (T := 35) law3 Try.underlying35 (zero4 wr) hkey
          obtain ⟨bb, hIo⟩ := Option.isSome_iff_exists.1 (HI.out k hlt)
          have hT := HC.out (TO k)
          cases hCo : C (TO k) with
          | none =>
            have htk : tk I C nr (TO k) = some bb := by simp [tk, hCo, hIo]
            simp only [boolMap, natMap, hCo, hIo, htk, if_true, Bool.false_eq_true, if_false, Option.map_some, Option.getD_some, Option.isSome_some, Option.map_none, Option.getD_none, Option.isSome_none] at l13 l15 l22
            clear htk hIo hCo hT hkey hwf r13 r15 r22
            cases bb
            · go_wp2
              go_round
              case rel => exact ⟨k + 1, by omega, by go_num⟩
              case measure => simp [intOf]; omega
            · go_wp2
              go_round
              case rel => exact ⟨k + 1, by omega, by go_num⟩
              case measure => simp [intOf]; omega
          | some c =>
            have htk : tk I C nr (TO k) = some true := by simp [tk, hCo, (hT c hCo).1]
            simp only [boolMap, natMap, hCo, hIo, htk, if_true, Bool.false_eq_true, if_false, Option.map_some, Option.getD_some, Option.isSome_some, Option.map_none, Option.getD_none, Option.isSome_none] at l13 l15 l22
            clear htk hIo hCo hT hkey hwf r13 r15 r22
            cases bb
            · go_wp2
              go_round
              case rel => exact ⟨k + 1, by omega, by go_num⟩
              case measure => simp [intOf]; omega
            · go_wp2
              go_round
              case rel => exact ⟨k + 1, by omega, by go_num⟩
              case measure => simp [intOf]; omega
        · have hlen13 := r13.len Try.underlying35
          have hqq : ((q13 : Int) == q13) = true := by simp
          clear r13
          go_wp2
          go_ret
          exact ⟨rfl, hbz.out⟩
end Go.Proofs.Qxb6605443a.fnTakeScript
