/- LawS5722BWhole (3): the frame. -/
import Derived.Test.YbulkdnmcFmtL6
namespace Go.Proofs.YbulkdnmcFmt
open Go.RowKit Go.Extern.Stop Go.Stop Go.Extern
set_option linter.unusedSimpArgs false
set_option linter.unusedVariables false

set_option maxRecDepth 100000 in
set_option maxHeartbeats 8000000 in
theorem law5 {y0 y1 y2 y3 y5 y11 y12 y13 y14 y15 y16 y17 y18 y19 y20 y21 y22 y23 y24 y34 y35 y36 y39 y40 y41 y42 y43 y44 y45 y46 y47 y48 y49 y50 y51 y52 y53 y54 y55 y56 y57 y58 y59 y60 y61 y62 y63 y64 y65 y66 y67 y68 y69 y70 y71 y72 y73 y74 y75 y76 y77 y78 y79 y80 y81 y82 y83 y84 y85 y86 y87 y88 y89 y90 y91 y92 y93 y94 y95 y96 y97 y98 y99 y100 y101 y102 y103 y104 y105 y106 y107 y108 y109 y110 y111 y112 y113 y114 y115 y116 y117 y118 y119 y120 y121 y122 y123 y124 y125 y126 y127 y128 y129 y130 y131 y132 y133 y134 y135 y136 y137 y138 y139 y140 y141 y142 y143 y144 y145 y146 y147 y148 y149 y150 y151 y152 y153 y154 y155 y156 y157 y158 y159 y160 y161 y162 y163 y164 y165 y166 y167 y168 y169 y170 y171 y172 y173 y174 y175 y176 y177 y178 y179 y180 y181 y182 y183 y184 y185 y186 y187 y188 y189 y190 y191 y192 y193 y194 y195 y196 y197 y198 y199 y200 y201 y202 y203 y204 y205 y206 y207 y208 y209 y210 y211 y212 y213 y214 y215 y216 y217 y218 y219 y220 y221 y222 y223 y224 y225 y226 y227 y228 y229 y230 y231 y232 y233 y234 y235 y236 y237 y238 y239 y240 y241 y242 y243 y244 y245 y246 y247 y248 y249 y250 y251 y252 y253 y254 y255 y256 y257 y258 y259 y260 y261 y262 y263 y264 y265 y266 y267 y268 y269 y270 y271 y272 y273 y274 y275 y276 y277 y278 y279 y280 y281 y282 y283 y284 y285 y286 y287 y288 y289 y290 y291 y292 y293 y294 y295 y296 y297 y298 y299 y300 y301 y302 y303 y304 y305 y306 y307 y308 y309 y310 y311 y312 y313 y314 y315 y316 y317 y318 y319 y320 y321 y322 y323 y324 y325 y326 y327 y328 y329 y330 y331 y332 y333 y334 y335 y336 y337 y338 y339 y340 y341 y342 y343 y344 y345 y346 y347 y348 y349 y350 y351 y352 y353 y354 y355 y356 y357 y358 y359 y360 y361 y362 y363 y364 y365 y366 y367 y368 y369 y370 y371 y372 y373 y374 y375 y376 y377 y378 y379 y380 y381 y382 y383 y384 y385 y386 y387 y388 y389 y390 y391 y392 y393 y394 y395 y396 y397 y398 y399 y400 y401 y402 y403 y404 y405 y406 y407 y408 y409 y410 y411 y412 y413 y414 y415 y416 y417 y418 y419 y420 y421 y422 y423 y424 y425 y426 y427 y428 y429 y430 y431 y432 y433 y434 y435 y436 y437 y438 y439 y440 y441 y442 y443 y444 y445 y446 y447 y448 y449 y450 y451 y452 y453 y454 y455 y456 y457 y458 y459 y460 y461 y462 y463 y464 y465 y466 y467 y468 y469 y470 y471 y472 y473 y474 y475 y476 y477 y478 y479 y480 y481 y482 y483 y484 y485 y486 y487 y488 y489 y490 y491 y492 y493 y494 y495 y496 y497 y498 y499 y500 y501 y502 y503 y504 y505 y506 y507 y508 y509 y510 y511 y512 y513 y514 y515 y516 y517 y518 y519 y520 y521 y522 y523 y524 y525 y526 y527 y528 y529 y530 y531 y532 y533 y534 y535 y536 y537 y538 y539 y540 y541 y542 y543 y544 y545 y546 y547 y548 y549 y550 y551 y552 y553 y554 y555 y556 y557 y558 y559 y560 y561 y562 y563 y564 y565 y566 y567 y568 y569 y570 y571 y572 y573 y574 y575 y576 y577 y578 y579 y580 y581 y582 y583 y584 y585 y586 y587 y588 y589 y590 y591 y592 y593 y594 y595 y596 y597 y598 y599 y600 y601 y602 y603 y604 y605 y606 y607 : Value} (I : Interp) (w w1 : World) (rA rB rW rV : Ref) (sel held N T R me kb sn sn' sc' sb so : Nat) (md : Int) (cp sa : Option Addr) (xs nd : Nat → Nat) (ev hv : Nat → Value) (hsel : sel < 256) (hheld : held < 65536)
    (hN3 : 3 ≤ N) (hN8 : N ≤ 8) (hT1 : 1 ≤ T) (hT6 : T ≤ 6) (hR1 : 1 ≤ R) (hR9 : R ≤ 9) (hme8 : me < N)
    (hA : rA.ok w) (hB : rB.ok w) (hW : rW.ok w) (hV : rV.ok w) (hAb : rA.b < w.heap.size) (hBb : rB.b < w.heap.size) (hWb : rW.b < w.heap.size) (hVb : rV.b < w.heap.size)
    (hA0 : rA.a = none → rA.n = 0 ∧ rA.c = 0) (hB0 : rB.a = none → rB.n = 0 ∧ rB.c = 0) (hW0 : rW.a = none → rW.n = 0 ∧ rW.c = 0) (hV0 : rV.a = none → rV.n = 0 ∧ rV.c = 0)
    (hAl : rA.n ≤ 1048576) (hBl : rB.n ≤ 1048576) (hWl : rW.n ≤ 1048576) (hVl : rV.n ≤ 1048576)
    (hsn : sn ≤ 4096) (hsn' : sn' ≤ sn) (hsa : 0 < sn → sa = some ⟨sb, so, none⟩) (hsx : ∀ j, j < sn → w.cell? ⟨sb, so + j, none⟩ = some (.int .u16 (xs j)) ∧ xs j < 65536) (hsb : sb < w.heap.size)
    (hI : I.answers w.tape) (hS : Sen w) (hF0 : Fr [] w w1)
    (HNet : Hid (Net w1 (kb + 1 + 1 + 1) (kb + 1 + 1) nd N T R me md (some ⟨kb, 0, none⟩) (some ⟨kb + 1, 0, none⟩) cp ev hv (rsF held rA rB)))
    (HNds : Hid ((∀ j, j < N → w.heap.size ≤ nd j ∧ nd j < w1.heap.size ∧ (∀ i, i < j → nd i < nd j) ∧ (act md T j me = true → hv j = .pointer none) ∧ (act md T j me = false → ∃ x, hv j = .pointer (some x))) ∧ w.heap.size ≤ kb ∧ kb + 4 ≤ w1.heap.size)) :
    Code.wp Ybaf.prog (cdrN 17 (Ybaf.f3.body.getD .skip)) (bodyPost Ybaf.prog Ybaf.f3 fun e w' => e = .returned (.bool true) ∧ Hid (Fr [] w w')) { tmps := #[y0, y1, y2, y3, .int .u8 sel, y5, .int .u16 held, .slice rA.a rA.n rA.c, .slice rB.a rB.n rB.c, .slice rW.a rW.n rW.c, .slice rV.a rV.n rV.c, y11, y12, y13, y14, y15, y16, y17, y18, y19, y20, y21, y22, y23, y24, .int .i64 N, .int .i64 T, .int .i64 R, .int .i64 me, .int .i64 md, .pointer cp, .slice (some ⟨kb, 0, none⟩) N N, .pointer (some ⟨kb + 1, 0, none⟩), .pointer (some ⟨kb + 1 + 1 + 1, 0, none⟩), y34, y35, y36, .slice sa sn' sc', .slice none 0 0, y39, y40, y41, y42, y43, y44, y45, y46, y47, y48, y49, y50, y51, y52, y53, y54, y55, y56, y57, y58, y59, y60, y61, y62, y63, y64, y65, y66, y67, y68, y69, y70, y71, y72, y73, y74, y75, y76, y77, y78, y79, y80, y81, y82, y83, y84, y85, y86, y87, y88, y89, y90, y91, y92, y93, y94, y95, y96, y97, y98, y99, y100, y101, y102, y103, y104, y105, y106, y107, y108, y109, y110, y111, y112, y113, y114, y115, y116, y117, y118, y119, y120, y121, y122, y123, y124, y125, y126, y127, y128, y129, y130, y131, y132, y133, y134, y135, y136, y137, y138, y139, y140, y141, y142, y143, y144, y145, y146, y147, y148, y149, y150, y151, y152, y153, y154, y155, y156, y157, y158, y159, y160, y161, y162, y163, y164, y165, y166, y167, y168, y169, y170, y171, y172, y173, y174, y175, y176, y177, y178, y179, y180, y181, y182, y183, y184, y185, y186, y187, y188, y189, y190, y191, y192, y193, y194, y195, y196, y197, y198, y199, y200, y201, y202, y203, y204, y205, y206, y207, y208, y209, y210, y211, y212, y213, y214, y215, y216, y217, y218, y219, y220, y221, y222, y223, y224, y225, y226, y227, y228, y229, y230, y231, y232, y233, y234, y235, y236, y237, y238, y239, y240, y241, y242, y243, y244, y245, y246, y247, y248, y249, y250, y251, y252, y253, y254, y255, y256, y257, y258, y259, y260, y261, y262, y263, y264, y265, y266, y267, y268, y269, y270, y271, y272, y273, y274, y275, y276, y277, y278, y279, y280, y281, y282, y283, y284, y285, y286, y287, y288, y289, y290, y291, y292, y293, y294, y295, y296, y297, y298, y299, y300, y301, y302, y303, y304, y305, y306, y307, y308, y309, y310, y311, y312, y313, y314, y315, y316, y317, y318, y319, y320, y321, y322, y323, y324, y325, y326, y327, y328, y329, y330, y331, y332, y333, y334, y335, y336, y337, y338, y339, y340, y341, y342, y343, y344, y345, y346, y347, y348, y349, y350, y351, y352, y353, y354, y355, y356, y357, y358, y359, y360, y361, y362, y363, y364, y365, y366, y367, y368, y369, y370, y371, y372, y373, y374, y375, y376, y377, y378, y379, y380, y381, y382, y383, y384, y385, y386, y387, y388, y389, y390, y391, y392, y393, y394, y395, y396, y397, y398, y399, y400, y401, y402, y403, y404, y405, y406, y407, y408, y409, y410, y411, y412, y413, y414, y415, y416, y417, y418, y419, y420, y421, y422, y423, y424, y425, y426, y427, y428, y429, y430, y431, y432, y433, y434, y435, y436, y437, y438, y439, y440, y441, y442, y443, y444, y445, y446, y447, y448, y449, y450, y451, y452, y453, y454, y455, y456, y457, y458, y459, y460, y461, y462, y463, y464, y465, y466, y467, y468, y469, y470, y471, y472, y473, y474, y475, y476, y477, y478, y479, y480, y481, y482, y483, y484, y485, y486, y487, y488, y489, y490, y491, y492, y493, y494, y495, y496, y497, y498, y499, y500, y501, y502, y503, y504, y505, y506, y507, y508, y509, y510, y511, y512, y513, y514, y515, y516, y517, y518, y519, y520, y521, y522, y523, y524, y525, y526, y527, y528, y529, y530, y531, y532, y533, y534, y535, y536, y537, y538, y539, y540, y541, y542, y543, y544, y545, y546, y547, y548, y549, y550, y551, y552, y553, y554, y555, y556, y557, y558, y559, y560, y561, y562, y563, y564, y565, y566, y567, y568, y569, y570, y571, y572, y573, y574, y575, y576, y577, y578, y579, y580, y581, y582, y583, y584, y585, y586, y587, y588, y589, y590, y591, y592, y593, y594, y595, y596, y597, y598, y599, y600, y601, y602, y603, y604, y605, y606, y607], defers := [] } w1 := by
  conv => arg 2; whnf
  go_upto_if 202 with fail
  go_cut [38, 39, 40, 41, 42, 43, 44, 45] from 202 to 272 (fun v38 _ _ _ _ _ _ _ wx => ∃ fb fo fa fn fc F, v38 = .slice fa fn fc ∧ Hid (Fr [] w1 wx ∧ Sl wx fb fo fa fn fc F ∧ (fa = none → fn = 0 ∧ fc = 0) ∧ fn ≤ 2000000 ∧ (fb < w.heap.size ∨ w1.heap.size ≤ fb)))
  case first =>
    go_upto_if 207 with fail
    · go_meet
      case rel => exact ⟨rW.b, rW.o, rW.a, rW.n, rW.c, rW.l, rfl, Fr.refl _ _, Ref.fr hW hF0 (by simp), hW0, by omega, Or.inl hWb⟩
    · go_cut [39] from 207 to 208 (fun v wx => w1 = wx ∧ ∃ q : Ref, v = .slice q.a q.n q.c ∧ Hid (q.ok w1 ∧ (q.a = none → q.n = 0 ∧ q.c = 0)) ∧ q.n ≤ 1048576)
      case first =>
        go_wp2_with fail
        · go_meet
          case rel => exact ⟨rfl, rA, rfl, ⟨Ref.fr hA hF0 (by simp), hA0⟩, hAl⟩
        · go_meet
          case rel => exact ⟨rfl, rV, rfl, ⟨Ref.fr hV hF0 (by simp), hV0⟩, hVl⟩
      case rest =>
      obtain ⟨rfl, q, rfl, hq, hqn⟩ := hcut
      obtain ⟨b0, hb0⟩ := nbyte ((q.n : Int) / 16777216) (by omega) (by omega)
      obtain ⟨b1, hb1⟩ := nbyte ((q.n : Int) / 65536) (by omega) (by omega)
      obtain ⟨b2, hb2⟩ := nbyte ((q.n : Int) / 256 % 256) (by omega) (by omega)
      obtain ⟨b3, hb3⟩ := nbyte ((q.n : Int) % 256) (by omega) (by omega)
      obtain ⟨b4, hb4⟩ := nbyte ((sn' : Int) / 256) (by omega) (by omega)
      obtain ⟨b5, hb5⟩ := nbyte ((sn' : Int) % 256) (by omega) (by omega)
      obtain ⟨fv1, x1, happ1, hown1, hgr1⟩ := app5 (n := 0) (xs := []) (World.ownsRow_nil w1 w1.heap.size 5 1) (Nat.le_refl _) (by omega) [b0, b1, b2, b3] (by simp) 23
      have hfr1 : Fr [] w1 x1 := grown_fr (World.ownsRow_nil _ w1.heap.size 5 1) ((Fr.refl _ _).alloc _) (Nat.le_refl _) hgr1
      obtain ⟨fv2, x2, happ2, hown2, hgr2⟩ := run_app hown1 hfr1.size (Ref.fr hq.out.1 hfr1 (by simp)) hq.out.2 (by simp; omega) 23
      have hfr2 : Fr [] w1 x2 := grown_fr hown1 hfr1 (Nat.le_refl _) hgr2
      obtain ⟨fv3, x3, happ3, hown3, hgr3⟩ := app5 hown2 hfr2.size (by simp; omega) [b4, b5] (by simp) 23
      have hfr3 : Fr [] w1 x3 := grown_fr (own_fr hown2 ((Fr.refl _ _).alloc _)) (hfr2.alloc _) (Nat.le_refl _) hgr3
      have hown3' : x3.ownsRow w1.heap.size 5 1 fv3 (6 + q.n) (Lib.byteCells (([] ++ [b0, b1, b2, b3]) ++ q.l ++ [b4, b5])) := by
        have e : 0 + [b0, b1, b2, b3].length + q.n + [b4, b5].length = 6 + q.n := by simp; omega
        rw [← e]; exact hown3
      have ap1 : (Builtin.append_ #[23, 23] 23 #[.slice none 0 0, .slice (some ⟨w1.heap.size, 0, none⟩) 4 4]).run Ybaf.prog (w1.alloc (.cells #[.int .u8 b0.toNat, .int .u8 b1.toNat, .int .u8 b2.toNat, .int .u8 b3.toNat] 5)) = .ok fv1 x1 := happ1
      have ap3 : (Builtin.append_ #[23, 23] 23 #[fv2, .slice (some ⟨x2.heap.size, 0, none⟩) 2 2]).run Ybaf.prog (x2.alloc (.cells #[.int .u8 b4.toNat, .int .u8 b5.toNat] 5)) = .ok fv3 x3 := happ3
      clear happ1 happ3 hown1 hown2 hown3 hgr1 hgr2 hgr3 hfr1 hfr2
      go_upto_region 40 with (at_builtin; refine wpList_app rfl _ _ rfl rfl rfl ap1 ?_)
      go_upto_region 41 with (at_builtin; refine wpList_app rfl _ _ rfl rfl rfl happ2 ?_)
      go_upto_region 43 with (at_builtin; refine wpList_app rfl _ _ rfl rfl rfl ap3 ?_)
      clear ap1 happ2 ap3 hb0 hb1 hb2 hb3 hb4 hb5
      go_wp2_with fail
      go_loopw [38, 240] (fun vf vi wr => ∃ (i m : Nat) (ys : List UInt8), vi = .int .i64 i ∧ i ≤ sn' ∧ m ≤ 6 + q.n + 66 * i ∧ Fr [] w1 wr ∧ wr.ownsRow w1.heap.size 5 1 vf m (Lib.byteCells ys))
        (fun _ vi _ => sn' - (intOf vi).toNat)
      case atStart => exact ⟨0, 6 + q.n, _, rfl, Nat.zero_le _, by omega, hfr3, hown3'⟩
      case round =>
        obtain ⟨i, m, ys, rfl, hin, hm, hfr, hown⟩ := hrel
        clear hown3' hfr3
        by_cases hi : i < sn'
        · obtain ⟨hx1, hx2⟩ := hsx i (by omega)
          have c0 : wr.cell? ⟨sb, so + i, none⟩ = some (.int .u16 (xs i)) := ((hF0.trans hfr).cell (p := ⟨sb, so + i, none⟩) hsb (by simp)).trans hx1
          have hsa' := hsa (by omega)
          subst hsa'
          obtain ⟨b7, hb7⟩ := nbyte ((xs i : Int) % ((N : Int) + 2)) (Int.emod_nonneg _ (by omega)) (by have := Int.emod_lt_of_pos (xs i : Int) (show (0 : Int) < (N : Int) + 2 by omega); omega)
          have hb7' : b7.toNat < 10 := by have := Int.emod_lt_of_pos (xs i : Int) (show (0 : Int) < (N : Int) + 2 by omega); omega
          obtain ⟨b6, hb6⟩ := nbyte ((b7.toNat : Int) / 256) (by omega) (by omega)
          have t1 : ¬ ((N : Int) + 2 = 0) := by omega
          have t2 : ((N : Int) + 2 == 0) = false := by simp; omega
          have t3 : (0 : Int) ≤ (i : Int) := by omega
          have t4 : (i : Int) < (sn' : Int) := by omega
          obtain ⟨fv4, x4, happ4, hown4, hgr4⟩ := app5 hown hfr.size (by omega) [b6, b7] (by simp) 23
          have hfr4 : Fr [] w1 x4 := grown_fr (own_fr hown ((Fr.refl _ _).alloc _)) (hfr.alloc _) (Nat.le_refl _) hgr4
          have ap4 : (Builtin.append_ #[23, 23] 23 #[u38, .slice (some ⟨wr.heap.size, 0, none⟩) 2 2]).run Ybaf.prog (wr.alloc (.cells #[.int .u8 b6.toNat, .int .u8 b7.toNat] 5)) = .ok fv4 x4 := happ4
          have hown4' : x4.ownsRow w1.heap.size 5 1 fv4 (m + 2) (Lib.byteCells (ys ++ [b6, b7])) := hown4
          clear happ4 hown4 hgr4 hx1
          go_upto_region 48 with (at_builtin; refine wpList_app rfl _ _ rfl rfl rfl ap4 ?_)
          clear ap4 hown c0
          go_wp2_with fail
          go_loopw [38, 45] (fun vf vj wr2 => ∃ (j m2 : Nat) (ys2 : List UInt8), vj = .int .i64 j ∧ j ≤ 64 ∧ m2 ≤ 6 + q.n + 66 * i + 2 + j ∧ Fr [] w1 wr2 ∧ wr2.ownsRow w1.heap.size 5 1 vf m2 (Lib.byteCells ys2))
            (fun _ vj _ => 64 - (intOf vj).toNat)
          case atStart => exact ⟨0, m + 2, _, rfl, Nat.zero_le _, by omega, hfr4, hown4'⟩
          case round =>
            obtain ⟨j, m2, ys2, rfl, hj, hm2, hfr5, hown5⟩ := hrel
            by_cases hj64 : j < 64
            · obtain ⟨b8, hb8⟩ := nbyte (((i : Int) + (j : Int) + (sel : Int)) % 256) (by omega) (by omega)
              obtain ⟨fv6, x6, happ6, hown6, hgr6⟩ := app5 hown5 hfr5.size (by omega) [b8] (by simp) 23
              have hfr6 : Fr [] w1 x6 := grown_fr (own_fr hown5 ((Fr.refl _ _).alloc _)) (hfr5.alloc _) (Nat.le_refl _) hgr6
              have ap6 : (Builtin.append_ #[23, 23] 23 #[u38, .slice (some ⟨wr.heap.size, 0, none⟩) 1 1]).run Ybaf.prog (wr.alloc (.cells #[.int .u8 b8.toNat] 5)) = .ok fv6 x6 := happ6
              have hown6' : x6.ownsRow w1.heap.size 5 1 fv6 (m2 + 1) (Lib.byteCells (ys2 ++ [b8])) := hown6
              clear happ6 hown6 hgr6 hown5 hfr5
              go_wp2_with (at_builtin; refine wpList_app rfl _ _ rfl rfl rfl ap6 ?_)
              go_roundw
              case rel => exact ⟨j + 1, m2 + 1, _, by simp, by omega, by omega, hfr6, hown6'⟩
              case measure => simp [intOf]; omega
            · obtain rfl : j = 64 := by omega
              go_wp2_with fail
              go_roundw
              case rel => exact ⟨i + 1, m2, ys2, by simp, by omega, by omega, hfr5, hown5⟩
              case measure => simp [intOf]; omega
        · obtain rfl : i = sn' := by omega
          obtain ⟨ga, gc, gg, rfl, hg0, hgb, hgs⟩ := own_slB hown
          clear hown
          go_wp2_with fail
          go_meet
          case rel => exact ⟨gg, 0, ga, m, gc, ys, rfl, hfr, hgs, hg0, by omega, Or.inr hgb⟩
  case rest =>
  obtain ⟨fb, fo, fa, fn, fc, F, rfl, hfrm⟩ := hcut
  rename World => w2
  have hF2 : Fr [] w w2 := hF0.trans hfrm.out.1
  have hfn : fn ≤ 2000000 := hfrm.out.2.2.2.1
  have hK1 := clone5B hfrm.out.2.1 hfrm.out.2.2.1 (by omega)
  go_wp2_with fail
  refine hK1.mono ?_
  rintro e w3 ⟨k1a, k1c, rfl, hk1⟩
  obtain ⟨g1, hG1, hg1b, hs1⟩ := hk1.out
  have hF3 := hF2.trans hG1
  have hK2 := clone5B (Ref.fr hA hF3 (by simp)) hA0 (by omega)
  clear hK1 hk1
  go_wp2_with fail
  refine hK2.mono ?_
  rintro e w4 ⟨k2a, k2c, rfl, hk2⟩
  obtain ⟨g2, hG2, hg2b, hs2⟩ := hk2.out
  have hF4 := hF3.trans hG2
  have hK3 := clone5B (Ref.fr hB hF4 (by simp)) hB0 (by omega)
  clear hK2 hk2
  go_wp2_with fail
  refine hK3.mono ?_
  rintro e w5 ⟨k3a, k3c, rfl, hk3⟩
  obtain ⟨g3, hG3, hg3b, hs3⟩ := hk3.out
  have hF5 := hF4.trans hG3
  clear hK3 hk3
  have hx25 : Fr [] w2 w5 := (hG1.trans hG2).trans hG3
  have hx15 : Fr [] w1 w5 := hfrm.out.1.trans hx25
  have HSl : Hid (Sl w5 fb fo fa fn fc F ∧ Sl w5 g1 0 k1a fn k1c F ∧ Sl w5 g2 0 k2a rA.n k2c rA.l ∧ Sl w5 g3 0 k3a rB.n k3c rB.l ∧ (fb < w.heap.size ∨ w1.heap.size ≤ fb) ∧ w1.heap.size ≤ g1 ∧ w1.heap.size ≤ g2 ∧ w1.heap.size ≤ g3) :=
    ⟨hfrm.out.2.1.fr hx25 (by simp), hs1.fr (hG2.trans hG3) (by simp), hs2.fr hG3 (by simp), hs3, hfrm.out.2.2.2.2, by have := hfrm.out.1.size; omega, by have := hfrm.out.1.size; have := hG1.size; omega, by have := hfrm.out.1.size; have := hG1.size; have := hG2.size; omega⟩
  have HNet5 : Hid (Net w5 (kb + 1 + 1 + 1) (kb + 1 + 1) nd N T R me md (some ⟨kb, 0, none⟩) (some ⟨kb + 1, 0, none⟩) cp ev hv (rsF held rA rB)) := HNet.out.fr hx15
  clear hs1 hs2 hs3 hG1 hG2 hG3 hg1b hg2b hg3b hF2 hF3 hF4 hx25 hfrm HNet
  go_upto_region 61 with fail
  go_cut [54] from 54 to 54 (fun v wx => v = .slice none 0 0 ∧ w5 = wx)
  case first =>
    go_wp2_with fail
    go_meet
    case rel => exact ⟨rfl, rfl⟩
  case rest =>
  obtain ⟨rfl, rfl⟩ := hcut
  refine ‹∀ (a : Act) (v : World), Code.wp _ _ _ a v → _› _ _ ?_
  exact law6 I w w5 rA rB held N T R me fb fo fn fc g1 g2 g3 kb k1c k2c k3c w1.heap.size md fa k1a k2a k3a cp F nd ev hv hheld hN3 hN8 hT1 hT6 hR1 hR9 hme8 hfn hA hB hAb hBb hF5 hI hS HNet5 HNds HSl
end Go.Proofs.YbulkdnmcFmt
