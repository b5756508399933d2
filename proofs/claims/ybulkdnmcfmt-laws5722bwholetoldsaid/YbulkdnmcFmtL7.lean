/- LawS5722BWhole (3): from Begin on. -/
import Derived.Test.YbulkdnmcFmtL8
namespace Go.Proofs.YbulkdnmcFmt
open Go.RowKit Go.Extern.Stop Go.Stop Go.Extern
set_option linter.unusedSimpArgs false
set_option linter.unusedVariables false

set_option maxRecDepth 100000 in
set_option maxHeartbeats 8000000 in
theorem law7 {y0 y1 y2 y3 y4 y5 y6 y9 y10 y11 y12 y13 y14 y15 y16 y17 y18 y19 y20 y21 y22 y23 y24 y34 y35 y36 y37 y39 y40 y41 y42 y43 y44 y45 y52 y53 y54 y55 y56 y57 y58 y59 y60 y61 y62 y63 y64 y65 y66 y67 y68 y69 y70 y71 y72 y73 y74 y75 y76 y77 y78 y79 y80 y81 y82 y83 y84 y85 y86 y87 y88 y89 y90 y91 y92 y93 y94 y95 y96 y97 y98 y99 y100 y101 y102 y103 y104 y105 y106 y107 y108 y109 y110 y111 y112 y113 y114 y115 y116 y117 y118 y119 y120 y121 y122 y123 y124 y125 y126 y127 y128 y129 y130 y131 y132 y133 y134 y135 y136 y137 y138 y139 y140 y141 y142 y143 y144 y145 y146 y147 y148 y149 y150 y151 y152 y153 y154 y155 y156 y157 y158 y159 y160 y161 y162 y163 y164 y165 y166 y167 y168 y169 y170 y171 y172 y173 y174 y175 y176 y177 y178 y179 y180 y181 y182 y183 y184 y185 y186 y187 y188 y189 y190 y191 y192 y193 y194 y195 y196 y197 y198 y199 y200 y201 y202 y203 y204 y205 y206 y207 y208 y209 y210 y211 y212 y213 y214 y215 y216 y217 y218 y219 y220 y221 y222 y223 y224 y225 y226 y227 y228 y229 y230 y231 y232 y233 y234 y235 y236 y237 y238 y239 y240 y241 y242 y243 y244 y245 y246 y247 y248 y249 y250 y251 y252 y253 y254 y255 y256 y257 y258 y259 y260 y261 y262 y263 y264 y265 y266 y267 y268 y269 y270 y271 y272 y273 y274 y275 y276 y277 y278 y279 y280 y281 y282 y283 y284 y285 y286 y287 y288 y289 y290 y291 y292 y293 y294 y295 y296 y297 y298 y299 y300 y301 y302 y303 y304 y305 y306 y307 y308 y309 y310 y311 y312 y313 y314 y315 y316 y317 y318 y319 y320 y321 y322 y323 y324 y325 y326 y327 y328 y329 y330 y331 y332 y333 y334 y335 y336 y337 y338 y339 y340 y341 y342 y343 y344 y345 y346 y347 y348 y349 y350 y351 y352 y353 y354 y355 y356 y357 y358 y359 y360 y361 y362 y363 y364 y365 y366 y367 y368 y369 y370 y371 y372 y373 y374 y375 y376 y377 y378 y379 y380 y381 y382 y383 y384 y385 y386 y387 y388 y389 y390 y391 y392 y393 y394 y395 y396 y397 y398 y399 y400 y401 y402 y403 y404 y405 y406 y407 y408 y409 y410 y411 y412 y413 y414 y415 y416 y417 y418 y419 y420 y421 y422 y423 y424 y425 y426 y427 y428 y429 y430 y431 y432 y433 y434 y435 y436 y437 y438 y439 y440 y441 y442 y443 y444 y445 y446 y447 y448 y449 y450 y451 y452 y453 y454 y455 y456 y457 y458 y459 y460 y461 y462 y463 y464 y465 y466 y467 y468 y469 y470 y471 y472 y473 y474 y475 y476 y477 y478 y479 y480 y481 y482 y483 y484 y485 y486 y487 y488 y489 y490 y491 y492 y493 y494 y495 y496 y497 y498 y499 y500 y501 y502 y503 y504 y505 y506 y507 y508 y509 y510 y511 y512 y513 y514 y515 y516 y517 y518 y519 y520 y521 y522 y523 y524 y525 y526 y527 y528 y529 y530 y531 y532 y533 y534 y535 y536 y537 y538 y539 y540 y541 y542 y543 y544 y545 y546 y547 y548 y549 y550 y551 y552 y553 y554 y555 y556 y557 y558 y559 y560 y561 y562 y563 y564 y565 y566 y567 y568 y569 y570 y571 y572 y573 y574 y575 y576 y577 y578 y579 y580 y581 y582 y583 y584 y585 y586 y587 y588 y589 y590 y591 y592 y593 y594 y595 y596 y597 y598 y599 y600 y601 y602 y603 y604 y605 y606 y607 : Value} (I : Interp) (w w6 : World) (rA rB : Ref) (held N T R me fb fo fn fc g1 g2 g3 kb k1c k2c k3c B1 : Nat) (md : Int) (fa k1a k2a k3a cp : Option Addr) (F : List UInt8) (nd : Nat → Nat) (ev hv : Nat → Value) (dv dn es : Int)
    (hN3 : 3 ≤ N) (hN8 : N ≤ 8) (hT1 : 1 ≤ T) (hT6 : T ≤ 6) (hR1 : 1 ≤ R) (hR9 : R ≤ 9) (hme8 : me < N) (hfn : fn ≤ 2000000) (hA : rA.ok w) (hB : rB.ok w) (hAb : rA.b < w.heap.size) (hBb : rB.b < w.heap.size) (hF6 : Fr [] w w6) (hI6 : Hid (I.answers w6.tape)) (hS6 : Hid (Sen w6))
    (HNet6 : Hid (Net w6 (kb + 1 + 1 + 1) (kb + 1 + 1) nd N T R me md (some ⟨kb, 0, none⟩) (some ⟨kb + 1, 0, none⟩) cp ev hv (rsF held rA rB)))
    (HNds : Hid ((∀ j, j < N → w.heap.size ≤ nd j ∧ nd j < B1 ∧ (∀ i, i < j → nd i < nd j) ∧ (act md T j me = true → hv j = .pointer none) ∧ (act md T j me = false → ∃ x, hv j = .pointer (some x))) ∧ w.heap.size ≤ kb ∧ kb + 4 ≤ B1))
    (HSl6 : Hid (Sl w6 fb fo fa fn fc F ∧ Sl w6 g1 0 k1a fn k1c F ∧ Sl w6 g2 0 k2a rA.n k2c rA.l ∧ Sl w6 g3 0 k3a rB.n k3c rB.l ∧ (fb < w.heap.size ∨ B1 ≤ fb) ∧ B1 ≤ g1 ∧ B1 ≤ g2 ∧ B1 ≤ g3))
    (hexp : ExpR F N T R md hv (rsF held rA rB) dv dn es)
    (hexp3 : 0 ≤ es → ∃ mb gb z1 z2, y52 = .slice (cut fa 4 fc) (klen F) (fc - 4) ∧ y53 = .slice (some ⟨mb, 0, none⟩) (cnt F) (cnt F) ∧ y54 = .slice (some ⟨gb, 0, none⟩) (cnt F) (cnt F) ∧ Blk w6 mb (Pre (cnt F) (cnt F) (zzF F) z1) 3 ∧ Blk w6 gb (Pre (cnt F * 64) (cnt F * 64) (zzG F) z2) 80) :
    Code.wp Ybaf.prog (cdrN 28 (Ybaf.f3.body.getD .skip)) (bodyPost Ybaf.prog Ybaf.f3 fun e w' => e = .returned (.bool true) ∧ Hid (Fr [] w w')) { tmps := #[y0, y1, y2, y3, y4, y5, y6, .slice rA.a rA.n rA.c, .slice rB.a rB.n rB.c, y9, y10, y11, y12, y13, y14, y15, y16, y17, y18, y19, y20, y21, y22, y23, y24, .int .i64 N, .int .i64 T, .int .i64 R, .int .i64 me, .int .i64 md, .pointer cp, .slice (some ⟨kb, 0, none⟩) N N, .pointer (some ⟨kb + 1, 0, none⟩), .pointer (some ⟨kb + 1 + 1 + 1, 0, none⟩), y34, y35, y36, y37, .slice fa fn fc, y39, y40, y41, y42, y43, y44, y45, .slice k1a fn k1c, .slice k2a rA.n k2c, .slice k3a rB.n k3c, .int .i64 dv, .int .i64 dn, .int .i64 es, y52, y53, y54, y55, y56, y57, y58, y59, y60, y61, y62, y63, y64, y65, y66, y67, y68, y69, y70, y71, y72, y73, y74, y75, y76, y77, y78, y79, y80, y81, y82, y83, y84, y85, y86, y87, y88, y89, y90, y91, y92, y93, y94, y95, y96, y97, y98, y99, y100, y101, y102, y103, y104, y105, y106, y107, y108, y109, y110, y111, y112, y113, y114, y115, y116, y117, y118, y119, y120, y121, y122, y123, y124, y125, y126, y127, y128, y129, y130, y131, y132, y133, y134, y135, y136, y137, y138, y139, y140, y141, y142, y143, y144, y145, y146, y147, y148, y149, y150, y151, y152, y153, y154, y155, y156, y157, y158, y159, y160, y161, y162, y163, y164, y165, y166, y167, y168, y169, y170, y171, y172, y173, y174, y175, y176, y177, y178, y179, y180, y181, y182, y183, y184, y185, y186, y187, y188, y189, y190, y191, y192, y193, y194, y195, y196, y197, y198, y199, y200, y201, y202, y203, y204, y205, y206, y207, y208, y209, y210, y211, y212, y213, y214, y215, y216, y217, y218, y219, y220, y221, y222, y223, y224, y225, y226, y227, y228, y229, y230, y231, y232, y233, y234, y235, y236, y237, y238, y239, y240, y241, y242, y243, y244, y245, y246, y247, y248, y249, y250, y251, y252, y253, y254, y255, y256, y257, y258, y259, y260, y261, y262, y263, y264, y265, y266, y267, y268, y269, y270, y271, y272, y273, y274, y275, y276, y277, y278, y279, y280, y281, y282, y283, y284, y285, y286, y287, y288, y289, y290, y291, y292, y293, y294, y295, y296, y297, y298, y299, y300, y301, y302, y303, y304, y305, y306, y307, y308, y309, y310, y311, y312, y313, y314, y315, y316, y317, y318, y319, y320, y321, y322, y323, y324, y325, y326, y327, y328, y329, y330, y331, y332, y333, y334, y335, y336, y337, y338, y339, y340, y341, y342, y343, y344, y345, y346, y347, y348, y349, y350, y351, y352, y353, y354, y355, y356, y357, y358, y359, y360, y361, y362, y363, y364, y365, y366, y367, y368, y369, y370, y371, y372, y373, y374, y375, y376, y377, y378, y379, y380, y381, y382, y383, y384, y385, y386, y387, y388, y389, y390, y391, y392, y393, y394, y395, y396, y397, y398, y399, y400, y401, y402, y403, y404, y405, y406, y407, y408, y409, y410, y411, y412, y413, y414, y415, y416, y417, y418, y419, y420, y421, y422, y423, y424, y425, y426, y427, y428, y429, y430, y431, y432, y433, y434, y435, y436, y437, y438, y439, y440, y441, y442, y443, y444, y445, y446, y447, y448, y449, y450, y451, y452, y453, y454, y455, y456, y457, y458, y459, y460, y461, y462, y463, y464, y465, y466, y467, y468, y469, y470, y471, y472, y473, y474, y475, y476, y477, y478, y479, y480, y481, y482, y483, y484, y485, y486, y487, y488, y489, y490, y491, y492, y493, y494, y495, y496, y497, y498, y499, y500, y501, y502, y503, y504, y505, y506, y507, y508, y509, y510, y511, y512, y513, y514, y515, y516, y517, y518, y519, y520, y521, y522, y523, y524, y525, y526, y527, y528, y529, y530, y531, y532, y533, y534, y535, y536, y537, y538, y539, y540, y541, y542, y543, y544, y545, y546, y547, y548, y549, y550, y551, y552, y553, y554, y555, y556, y557, y558, y559, y560, y561, y562, y563, y564, y565, y566, y567, y568, y569, y570, y571, y572, y573, y574, y575, y576, y577, y578, y579, y580, y581, y582, y583, y584, y585, y586, y587, y588, y589, y590, y591, y592, y593, y594, y595, y596, y597, y598, y599, y600, y601, y602, y603, y604, y605, y606, y607], defers := [] } w6 := by
  dsimp only
  conv => arg 2; whnf
  go_upto_region 94 with fail
  go_cut [64] from 393 to 395 (fun v64 wx => ∃ pa, v64 = .pointer pa ∧ Hid (∃ own, Fr own w6 wx ∧ (∀ k ∈ own, w.heap.size ≤ k ∧ k < B1) ∧ Post wx (kb + 1 + 1 + 1) (kb + 1 + 1) nd N R dv dn ∧ ((es = -1 ∧ pa = none) ∨ ((Takes F T ∧ 0 < cnt F ∧ sgn F 0 < N) ∧ es = (sgn F 0 : Nat) ∧ ∃ pb cb, pa = some ⟨pb, 0, none⟩ ∧ Fr [] w6 wx ∧ Blk wx pb (pendC (nd (sgn F 0)) cb (.pointer (some ⟨kb + 1, 0, none⟩)) (.pointer cp) (.slice fa fn fc) R) 75 ∧ ChainAt w6 wx cb fb fo F))))
  case first =>
    rcases hexp with ⟨h0, rfl, rfl, rfl⟩ | ⟨h0, h1, rfl, rfl, rfl⟩ | ⟨h0, ⟨h1, h2, h3⟩, ⟨h4, rfl, rfl, rfl⟩ | ⟨h4, h5, rfl, rfl, rfl⟩ | ⟨h4, h5, rfl, rfl, rfl⟩⟩
    · have hBg := begin8_end I (kb + 1 + 1 + 1) (kb + 1 + 1) nd N T R me md (some ⟨kb, 0, none⟩) (some ⟨kb + 1, 0, none⟩) cp ev hv (rsF held rA rB) fb fo fa fn fc F w6 (by omega) (by omega) (by omega) (by omega) (by omega) HNet6.out HSl6.out.1 (by omega) h0
      go_wp2_with fail
      refine hBg.mono ?_
      rintro e w7 ⟨rfl, hB⟩
      clear hBg
      go_wp2_with fail
      go_meet
      case rel => exact ⟨none, rfl, [], hB.out, by simp, post_same HNet6.out hB.out, Or.inl ⟨(by first | rfl | trivial), (by first | rfl | trivial)⟩⟩
    · have hBg := begin8_bad I (kb + 1 + 1 + 1) (kb + 1 + 1) nd N T R me md (some ⟨kb, 0, none⟩) (some ⟨kb + 1, 0, none⟩) cp ev hv (rsF held rA rB) fb fo fa fn fc F w6 (by omega) (by omega) (by omega) (by omega) (by omega) HNet6.out HSl6.out.1 (by omega) hI6.out hS6.out h0 h1
      go_wp2_with fail
      refine hBg.mono ?_
      rintro e w7 ⟨rfl, hB⟩
      clear hBg
      go_wp2_with fail
      go_meet
      case rel => exact ⟨none, rfl, [kb + 1 + 1 + 1], hB.out.1, (by have := HNds.out.2; simp; omega), post_v HNet6.out hB.out.1 hB.out.2, Or.inl ⟨(by first | rfl | trivial), (by first | rfl | trivial)⟩⟩
    · have hBg := begin8_skip I (kb + 1 + 1 + 1) (kb + 1 + 1) nd N T R me md (some ⟨kb, 0, none⟩) (some ⟨kb + 1, 0, none⟩) cp ev hv (rsF held rA rB) fb fo fa fn fc F w6 (by omega) (by omega) (by omega) (by omega) (by omega) HNet6.out HSl6.out.1 (by omega) h0 h1 h2 h3 h4
      go_wp2_with fail
      refine hBg.mono ?_
      rintro e w7 ⟨rfl, hB⟩
      clear hBg
      go_wp2_with fail
      go_meet
      case rel => exact ⟨none, rfl, [], hB.out, by simp, post_same HNet6.out hB.out, Or.inl ⟨(by first | rfl | trivial), (by first | rfl | trivial)⟩⟩
    · have hBg := begin8_dis I (kb + 1 + 1 + 1) (kb + 1 + 1) nd N T R me md (some ⟨kb, 0, none⟩) (some ⟨kb + 1, 0, none⟩) cp ev hv (rsF held rA rB) fb fo fa fn fc F w6 (by omega) (by omega) (by omega) (by omega) (by omega) HNet6.out HSl6.out.1 (by omega) h0 h1 h2 h3 h4 h5
      go_wp2_with fail
      refine hBg.mono ?_
      rintro e w7 ⟨rfl, hB⟩
      clear hBg
      go_wp2_with fail
      go_meet
      case rel =>
        refine ⟨none, rfl, [nd (sgn F 0)], hB.out.1, (by have := HNds.out.1 _ h3; simp; omega), post_n HNet6.out (sgn F 0) h3 (fun j hj hjs => ?_) hB.out.1 hB.out.2, Or.inl ⟨(by first | rfl | trivial), (by first | rfl | trivial)⟩⟩
        rcases Nat.lt_or_gt_of_ne hjs with h | h
        · have := (HNds.out.1 _ h3).2.2.1 j h; omega
        · have := (HNds.out.1 _ hj).2.2.1 _ h; omega
    · have hBg := begin8_pend I (kb + 1 + 1 + 1) (kb + 1 + 1) nd N T R me md (some ⟨kb, 0, none⟩) (some ⟨kb + 1, 0, none⟩) cp ev hv (rsF held rA rB) fb fo fa fn fc F w6 (by omega) (by omega) (by omega) (by omega) (by omega) HNet6.out HSl6.out.1 (by omega) h0 h1 h2 h3 h4 h5
      go_wp2_with fail
      refine hBg.mono ?_
      rintro e w7 ⟨pb, rfl, hB⟩
      clear hBg
      go_wp2_with fail
      go_meet
      case rel =>
        obtain ⟨cb, c1, c2, c3⟩ := hB.out
        exact ⟨_, rfl, [], c1, by simp, post_same HNet6.out c1, Or.inr ⟨⟨h1, h2, h3⟩, (by first | rfl | trivial), pb, cb, (by first | rfl | trivial), c1, c2, c3⟩⟩
  case rest =>
  obtain ⟨pa, rfl, hpost⟩ := hcut
  rename World => w7
  obtain ⟨own, hown7, hownB, hP, hend⟩ := hpost.out
  have hFw7 : Hid (Fr [] w w7) := Fr.drop ((Fr.mono hF6 (by simp) : Fr own w w6).trans hown7) (fun k hk => (hownB k hk).1)
  have hno : ∀ b, b < w.heap.size ∨ B1 ≤ b → b ∉ own := fun b hb hm => by have := hownB b hm; omega
  have HSl7 : Hid (Sl w7 fb fo fa fn fc F ∧ Sl w7 g1 0 k1a fn k1c F ∧ Sl w7 g2 0 k2a rA.n k2c rA.l ∧ Sl w7 g3 0 k3a rB.n k3c rB.l ∧ rA.ok w7 ∧ rB.ok w7) :=
    ⟨HSl6.out.1.fr hown7 (hno _ HSl6.out.2.2.2.2.1), HSl6.out.2.1.fr hown7 (hno _ (Or.inr HSl6.out.2.2.2.2.2.1)), HSl6.out.2.2.1.fr hown7 (hno _ (Or.inr HSl6.out.2.2.2.2.2.2.1)), HSl6.out.2.2.2.1.fr hown7 (hno _ (Or.inr HSl6.out.2.2.2.2.2.2.2)), Ref.fr (Ref.fr hA hF6 (by simp)) hown7 (hno _ (Or.inl hAb)), Ref.fr (Ref.fr hB hF6 (by simp)) hown7 (hno _ (Or.inl hBb))⟩
  refine ‹∀ (a : Act) (v : World), Code.wp _ _ _ a v → _› _ _ ?_
  exact law8 w w6 w7 rA rB N T R fb fo fn fc g1 g2 g3 kb k1c k2c k3c fa k1a k2a k3a cp pa F nd dv dn es hN3 hN8 hR9 hfn hFw7 HSl7 hP hend hexp3
end Go.Proofs.YbulkdnmcFmt
