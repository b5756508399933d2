/- LawS5722BWhole (3): what is awaited. -/
import Derived.Test.YbulkdnmcFmtL7
namespace Go.Proofs.YbulkdnmcFmt
open Go.RowKit Go.Extern.Stop Go.Stop Go.Extern
set_option linter.unusedSimpArgs false
set_option linter.unusedVariables false

set_option maxRecDepth 100000 in
set_option maxHeartbeats 8000000 in
theorem law6 {y0 y1 y2 y3 y4 y5 y9 y10 y11 y12 y13 y14 y15 y16 y17 y18 y19 y20 y21 y22 y23 y24 y34 y35 y36 y37 y39 y40 y41 y42 y43 y44 y45 y55 y56 y57 y58 y59 y60 y61 y62 y63 y64 y65 y66 y67 y68 y69 y70 y71 y72 y73 y74 y75 y76 y77 y78 y79 y80 y81 y82 y83 y84 y85 y86 y87 y88 y89 y90 y91 y92 y93 y94 y95 y96 y97 y98 y99 y100 y101 y102 y103 y104 y105 y106 y107 y108 y109 y110 y111 y112 y113 y114 y115 y116 y117 y118 y119 y120 y121 y122 y123 y124 y125 y126 y127 y128 y129 y130 y131 y132 y133 y134 y135 y136 y137 y138 y139 y140 y141 y142 y143 y144 y145 y146 y147 y148 y149 y150 y151 y152 y153 y154 y155 y156 y157 y158 y159 y160 y161 y162 y163 y164 y165 y166 y167 y168 y169 y170 y171 y172 y173 y174 y175 y176 y177 y178 y179 y180 y181 y182 y183 y184 y185 y186 y187 y188 y189 y190 y191 y192 y193 y194 y195 y196 y197 y198 y199 y200 y201 y202 y203 y204 y205 y206 y207 y208 y209 y210 y211 y212 y213 y214 y215 y216 y217 y218 y219 y220 y221 y222 y223 y224 y225 y226 y227 y228 y229 y230 y231 y232 y233 y234 y235 y236 y237 y238 y239 y240 y241 y242 y243 y244 y245 y246 y247 y248 y249 y250 y251 y252 y253 y254 y255 y256 y257 y258 y259 y260 y261 y262 y263 y264 y265 y266 y267 y268 y269 y270 y271 y272 y273 y274 y275 y276 y277 y278 y279 y280 y281 y282 y283 y284 y285 y286 y287 y288 y289 y290 y291 y292 y293 y294 y295 y296 y297 y298 y299 y300 y301 y302 y303 y304 y305 y306 y307 y308 y309 y310 y311 y312 y313 y314 y315 y316 y317 y318 y319 y320 y321 y322 y323 y324 y325 y326 y327 y328 y329 y330 y331 y332 y333 y334 y335 y336 y337 y338 y339 y340 y341 y342 y343 y344 y345 y346 y347 y348 y349 y350 y351 y352 y353 y354 y355 y356 y357 y358 y359 y360 y361 y362 y363 y364 y365 y366 y367 y368 y369 y370 y371 y372 y373 y374 y375 y376 y377 y378 y379 y380 y381 y382 y383 y384 y385 y386 y387 y388 y389 y390 y391 y392 y393 y394 y395 y396 y397 y398 y399 y400 y401 y402 y403 y404 y405 y406 y407 y408 y409 y410 y411 y412 y413 y414 y415 y416 y417 y418 y419 y420 y421 y422 y423 y424 y425 y426 y427 y428 y429 y430 y431 y432 y433 y434 y435 y436 y437 y438 y439 y440 y441 y442 y443 y444 y445 y446 y447 y448 y449 y450 y451 y452 y453 y454 y455 y456 y457 y458 y459 y460 y461 y462 y463 y464 y465 y466 y467 y468 y469 y470 y471 y472 y473 y474 y475 y476 y477 y478 y479 y480 y481 y482 y483 y484 y485 y486 y487 y488 y489 y490 y491 y492 y493 y494 y495 y496 y497 y498 y499 y500 y501 y502 y503 y504 y505 y506 y507 y508 y509 y510 y511 y512 y513 y514 y515 y516 y517 y518 y519 y520 y521 y522 y523 y524 y525 y526 y527 y528 y529 y530 y531 y532 y533 y534 y535 y536 y537 y538 y539 y540 y541 y542 y543 y544 y545 y546 y547 y548 y549 y550 y551 y552 y553 y554 y555 y556 y557 y558 y559 y560 y561 y562 y563 y564 y565 y566 y567 y568 y569 y570 y571 y572 y573 y574 y575 y576 y577 y578 y579 y580 y581 y582 y583 y584 y585 y586 y587 y588 y589 y590 y591 y592 y593 y594 y595 y596 y597 y598 y599 y600 y601 y602 y603 y604 y605 y606 y607 : Value} (I : Interp) (w w5 : World) (rA rB : Ref) (held N T R me fb fo fn fc g1 g2 g3 kb k1c k2c k3c B1 : Nat) (md : Int) (fa k1a k2a k3a cp : Option Addr) (F : List UInt8) (nd : Nat → Nat) (ev hv : Nat → Value) (hheld : held < 65536)
    (hN3 : 3 ≤ N) (hN8 : N ≤ 8) (hT1 : 1 ≤ T) (hT6 : T ≤ 6) (hR1 : 1 ≤ R) (hR9 : R ≤ 9) (hme8 : me < N) (hfn : fn ≤ 2000000) (hA : rA.ok w) (hB : rB.ok w) (hAb : rA.b < w.heap.size) (hBb : rB.b < w.heap.size) (hF5 : Fr [] w w5) (hI : I.answers w.tape) (hS : Sen w)
    (HNet5 : Hid (Net w5 (kb + 1 + 1 + 1) (kb + 1 + 1) nd N T R me md (some ⟨kb, 0, none⟩) (some ⟨kb + 1, 0, none⟩) cp ev hv (rsF held rA rB)))
    (HNds : Hid ((∀ j, j < N → w.heap.size ≤ nd j ∧ nd j < B1 ∧ (∀ i, i < j → nd i < nd j) ∧ (act md T j me = true → hv j = .pointer none) ∧ (act md T j me = false → ∃ x, hv j = .pointer (some x))) ∧ w.heap.size ≤ kb ∧ kb + 4 ≤ B1))
    (HSl : Hid (Sl w5 fb fo fa fn fc F ∧ Sl w5 g1 0 k1a fn k1c F ∧ Sl w5 g2 0 k2a rA.n k2c rA.l ∧ Sl w5 g3 0 k3a rB.n k3c rB.l ∧ (fb < w.heap.size ∨ B1 ≤ fb) ∧ B1 ≤ g1 ∧ B1 ≤ g2 ∧ B1 ≤ g3)) :
    Code.wp Ybaf.prog (cdrN 27 (Ybaf.f3.body.getD .skip)) (bodyPost Ybaf.prog Ybaf.f3 fun e w' => e = .returned (.bool true) ∧ Hid (Fr [] w w')) { tmps := #[y0, y1, y2, y3, y4, y5, .int .u16 held, .slice rA.a rA.n rA.c, .slice rB.a rB.n rB.c, y9, y10, y11, y12, y13, y14, y15, y16, y17, y18, y19, y20, y21, y22, y23, y24, .int .i64 N, .int .i64 T, .int .i64 R, .int .i64 me, .int .i64 md, .pointer cp, .slice (some ⟨kb, 0, none⟩) N N, .pointer (some ⟨kb + 1, 0, none⟩), .pointer (some ⟨kb + 1 + 1 + 1, 0, none⟩), y34, y35, y36, y37, .slice fa fn fc, y39, y40, y41, y42, y43, y44, y45, .slice k1a fn k1c, .slice k2a rA.n k2c, .slice k3a rB.n k3c, .int .i64 0, .int .i64 (-1), .int .i64 (-1), .slice none 0 0, .slice none 0 0, .slice none 0 0, y55, y56, y57, y58, y59, y60, y61, y62, y63, y64, y65, y66, y67, y68, y69, y70, y71, y72, y73, y74, y75, y76, y77, y78, y79, y80, y81, y82, y83, y84, y85, y86, y87, y88, y89, y90, y91, y92, y93, y94, y95, y96, y97, y98, y99, y100, y101, y102, y103, y104, y105, y106, y107, y108, y109, y110, y111, y112, y113, y114, y115, y116, y117, y118, y119, y120, y121, y122, y123, y124, y125, y126, y127, y128, y129, y130, y131, y132, y133, y134, y135, y136, y137, y138, y139, y140, y141, y142, y143, y144, y145, y146, y147, y148, y149, y150, y151, y152, y153, y154, y155, y156, y157, y158, y159, y160, y161, y162, y163, y164, y165, y166, y167, y168, y169, y170, y171, y172, y173, y174, y175, y176, y177, y178, y179, y180, y181, y182, y183, y184, y185, y186, y187, y188, y189, y190, y191, y192, y193, y194, y195, y196, y197, y198, y199, y200, y201, y202, y203, y204, y205, y206, y207, y208, y209, y210, y211, y212, y213, y214, y215, y216, y217, y218, y219, y220, y221, y222, y223, y224, y225, y226, y227, y228, y229, y230, y231, y232, y233, y234, y235, y236, y237, y238, y239, y240, y241, y242, y243, y244, y245, y246, y247, y248, y249, y250, y251, y252, y253, y254, y255, y256, y257, y258, y259, y260, y261, y262, y263, y264, y265, y266, y267, y268, y269, y270, y271, y272, y273, y274, y275, y276, y277, y278, y279, y280, y281, y282, y283, y284, y285, y286, y287, y288, y289, y290, y291, y292, y293, y294, y295, y296, y297, y298, y299, y300, y301, y302, y303, y304, y305, y306, y307, y308, y309, y310, y311, y312, y313, y314, y315, y316, y317, y318, y319, y320, y321, y322, y323, y324, y325, y326, y327, y328, y329, y330, y331, y332, y333, y334, y335, y336, y337, y338, y339, y340, y341, y342, y343, y344, y345, y346, y347, y348, y349, y350, y351, y352, y353, y354, y355, y356, y357, y358, y359, y360, y361, y362, y363, y364, y365, y366, y367, y368, y369, y370, y371, y372, y373, y374, y375, y376, y377, y378, y379, y380, y381, y382, y383, y384, y385, y386, y387, y388, y389, y390, y391, y392, y393, y394, y395, y396, y397, y398, y399, y400, y401, y402, y403, y404, y405, y406, y407, y408, y409, y410, y411, y412, y413, y414, y415, y416, y417, y418, y419, y420, y421, y422, y423, y424, y425, y426, y427, y428, y429, y430, y431, y432, y433, y434, y435, y436, y437, y438, y439, y440, y441, y442, y443, y444, y445, y446, y447, y448, y449, y450, y451, y452, y453, y454, y455, y456, y457, y458, y459, y460, y461, y462, y463, y464, y465, y466, y467, y468, y469, y470, y471, y472, y473, y474, y475, y476, y477, y478, y479, y480, y481, y482, y483, y484, y485, y486, y487, y488, y489, y490, y491, y492, y493, y494, y495, y496, y497, y498, y499, y500, y501, y502, y503, y504, y505, y506, y507, y508, y509, y510, y511, y512, y513, y514, y515, y516, y517, y518, y519, y520, y521, y522, y523, y524, y525, y526, y527, y528, y529, y530, y531, y532, y533, y534, y535, y536, y537, y538, y539, y540, y541, y542, y543, y544, y545, y546, y547, y548, y549, y550, y551, y552, y553, y554, y555, y556, y557, y558, y559, y560, y561, y562, y563, y564, y565, y566, y567, y568, y569, y570, y571, y572, y573, y574, y575, y576, y577, y578, y579, y580, y581, y582, y583, y584, y585, y586, y587, y588, y589, y590, y591, y592, y593, y594, y595, y596, y597, y598, y599, y600, y601, y602, y603, y604, y605, y606, y607], defers := [] } w5 := by
  conv => arg 2; whnf
  go_upto_if 282 with fail
  go_cut [49, 50, 51, 52, 53, 54, 55, 56, 57, 58, 59, 60, 61, 62, 63] from 279 to 392 (fun v49 v50 v51 v52 v53 v54 _ _ _ _ _ _ _ _ _ wx => ∃ dv dn es : Int, v49 = .int .i64 dv ∧ v50 = .int .i64 dn ∧ v51 = .int .i64 es ∧ Hid (Fr [] w5 wx ∧ ExpR F N T R md hv (rsF held rA rB) dv dn es ∧ (0 ≤ es → ∃ mb gb z1 z2, v52 = .slice (cut fa 4 fc) (klen F) (fc - 4) ∧ v53 = .slice (some ⟨mb, 0, none⟩) (cnt F) (cnt F) ∧ v54 = .slice (some ⟨gb, 0, none⟩) (cnt F) (cnt F) ∧ Blk wx mb (Pre (cnt F) (cnt F) (zzF F) z1) 3 ∧ Blk wx gb (Pre (cnt F * 64) (cnt F * 64) (zzG F) z2) 80)))
  case first =>
    by_cases hRT : R ≤ T + 1
    · have q0 : decide ((R : Int) ≤ (T : Int) + 1) = true := by simp; omega
      have hlF := HSl.out.1.len
      by_cases htk : Takes F T
      · have q1 : decide ((fn : Int) ≤ 65542 + ((T : Int) + 1) * 66) = true := by have := htk.1; simp; omega
        have hZ := zz6_ok fb fo fa fn fc F w5 HSl.out.1 (by omega) htk.2
        obtain ⟨c, hc⟩ : ∃ c, c = cnt F := ⟨_, rfl⟩
        obtain ⟨x, hx⟩ : ∃ x, x = sgn F 0 := ⟨_, rfl⟩
        have hcl : c < 65536 := hc ▸ cnt_lt F
        have hxl : x < 65536 := hx ▸ sgn_lt F 0
        rw [← hc] at hZ
        have HC : Hid (c = cnt F) := hc
        have HX : Hid (x = sgn F 0) := hx
        have HTk : Hid (Takes F T) := htk
        clear hc hx htk hlF
        by_cases hc0 : c = 0
        · subst hc0
          go_wp2_with fail
          refine hZ.mono ?_
          rintro e w6 ⟨mb, gb, rfl, hz⟩
          clear hZ
          go_wp2_with fail
          go_meet
          case rel => exact ⟨1, -1, -1, rfl, rfl, rfl, hz.out.1, Or.inr (Or.inl ⟨hRT, fun h => (by have := HC.out; omega), rfl, rfl, rfl⟩), fun h => by omega⟩
        · by_cases hxN : x < N
          · have r1 : ((c : Int) == 0) = false := by simp; omega
            have r2 : decide ((N : Int) ≤ (x : Int)) = false := by simp; omega
            have r3 : decide (N ≤ x) = false := by simp; omega
            have r4 : (0 : Int) < (c : Int) := by omega
            have r5 : ¬ c = 0 := hc0
            go_wp2_with fail
            refine hZ.mono ?_
            rintro e w6 ⟨mb, gb, rfl, hz⟩
            obtain ⟨hG6, hmb1, hgb1, hmb2, hgb2, z1, z2, hM, hG⟩ := hz.out
            have m0 := hM.preOk (m := 0) (by omega) (by omega)
            rw [show zzF F 0 = .int .i64 (x : Nat) by rw [HX.out]; rfl] at m0
            have hAc := active4 md T x me (by omega) (by omega) (by omega) w6
            have hsv : Sl w6 fb (fo + 4) (cut fa 4 fc) (klen F) (fc - 4) (valF F) := (HSl.out.1.fr hG6 (by simp)).sub 4 (klen F) (by have := HTk.out.2; obtain ⟨h4, h5, _⟩ := this; have := HSl.out.1.len; omega)
            have hEA := equal7 (Ref.fr hA (hF5.trans hG6) (by simp)) hsv
            have hEB := equal7 (Ref.fr hB (hF5.trans hG6) (by simp)) hsv
            clear hZ hz hsv
            go_wp2_with fail
            refine hAc.mono ?_
            rintro e w6 ⟨rfl, rfl⟩
            clear hAc
            go_upto_if 324 with fail
            go_cut [58, 59] from 324 to 329 (fun v58 v59 wx => w6 = wx ∧ v58 = .int .i64 ((if bitH held (2 * x) = true then [rA] else []).length : Nat) ∧ v59 = .bool (hasV (if bitH held (2 * x) = true then [rA] else []) (valF F)))
            case first =>
              go_wp2_with fail
              · refine hEA.mono ?_
                rintro e w6 ⟨rfl, rfl⟩
                clear hEA hEB
                go_wp2_with fail
                all_goals go_meet
                all_goals
                  have hb : bitH held (2 * x) = true := by unfold bitH; assumption
                  rw [show (if bitH held (2 * x) = true then [rA] else []) = [rA] from if_pos hb]
                  refine ⟨rfl, rfl, ?_⟩
                  simp [hasV]
                  first | assumption | (apply of_decide_eq_true; assumption) | (apply of_decide_eq_false; assumption)
              · go_meet
                case rel =>
                  have hb : bitH held (2 * x) = false := by unfold bitH; assumption
                  rw [show (if bitH held (2 * x) = true then [rA] else []) = [] from if_neg (by rw [hb]; simp)]
                  exact ⟨rfl, rfl, rfl⟩
            case rest =>
            obtain ⟨rfl, rfl, rfl⟩ := hcut
            obtain ⟨rs1, hrs1⟩ : ∃ rs1, rs1 = (if bitH held (2 * x) = true then [rA] else []) := ⟨_, rfl⟩
            have hl1 : rs1.length ≤ 1 := by rw [hrs1]; split <;> simp
            rw [← hrs1]
            have HR1 : Hid (rs1 = (if bitH held (2 * x) = true then [rA] else [])) := hrs1
            clear hrs1
            obtain ⟨l1, hl1'⟩ : ∃ l1, l1 = rs1.length := ⟨_, rfl⟩
            obtain ⟨h1, hh1'⟩ : ∃ h1, h1 = hasV rs1 (valF F) := ⟨_, rfl⟩
            rw [← hl1', ← hh1']
            rw [← hl1'] at hl1
            have HL1 : Hid (l1 = rs1.length) := hl1'
            have HH1 : Hid (h1 = hasV rs1 (valF F)) := hh1'
            clear hl1' hh1'
            go_upto_if 336 with fail
            go_cut [58, 59] from 336 to 341 (fun v58 v59 wx => w6 = wx ∧ v58 = .int .i64 ((rsF held rA rB x).length : Nat) ∧ v59 = .bool (hasV (rsF held rA rB x) (valF F)))
            case first =>
              go_wp2_with fail
              · refine hEB.mono ?_
                rintro e w6 ⟨rfl, rfl⟩
                clear hEA hEB
                go_wp2_with fail
                all_goals go_meet
                all_goals
                  have hb : bitH held (2 * x + 1) = true := by unfold bitH; assumption
                  have e : rsF held rA rB x = rs1 ++ [rB] := by
                    unfold rsF
                    rw [show (if bitH held (2 * x + 1) = true then [rB] else []) = [rB] from if_pos hb, ← HR1.out]
                  rw [e]
                  refine ⟨rfl, by rw [HL1.out]; simp, ?_⟩
                  first
                    | (have h : rB.l = valF F := by first | assumption | (apply of_decide_eq_true; assumption)
                       simp [hasV, h]; done)
                    | (have h : ¬ rB.l = valF F := by first | assumption | (apply of_decide_eq_false; assumption)
                       rw [HH1.out]; simp [hasV, h]; done)
              · go_meet
                case rel =>
                  have hb : bitH held (2 * x + 1) = false := by unfold bitH; assumption
                  have e : rsF held rA rB x = rs1 := by
                    unfold rsF
                    rw [show (if bitH held (2 * x + 1) = true then [rB] else []) = [] from if_neg (by rw [hb]; simp), List.append_nil, ← HR1.out]
                  rw [e]
                  exact ⟨rfl, by rw [HL1.out], by rw [HH1.out]⟩
            case rest =>
            obtain ⟨rfl, rfl, rfl⟩ := hcut
            clear hEA hEB
            obtain ⟨l2, hl2⟩ : ∃ l2, l2 = (rsF held rA rB x).length := ⟨_, rfl⟩
            obtain ⟨hq, hhq⟩ : ∃ hq, hq = hasV (rsF held rA rB x) (valF F) := ⟨_, rfl⟩
            rw [← hl2, ← hhq]
            have hl3 : l2 ≤ 2 := hl2 ▸ rsF_len _ _ _ _
            obtain ⟨ac, hac⟩ : ∃ ac, ac = act md T x me := ⟨_, rfl⟩
            rw [← hac]
            have HL : Hid (l2 = (rsF held rA rB x).length) := hl2
            have HH : Hid (hq = hasV (rsF held rA rB x) (valF F)) := hhq
            have HA : Hid (ac = act md T x me) := hac
            clear hl2 hhq hac
            have hskip : Hid (Skips (hv (sgn F 0)) (rsF held rA rB (sgn F 0)) (valF F) ↔ ac = true ∧ (l2 = 2 ∨ hq = true)) := by
              show _ ↔ _
              rw [← HX.out, HA.out, HL.out, HH.out]
              have hk := (HNds.out.1 x hxN).2.2.2
              unfold Skips
              constructor
              · rintro ⟨h1, h2⟩
                refine ⟨?_, h2⟩
                cases h : act md T x me with
                | true => rfl
                | false =>
                  obtain ⟨y, hy⟩ := hk.2 h
                  rw [hy] at h1
                  cases h1
              · rintro ⟨h1, h2⟩
                exact ⟨hk.1 h1, h2⟩
            go_upto_region 80 with fail
            go_cut [346] from 342 to 345 (fun v wx => w6 = wx ∧ v = .bool (ac && decide (l2 = 2)))
            case first =>
              cases ac with
              | true =>
                go_wp2_with fail
                go_meet
                case rel => exact ⟨rfl, by congr 1; rw [Bool.eq_iff_iff]; simp only [beq_iff_eq, Bool.true_and, decide_eq_true_eq]; omega⟩
              | false =>
                go_wp2_with fail
                go_meet
                case rel => exact ⟨rfl, rfl⟩
            case rest =>
            obtain ⟨rfl, rfl⟩ := hcut
            go_upto_if 346 with fail
            cases hb1 : (ac && decide (l2 = 2)) with
            | true =>
              have hsk : Hid (Skips (hv (sgn F 0)) (rsF held rA rB (sgn F 0)) (valF F)) := hskip.out.2 (by simp at hb1; exact ⟨hb1.1, Or.inl hb1.2⟩)
              go_wp2_with fail
              go_meet
              case rel => exact ⟨0, -1, -1, rfl, rfl, rfl, hG6, Or.inr (Or.inr ⟨hRT, ⟨HTk.out, by rw [← HC.out]; omega, by rw [← HX.out]; exact hxN⟩, Or.inl ⟨hsk.out, rfl, rfl, rfl⟩⟩), fun h => by omega⟩
            | false =>
              have HB1 : Hid ((ac && decide (l2 = 2)) = false) := hb1
              go_upto_region 81 with fail
              clear hb1
              go_cut [350] from 347 to 349 (fun v wx => w6 = wx ∧ v = .bool (ac && hq))
              case first =>
                cases ac with
                | true =>
                  go_wp2_with fail
                  go_meet
                  case rel => exact ⟨rfl, by simp⟩
                | false =>
                  go_wp2_with fail
                  go_meet
                  case rel => exact ⟨rfl, rfl⟩
              case rest =>
              obtain ⟨rfl, rfl⟩ := hcut
              go_upto_if 350 with fail
              cases hb2 : (ac && hq) with
              | true =>
                have hsk : Hid (Skips (hv (sgn F 0)) (rsF held rA rB (sgn F 0)) (valF F)) := hskip.out.2 (by simp at hb2; exact ⟨hb2.1, Or.inr hb2.2⟩)
                go_wp2_with fail
                go_meet
                case rel => exact ⟨0, -1, -1, rfl, rfl, rfl, hG6, Or.inr (Or.inr ⟨hRT, ⟨HTk.out, by rw [← HC.out]; omega, by rw [← HX.out]; exact hxN⟩, Or.inl ⟨hsk.out, rfl, rfl, rfl⟩⟩), fun h => by omega⟩
              | false =>
                have hsk : Hid (¬ Skips (hv (sgn F 0)) (rsF held rA rB (sgn F 0)) (valF F)) := fun h => by
                  obtain ⟨a1, a2⟩ := hskip.out.1 h
                  have a3 : (ac && decide (l2 = 2)) = false := HB1
                  rw [a1] at a3 hb2
                  simp at a3 hb2
                  rcases a2 with a2 | a2
                  · exact a3 a2
                  · rw [a2] at hb2; cases hb2
                clear hskip HB1 HH HL HA
                obtain ⟨X, hmk, hbk⟩ := mkBool F N (by omega)
                obtain ⟨b0, hb0⟩ : ∃ b0 : Bool, b0 = ((c : Int) == (R : Int)) := ⟨_, rfl⟩
                have hb0' : ((c : Int) == (R : Int)) = b0 := hb0.symm
                have HB0 : Hid (b0 = true ↔ c = R) := by show _ ↔ _; rw [hb0]; simp; omega
                clear hb0
                go_upto_region 84 with fail
                refine at_world (p := fun v => Code.wp _ _ _ _ v) (F := fun v => Fr [] w6 v ∧ w6.heap.size < v.heap.size ∧ Blk v w6.heap.size (SeenC F N 0) 4) ?_ ?_
                · exact ⟨(Fr.refl _ _).alloc _, by simp, hbk _⟩
                intro V ⟨hVf, hVz, hVB⟩
                obtain ⟨s2, hs2'⟩ : ∃ s2, s2 = w6.heap.size := ⟨_, rfl⟩
                rw [← hs2'] at hVz hVB hmb2 hgb2 ⊢
                have h56 : Hid (w5.heap.size ≤ s2) := by show _ ≤ _; rw [hs2']; exact hG6.size
                have hMV := hVf.blk hM (by simp)
                have hGV := hVf.blk hG (by simp)
                have hFV : Fr [] w5 V := hG6.trans hVf
                clear hs2' hmk hbk m0 hb0' hM hG hVf hb2
                go_wp2_with fail
                go_loopw [60, 62] (fun v60 v62 wr => ∃ (i : Nat) (b : Bool), v60 = .bool b ∧ v62 = .int .i64 i ∧ i ≤ c + 1 ∧ Fr [s2] V wr ∧ Hid (b = true → i ≤ c ∧ c = R ∧ Blk wr s2 (SeenC F N i) 4 ∧ ∀ j, j < i → GoodS F N T (sgn F 0) md j) ∧ Hid (b = false → ¬ Conf F N T (sgn F 0) md R))
                  (fun v60 v62 _ => msr c v60 v62)
                case atStart => exact ⟨0, b0, rfl, rfl, by omega, Fr.refl _ _, fun h => ⟨by omega, HB0.out.1 h, hVB, fun j hj => absurd hj (Nat.not_lt_zero _)⟩, fun h hcf => by have := HB0.out.2 (HC.out.trans hcf.1); rw [h] at this; cases this⟩
                case round =>
                  obtain ⟨i, b, rfl, rfl, hic, hFr, hbt, hbf⟩ := hrel
                  cases b with
                  | false =>
                    have HNo : Hid (¬ Conf F N T (sgn F 0) md R) := hbf.out rfl
                    clear hbt hbf
                    go_wp2_with fail
                    go_meet
                    case rel =>
                      have hFz : Fr [] w5 wr := Fr.drop ((Fr.mono hFV (by simp)).trans hFr) (by have := h56.out; simpa using this)
                      exact ⟨0, x, -1, rfl, rfl, rfl, hFz, Or.inr (Or.inr ⟨hRT, ⟨HTk.out, by rw [← HC.out]; omega, by rw [← HX.out]; exact hxN⟩, Or.inr (Or.inl ⟨hsk.out, HNo.out, rfl, by rw [HX.out], rfl⟩)⟩), fun h => by omega⟩
                  | true =>
                    obtain ⟨hic', hcR, hSB, hgood⟩ := hbt.out rfl
                    have HcR : Hid (c = R) := hcR
                    have Hgood : Hid (∀ j, j < i → GoodS F N T (sgn F 0) md j) := hgood
                    clear hbt hbf hcR hgood
                    by_cases hi : i < c
                    · have hMr := hFr.blk hMV (by simp; omega)
                      obtain ⟨y, hy⟩ : ∃ y, y = sgn F i := ⟨_, rfl⟩
                      have hyl : y < 65536 := hy ▸ sgn_lt F i
                      have mi := hMr.preOk hi hi
                      rw [show zzF F i = .int .i64 (y : Nat) by rw [hy]; rfl] at mi
                      have HY : Hid (y = sgn F i) := hy
                      clear hy hMr
                      have b0' : (0 : Int) ≤ (i : Int) := by omega
                      have b1' : (i : Int) < (c : Int) := by omega
                      have hA4 := active4 md T x y (by omega) (by omega) (by omega) wr
                      by_cases hyN : y < N
                      · have d0 : decide ((N : Int) ≤ (y : Int)) = false := by simp; omega
                        have d1 : decide (N ≤ y) = false := by simp; omega
                        have d2 : (0 : Int) ≤ (y : Int) := by omega
                        have d3 : (y : Int) < (N : Int) := by omega
                        have k0 := hSB.cell y (SeenC.get F N i hyN)
                        have k1 := hSB.frozen y
                        cases hse : seenB F i y with
                        | true =>
                          rw [hse] at k0
                          have hbad : Hid (¬ Conf F N T (sgn F 0) md R) := fun h => by
                            have h1 := (h.2 i (by rw [← HC.out]; exact hi)).2.1
                            rw [← HY.out, hse] at h1
                            cases h1
                          clear hse hA4
                          go_wp2_with fail
                          go_roundw
                          case rel => exact ⟨i + 1, false, rfl, by simp, by omega, hFr, fun h => (by cases h), fun _ => hbad.out⟩
                          case measure => simp [msr, intOf]; omega
                        | false =>
                          rw [hse] at k0
                          have HE2 : Hid (seenB F i y = false) := hse
                          clear hse
                          cases hac : act md T x y with
                          | false =>
                            rw [hac] at hA4
                            have hbad : Hid (¬ Conf F N T (sgn F 0) md R) := fun h => by
                              have h1 := (h.2 i (by rw [← HC.out]; exact hi)).2.2
                              rw [← HY.out, ← HX.out, hac] at h1
                              cases h1
                            clear hac
                            go_wp2_with fail
                            refine hA4.mono ?_
                            rintro e wr ⟨rfl, rfl⟩
                            clear hA4
                            go_wp2_with fail
                            go_roundw
                            case rel => exact ⟨i + 1, false, rfl, by simp, by omega, hFr, fun h => (by cases h), fun _ => hbad.out⟩
                            case measure => simp [msr, intOf]; omega
                          | true =>
                            rw [hac] at hA4
                            have hgd : Hid (∀ j, j < i + 1 → GoodS F N T (sgn F 0) md j) := fun j hj => by
                              rcases Nat.lt_succ_iff_lt_or_eq.1 hj with h | h
                              · exact Hgood.out j h
                              · subst h
                                refine ⟨by rw [← HY.out]; exact hyN, ?_, ?_⟩
                                · rw [← HY.out]; exact HE2
                                · rw [← HY.out, ← HX.out]; exact hac
                            have hset : Hid ((SeenC F N i).set y (.bool true) = SeenC F N (i + 1)) := by
                              show _ = _
                              rw [HY.out]; exact SeenC.set F N i
                            clear hac
                            go_wp2_with fail
                            refine hA4.mono ?_
                            rintro e wr ⟨rfl, rfl⟩
                            clear hA4
                            go_wp2_with fail
                            go_roundw
                            case rel =>
                              refine ⟨i + 1, true, rfl, by simp, by omega, hFr.setCell (by simp) _, fun _ => ⟨by omega, HcR.out, ?_, hgd.out⟩, fun h => (by cases h)⟩
                              have h := hSB.setCell y (.bool true)
                              rw [hset.out] at h
                              exact h
                            case measure => simp [msr, intOf]; omega
                      · have d0 : decide ((N : Int) ≤ (y : Int)) = true := by simp; omega
                        have d1 : decide (N ≤ y) = true := by simp; omega
                        have d2 : N ≤ y := by omega
                        have hbad : Hid (¬ Conf F N T (sgn F 0) md R) := fun h => by
                          have h1 := (h.2 i (by rw [← HC.out]; exact hi)).1
                          rw [← HY.out] at h1
                          omega
                        clear hA4
                        go_wp2_with fail
                        go_roundw
                        case rel => exact ⟨i + 1, false, rfl, by simp, by omega, hFr, fun h => (by cases h), fun _ => hbad.out⟩
                        case measure => simp [msr, intOf]; omega
                    · obtain rfl : c = i := by omega
                      have hyes : Hid (Conf F N T (sgn F 0) md R) := ⟨HC.out.symm.trans HcR.out, fun j hj => Hgood.out j (by rw [HC.out]; exact hj)⟩
                      have hMr := hFr.blk hMV (by simp; omega)
                      have hGr := hFr.blk hGV (by simp; omega)
                      have HM : Hid (Blk wr mb (Pre c c (zzF F) z1) 3 ∧ Blk wr gb (Pre (c * 64) (c * 64) (zzG F) z2) 80) := ⟨hMr, hGr⟩
                      clear hMr hGr hSB
                      go_wp2_with fail
                      go_meet
                      case rel =>
                        have hFz : Fr [] w5 wr := Fr.drop ((Fr.mono hFV (by simp)).trans hFr) (by have := h56.out; simpa using this)
                        refine ⟨0, -1, x, rfl, rfl, rfl, hFz, Or.inr (Or.inr ⟨hRT, ⟨HTk.out, by rw [← HC.out]; omega, by rw [← HX.out]; exact hxN⟩, Or.inr (Or.inr ⟨hsk.out, hyes.out, rfl, rfl, by rw [HX.out]⟩)⟩), fun _ => ⟨mb, gb, z1, z2, rfl, by rw [← HC.out], by rw [← HC.out], by rw [← HC.out]; exact HM.out.1, by rw [← HC.out]; exact HM.out.2⟩⟩
          · have r1 : ((c : Int) == 0) = false := by simp; omega
            have r2 : decide ((N : Int) ≤ (x : Int)) = true := by simp; omega
            have r3 : decide (N ≤ x) = true := by simp; omega
            have r6 : N ≤ x := by omega
            have r4 : (0 : Int) < (c : Int) := by omega
            go_wp2_with fail
            refine hZ.mono ?_
            rintro e w6 ⟨mb, gb, rfl, hz⟩
            obtain ⟨hG6, hmb1, hgb1, hmb2, hgb2, z1, z2, hM, hG⟩ := hz.out
            have m0 := hM.preOk (m := 0) (by omega) (by omega)
            rw [show zzF F 0 = .int .i64 (x : Nat) by rw [HX.out]; rfl] at m0
            clear hZ hz hM hG
            go_wp2_with fail
            go_meet
            case rel => exact ⟨1, -1, -1, rfl, rfl, rfl, hG6, Or.inr (Or.inl ⟨hRT, fun h => (by have := HX.out; omega), rfl, rfl, rfl⟩), fun h => by omega⟩
      · by_cases hln : fn ≤ 65542 + (T + 1) * 66
        · have q1 : decide ((fn : Int) ≤ 65542 + ((T : Int) + 1) * 66) = true := by simp; omega
          have hZ := zz6_bad fb fo fa fn fc F w5 HSl.out.1 (by omega) (fun h => htk ⟨by omega, h⟩)
          go_wp2_with fail
          refine hZ.mono ?_
          rintro e w6 ⟨rfl, nq, rfl⟩
          clear hZ
          go_wp2_with fail
          go_meet
          case rel => exact ⟨1, -1, -1, rfl, rfl, rfl, (Fr.refl _ _).drewN _, Or.inr (Or.inl ⟨hRT, fun h => htk h.1, rfl, rfl, rfl⟩), fun h => by omega⟩
        · have q1 : decide ((fn : Int) ≤ 65542 + ((T : Int) + 1) * 66) = false := by simp; omega
          go_wp2_with fail
          go_meet
          case rel => exact ⟨1, -1, -1, rfl, rfl, rfl, Fr.refl _ _, Or.inr (Or.inl ⟨hRT, fun h => htk h.1, rfl, rfl, rfl⟩), fun h => by omega⟩
    · have q0 : decide ((R : Int) ≤ (T : Int) + 1) = false := by simp; omega
      go_wp2_with fail
      go_meet
      case rel => exact ⟨0, -1, -1, rfl, rfl, rfl, Fr.refl _ _, Or.inl ⟨by omega, rfl, rfl, rfl⟩, fun h => by omega⟩
  case rest =>
  obtain ⟨dv, dn, es, rfl, rfl, rfl, hexp⟩ := hcut
  rename World => w6
  have hx56 := hexp.out.1
  have hF6 : Fr [] w w6 := hF5.trans hx56
  have hI6 : Hid (I.answers w6.tape) := by show I.answers _; rw [hF6.tape]; exact hI
  refine ‹∀ (a : Act) (v : World), Code.wp _ _ _ a v → _› _ _ ?_
  exact law7 I w w6 rA rB held N T R me fb fo fn fc g1 g2 g3 kb k1c k2c k3c B1 md fa k1a k2a k3a cp F nd ev hv dv dn es hN3 hN8 hT1 hT6 hR1 hR9 hme8 hfn hA hB hAb hBb hF6 hI6 (hS.fr hF6) (HNet5.out.fr hx56) HNds
    ⟨HSl.out.1.fr hx56 (by simp), HSl.out.2.1.fr hx56 (by simp), HSl.out.2.2.1.fr hx56 (by simp), HSl.out.2.2.2.1.fr hx56 (by simp), HSl.out.2.2.2.2⟩ hexp.out.2.1 hexp.out.2.2
end Go.Proofs.YbulkdnmcFmt
