/- LawS5722BWhole (3): behind Begin. -/
import Derived.Test.YbulkdnmcFmtCd
namespace Go.Proofs.YbulkdnmcFmt
open Go.RowKit Go.Extern.Stop Go.Stop Go.Extern
set_option linter.unusedSimpArgs false
set_option linter.unusedVariables false

set_option maxRecDepth 100000 in
set_option maxHeartbeats 8000000 in
theorem law8 {y0 y1 y2 y3 y4 y5 y6 y9 y10 y11 y12 y13 y14 y15 y16 y17 y18 y19 y20 y21 y22 y23 y24 y26 y28 y29 y34 y35 y36 y37 y39 y40 y41 y42 y43 y44 y45 y52 y53 y54 y55 y56 y57 y58 y59 y60 y61 y62 y63 y65 y66 y67 y68 y69 y70 y71 y72 y73 y74 y75 y76 y77 y78 y79 y80 y81 y82 y83 y84 y85 y86 y87 y88 y89 y90 y91 y92 y93 y94 y95 y96 y97 y98 y99 y100 y101 y102 y103 y104 y105 y106 y107 y108 y109 y110 y111 y112 y113 y114 y115 y116 y117 y118 y119 y120 y121 y122 y123 y124 y125 y126 y127 y128 y129 y130 y131 y132 y133 y134 y135 y136 y137 y138 y139 y140 y141 y142 y143 y144 y145 y146 y147 y148 y149 y150 y151 y152 y153 y154 y155 y156 y157 y158 y159 y160 y161 y162 y163 y164 y165 y166 y167 y168 y169 y170 y171 y172 y173 y174 y175 y176 y177 y178 y179 y180 y181 y182 y183 y184 y185 y186 y187 y188 y189 y190 y191 y192 y193 y194 y195 y196 y197 y198 y199 y200 y201 y202 y203 y204 y205 y206 y207 y208 y209 y210 y211 y212 y213 y214 y215 y216 y217 y218 y219 y220 y221 y222 y223 y224 y225 y226 y227 y228 y229 y230 y231 y232 y233 y234 y235 y236 y237 y238 y239 y240 y241 y242 y243 y244 y245 y246 y247 y248 y249 y250 y251 y252 y253 y254 y255 y256 y257 y258 y259 y260 y261 y262 y263 y264 y265 y266 y267 y268 y269 y270 y271 y272 y273 y274 y275 y276 y277 y278 y279 y280 y281 y282 y283 y284 y285 y286 y287 y288 y289 y290 y291 y292 y293 y294 y295 y296 y297 y298 y299 y300 y301 y302 y303 y304 y305 y306 y307 y308 y309 y310 y311 y312 y313 y314 y315 y316 y317 y318 y319 y320 y321 y322 y323 y324 y325 y326 y327 y328 y329 y330 y331 y332 y333 y334 y335 y336 y337 y338 y339 y340 y341 y342 y343 y344 y345 y346 y347 y348 y349 y350 y351 y352 y353 y354 y355 y356 y357 y358 y359 y360 y361 y362 y363 y364 y365 y366 y367 y368 y369 y370 y371 y372 y373 y374 y375 y376 y377 y378 y379 y380 y381 y382 y383 y384 y385 y386 y387 y388 y389 y390 y391 y392 y393 y394 y395 y396 y397 y398 y399 y400 y401 y402 y403 y404 y405 y406 y407 y408 y409 y410 y411 y412 y413 y414 y415 y416 y417 y418 y419 y420 y421 y422 y423 y424 y425 y426 y427 y428 y429 y430 y431 y432 y433 y434 y435 y436 y437 y438 y439 y440 y441 y442 y443 y444 y445 y446 y447 y448 y449 y450 y451 y452 y453 y454 y455 y456 y457 y458 y459 y460 y461 y462 y463 y464 y465 y466 y467 y468 y469 y470 y471 y472 y473 y474 y475 y476 y477 y478 y479 y480 y481 y482 y483 y484 y485 y486 y487 y488 y489 y490 y491 y492 y493 y494 y495 y496 y497 y498 y499 y500 y501 y502 y503 y504 y505 y506 y507 y508 y509 y510 y511 y512 y513 y514 y515 y516 y517 y518 y519 y520 y521 y522 y523 y524 y525 y526 y527 y528 y529 y530 y531 y532 y533 y534 y535 y536 y537 y538 y539 y540 y541 y542 y543 y544 y545 y546 y547 y548 y549 y550 y551 y552 y553 y554 y555 y556 y557 y558 y559 y560 y561 y562 y563 y564 y565 y566 y567 y568 y569 y570 y571 y572 y573 y574 y575 y576 y577 y578 y579 y580 y581 y582 y583 y584 y585 y586 y587 y588 y589 y590 y591 y592 y593 y594 y595 y596 y597 y598 y599 y600 y601 y602 y603 y604 y605 y606 y607 : Value} (w w6 w7 : World) (rA rB : Ref) (N T R fb fo fn fc g1 g2 g3 kb k1c k2c k3c : Nat) (fa k1a k2a k3a cp pa : Option Addr) (F : List UInt8) (nd : Nat → Nat) (dv dn es : Int)
    (hN3 : 3 ≤ N) (hN8 : N ≤ 8) (hR9 : R ≤ 9) (hfn : fn ≤ 2000000) (hFw7 : Hid (Fr [] w w7))
    (HSl7 : Hid (Sl w7 fb fo fa fn fc F ∧ Sl w7 g1 0 k1a fn k1c F ∧ Sl w7 g2 0 k2a rA.n k2c rA.l ∧ Sl w7 g3 0 k3a rB.n k3c rB.l ∧ rA.ok w7 ∧ rB.ok w7))
    (hP : Post w7 (kb + 1 + 1 + 1) (kb + 1 + 1) nd N R dv dn)
    (HEnd : (es = -1 ∧ pa = none) ∨ ((Takes F T ∧ 0 < cnt F ∧ sgn F 0 < N) ∧ es = (sgn F 0 : Nat) ∧ ∃ pb cb, pa = some ⟨pb, 0, none⟩ ∧ Fr [] w6 w7 ∧ Blk w7 pb (pendC (nd (sgn F 0)) cb (.pointer (some ⟨kb + 1, 0, none⟩)) (.pointer cp) (.slice fa fn fc) R) 75 ∧ ChainAt w6 w7 cb fb fo F))
    (hexp3 : 0 ≤ es → ∃ mb gb z1 z2, y52 = .slice (cut fa 4 fc) (klen F) (fc - 4) ∧ y53 = .slice (some ⟨mb, 0, none⟩) (cnt F) (cnt F) ∧ y54 = .slice (some ⟨gb, 0, none⟩) (cnt F) (cnt F) ∧ Blk w6 mb (Pre (cnt F) (cnt F) (zzF F) z1) 3 ∧ Blk w6 gb (Pre (cnt F * 64) (cnt F * 64) (zzG F) z2) 80) :
    Code.wp Ybaf.prog (cdrN 29 (Ybaf.f3.body.getD .skip)) (bodyPost Ybaf.prog Ybaf.f3 fun e w' => e = .returned (.bool true) ∧ Hid (Fr [] w w')) { tmps := #[y0, y1, y2, y3, y4, y5, y6, .slice rA.a rA.n rA.c, .slice rB.a rB.n rB.c, y9, y10, y11, y12, y13, y14, y15, y16, y17, y18, y19, y20, y21, y22, y23, y24, .int .i64 N, y26, .int .i64 R, y28, y29, .pointer cp, .slice (some ⟨kb, 0, none⟩) N N, .pointer (some ⟨kb + 1, 0, none⟩), .pointer (some ⟨kb + 1 + 1 + 1, 0, none⟩), y34, y35, y36, y37, .slice fa fn fc, y39, y40, y41, y42, y43, y44, y45, .slice k1a fn k1c, .slice k2a rA.n k2c, .slice k3a rB.n k3c, .int .i64 dv, .int .i64 dn, .int .i64 es, y52, y53, y54, y55, y56, y57, y58, y59, y60, y61, y62, y63, .pointer pa, y65, y66, y67, y68, y69, y70, y71, y72, y73, y74, y75, y76, y77, y78, y79, y80, y81, y82, y83, y84, y85, y86, y87, y88, y89, y90, y91, y92, y93, y94, y95, y96, y97, y98, y99, y100, y101, y102, y103, y104, y105, y106, y107, y108, y109, y110, y111, y112, y113, y114, y115, y116, y117, y118, y119, y120, y121, y122, y123, y124, y125, y126, y127, y128, y129, y130, y131, y132, y133, y134, y135, y136, y137, y138, y139, y140, y141, y142, y143, y144, y145, y146, y147, y148, y149, y150, y151, y152, y153, y154, y155, y156, y157, y158, y159, y160, y161, y162, y163, y164, y165, y166, y167, y168, y169, y170, y171, y172, y173, y174, y175, y176, y177, y178, y179, y180, y181, y182, y183, y184, y185, y186, y187, y188, y189, y190, y191, y192, y193, y194, y195, y196, y197, y198, y199, y200, y201, y202, y203, y204, y205, y206, y207, y208, y209, y210, y211, y212, y213, y214, y215, y216, y217, y218, y219, y220, y221, y222, y223, y224, y225, y226, y227, y228, y229, y230, y231, y232, y233, y234, y235, y236, y237, y238, y239, y240, y241, y242, y243, y244, y245, y246, y247, y248, y249, y250, y251, y252, y253, y254, y255, y256, y257, y258, y259, y260, y261, y262, y263, y264, y265, y266, y267, y268, y269, y270, y271, y272, y273, y274, y275, y276, y277, y278, y279, y280, y281, y282, y283, y284, y285, y286, y287, y288, y289, y290, y291, y292, y293, y294, y295, y296, y297, y298, y299, y300, y301, y302, y303, y304, y305, y306, y307, y308, y309, y310, y311, y312, y313, y314, y315, y316, y317, y318, y319, y320, y321, y322, y323, y324, y325, y326, y327, y328, y329, y330, y331, y332, y333, y334, y335, y336, y337, y338, y339, y340, y341, y342, y343, y344, y345, y346, y347, y348, y349, y350, y351, y352, y353, y354, y355, y356, y357, y358, y359, y360, y361, y362, y363, y364, y365, y366, y367, y368, y369, y370, y371, y372, y373, y374, y375, y376, y377, y378, y379, y380, y381, y382, y383, y384, y385, y386, y387, y388, y389, y390, y391, y392, y393, y394, y395, y396, y397, y398, y399, y400, y401, y402, y403, y404, y405, y406, y407, y408, y409, y410, y411, y412, y413, y414, y415, y416, y417, y418, y419, y420, y421, y422, y423, y424, y425, y426, y427, y428, y429, y430, y431, y432, y433, y434, y435, y436, y437, y438, y439, y440, y441, y442, y443, y444, y445, y446, y447, y448, y449, y450, y451, y452, y453, y454, y455, y456, y457, y458, y459, y460, y461, y462, y463, y464, y465, y466, y467, y468, y469, y470, y471, y472, y473, y474, y475, y476, y477, y478, y479, y480, y481, y482, y483, y484, y485, y486, y487, y488, y489, y490, y491, y492, y493, y494, y495, y496, y497, y498, y499, y500, y501, y502, y503, y504, y505, y506, y507, y508, y509, y510, y511, y512, y513, y514, y515, y516, y517, y518, y519, y520, y521, y522, y523, y524, y525, y526, y527, y528, y529, y530, y531, y532, y533, y534, y535, y536, y537, y538, y539, y540, y541, y542, y543, y544, y545, y546, y547, y548, y549, y550, y551, y552, y553, y554, y555, y556, y557, y558, y559, y560, y561, y562, y563, y564, y565, y566, y567, y568, y569, y570, y571, y572, y573, y574, y575, y576, y577, y578, y579, y580, y581, y582, y583, y584, y585, y586, y587, y588, y589, y590, y591, y592, y593, y594, y595, y596, y597, y598, y599, y600, y601, y602, y603, y604, y605, y606, y607], defers := [] } w7 := by
  conv => arg 2; whnf
  obtain ⟨hP0, hP1, ⟨zr, hPr⟩, hPn⟩ := hP
  have HPn : Hid (∀ j, j < N → w7.cell? ⟨nd j, 15, none⟩ = some (.int .i64 (if (j : Int) = dn then 1 else 0)) ∧ w7.cell? ⟨nd j, 10, none⟩ = some (.int .i64 R)) := hPn
  clear hPn
  go_wp2_with fail
  go_loopw [65] (fun vs wr => ∃ s : Nat, vs = .int .i64 s ∧ s ≤ N ∧ w7 = wr) (fun vs _ => N - (intOf vs).toNat)
  case atStart => exact ⟨0, rfl, Nat.zero_le _, rfl⟩
  case round =>
    obtain ⟨s, rfl, hsN, rfl⟩ := hrel
    by_cases hs : s < N
    · obtain ⟨n15, n10⟩ := HPn.out s hs
      have hrw := hPr.preOk hs hs
      have b0 : (0 : Int) ≤ (s : Int) := by omega
      have b1 : (s : Int) < (N : Int) := by omega
      by_cases hsd : (s : Int) = dn
      · rw [if_pos hsd] at n15
        have t1 : ((s : Int) == dn) = true := by simp [hsd]
        have HSD : Hid ((s : Int) = dn) := hsd
        clear hsd
        go_wp2_with fail
        go_roundw
        case rel => exact ⟨s + 1, by simp, by omega, (by first | rfl | trivial)⟩
        case measure => simp [intOf]; omega
      · rw [if_neg hsd] at n15
        have t1 : ((s : Int) == dn) = false := by simp [hsd]
        go_wp2_with fail
        go_roundw
        case rel => exact ⟨s + 1, by simp, by omega, (by first | rfl | trivial)⟩
        case measure => simp [intOf]; omega
    · obtain rfl : N = s := by omega
      have hE1 := equal7 HSl7.out.1 HSl7.out.2.1
      have hE2 := equal7 HSl7.out.2.2.2.2.1 HSl7.out.2.2.1
      have hE3 := equal7 HSl7.out.2.2.2.2.2 HSl7.out.2.2.2.1
      rw [show decide (F = F) = true by simp] at hE1
      rw [show decide (rA.l = rA.l) = true by simp] at hE2
      rw [show decide (rB.l = rB.l) = true by simp] at hE3
      go_wp2_with fail
      refine hE1.mono ?_
      rintro e w7 ⟨rfl, rfl⟩
      go_wp2_with fail
      refine hE2.mono ?_
      rintro e w7 ⟨rfl, rfl⟩
      go_wp2_with fail
      refine hE3.mono ?_
      rintro e w7 ⟨rfl, rfl⟩
      clear hE1 hE2 hE3
      rcases HEnd with ⟨rfl, rfl⟩ | ⟨⟨htk, hc0, hsN'⟩, rfl, pb, cb, rfl, hF67, hPb, hCh⟩
      · go_wp2
        go_ret
        exact ⟨rfl, hFw7⟩
      · obtain ⟨gs, hq1, hq2, hq3, hq4, hCb, zc, hCg⟩ := hCh
        obtain ⟨mb, gz, zm1, zm2, hv52, hv53, hv54, hMb, hGz⟩ := hexp3 (by omega)
        subst hv52
        subst hv53
        subst hv54
        have hMb7 := hF67.blk hMb (by simp)
        have hGz7 := hF67.blk hGz (by simp)
        obtain ⟨k4, k5, k6, k7, k8⟩ := htk.2
        have hlF := HSl7.out.1.len
        have hfcn := HSl7.out.1.le
        have hfa := HSl7.out.1.addr (by omega)
        have hsv1 : Sl w7 fb (fo + 4) (some ⟨fb, fo + 4, none⟩) (klen F) (klen F) (valF F) := HSl7.out.1.val htk.2
        have hsv2 : Sl w7 fb (fo + 4) (cut fa 4 fc) (klen F) (fc - 4) (valF F) := HSl7.out.1.sub 4 (klen F) (by omega)
        have hEq : ∀ v, Fr [] w7 v → Calls Ybaf.prog 7 #[.slice (some ⟨fb, fo + 4, none⟩) (klen F) (klen F), .slice (cut fa 4 fc) (klen F) (fc - 4)] v fun e w' => e = .returned (.bool true) ∧ w' = v := fun v hv => by
          have h := equal7 (hsv1.fr hv (by simp)) (hsv2.fr hv (by simp))
          rw [show decide (valF F = valF F) = true by simp] at h
          exact h
        obtain ⟨ma, hma⟩ : ∃ ma, ma = cut fa 4 fc := ⟨_, rfl⟩
        rw [← hma] at hEq ⊢
        subst hfa
        obtain ⟨x, hx⟩ : ∃ x, x = sgn F 0 := ⟨_, rfl⟩
        obtain ⟨k, hk⟩ : ∃ k, k = klen F := ⟨_, rfl⟩
        obtain ⟨c, hc⟩ : ∃ c, c = cnt F := ⟨_, rfl⟩
        rw [← hx] at hsN' hPb ⊢
        rw [← hk] at hEq hCb k5 k6 k7 ⊢
        rw [← hc] at hCb hCg hMb7 hGz7 hc0 ⊢
        have hcl : c < 65536 := hc ▸ cnt_lt F
        have hrw := hPr.preOk hsN' hsN'
        unfold pendC at hPb
        have p0 := hPb.cell 0 rfl
        have p1 := hPb.cell 1 rfl
        have p2 := hPb.cell 2 rfl
        have p3 := hPb.cell 3 rfl
        have p4 := hPb.cell 4 rfl
        have p5 := hPb.cell 5 rfl
        have p6 := hPb.cell 6 rfl
        have p7 := hPb.cell 7 rfl
        have q0 := hCb.cell 0 rfl
        have q1 := hCb.cell 1 rfl
        have t0 : (0 : Int) ≤ (x : Int) := by omega
        have t1 : (x : Int) < (N : Int) := by omega
        have t2 : decide ((fn : Int) < 7) = false := by simp; omega
        have t3 : (0 : Int) < (fn : Int) := by omega
        have t4 : (4 : Int) < (fn : Int) := by omega
        have t5 : ((k : Int) == 0) = false := by simp; omega
        have t6 : (0 : Int) < (k : Int) := by omega
        have t7 : ¬ k = 0 := by omega
        have t8 : decide ((x : Int) < 0) = false := by simp
        have n72 := neq72
        have n38 := neq38
        have n26 := neq26
        have n76 := neq76
        have HK : Hid (k = klen F ∧ c = cnt F) := ⟨hk, hc⟩
        clear hma hx hk hc hsv1 hsv2 hlF hMb hGz
        go_upto_region 109 with fail
        go_quiet (fail)
        go_wp2_with fail
        go_quiet (fail)
        go_wp2_with fail
        refine at_world (p := fun v => Code.wp _ _ _ _ v) (F := fun v => Fr [] w7 v) (by first | exact (Fr.refl _ _).drewN _ | exact ((Fr.refl _ _).drewN _).drewN _) ?_
        intro w8 h78
        have q0' := (h78.blk hCb (by simp)).cell 0 rfl
        have q1' := (h78.blk hCb (by simp)).cell 1 rfl
        have hEq8 := fun n => hEq (w8.drewN n) (h78.drewN n)
        clear q0 q1 hEq
        go_quiet (first | (go_at_call 7; refine Calls.quiet_of_same (hEq8 _)))
        clear n72 n38 n26 n76 hEq8 p0 p1 p2 p3 p4 p5 p6 p7
        go_wp2_with fail
        go_loopw [68] (fun vi wr => ∃ i : Nat, vi = .int .i64 i ∧ i ≤ c ∧ Fr [] w7 wr) (fun vi _ => c - (intOf vi).toNat)
        case atStart => exact ⟨0, rfl, Nat.zero_le _, h78.drewN _⟩
        case round =>
          obtain ⟨i, rfl, hic, hFr⟩ := hrel
          clear q0' q1'
          by_cases hi : i < c
          · have hCbr := hFr.blk hCb (by simp)
            have q1 := hCbr.cell 1 rfl
            have hCgr := hFr.blk hCg (by simp)
            have hMr := hFr.blk hMb7 (by simp)
            have hGr := hFr.blk hGz7 (by simp)
            obtain ⟨y, hy⟩ : ∃ y, y = sgn F i := ⟨_, rfl⟩
            have s1 := hCgr.preOk (m := i * 65) (by omega) (by omega)
            rw [dcG_head, ← hy] at s1
            have s2 := hMr.preOk hi hi
            rw [show zzF F i = .int .i64 (y : Nat) by rw [hy]; rfl] at s2
            have l1 : ∀ v, (∃ n, v = wr.drewN n) → (Instr.loadAt 80 (.pointer (some ⟨gs, i * 65 + 1, none⟩))).run Ybaf.prog v = .ok (.agg (sgArr F i)) v := by
              rintro v ⟨n, rfl⟩
              refine ld80 F i (fun j hj => ?_)
              rw [Addr.add_mid', (hCgr.drewN n).preOk (by omega) (by omega), dcG_byte F i j hj]
            have l2 : ∀ v, (∃ n, v = wr.drewN n) → (Instr.loadAt 80 (.pointer (some ⟨gz, i * 64, none⟩))).run Ybaf.prog v = .ok (.agg (sgArr F i)) v := by
              rintro v ⟨n, rfl⟩
              refine ld80 F i (fun j hj => ?_)
              rw [Addr.add_mid', (hGr.drewN n).preOk (by omega) (by omega)]
              unfold zzG
              rw [show (i * 64 + j) / 64 = i by omega, show (i * 64 + j) % 64 = j by omega]
            have b0 : (0 : Int) ≤ (i : Int) := by omega
            have b1 : (i : Int) < (c : Int) := by omega
            clear hCbr hCgr hMr hGr hy
            go_upto_region 121 with fail
            refine wp_region_quiet_lit (by kernel_rfl) (by kernel_rfl) ?_
            repeat (first
              | go_big_quiet_skip
              | (go_big_quiet_want; first
                  | (refine quiet_load80 _ rfl rfl l1 ?_; go_big_quiet_on; go_simp)
                  | (refine quiet_load80 _ rfl rfl l2 ?_; go_big_quiet_on; go_simp)
                  | (refine quiet_neq80 _ _ _ rfl rfl rfl ?_; go_big_quiet_on; go_simp)
                  | (go_big_quiet_op; go_big_quiet_on)))
            refine wpQuiet_nil ?_
            intro nq
            go_wp2_with fail
            go_roundw
            case rel => exact ⟨i + 1, by simp, by omega, hFr.drewN _⟩
            case measure => simp [intOf]; omega
          · obtain rfl : c = i := by omega
            go_wp2
            go_ret
            exact ⟨rfl, hFw7.out.trans hFr⟩
end Go.Proofs.YbulkdnmcFmt
