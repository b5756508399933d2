/- zzs5722bdecode (6), the accepting half. -/
import Derived.Test.YbulkdnmcFmtZz
namespace Go.Proofs.YbulkdnmcFmt
open Go.RowKit
set_option linter.unusedSimpArgs false
set_option linter.unusedVariables false

theorem inf3 : (Ybaf.prog.info? 3).map (fun i => (i.size, i.bytes, i.zero.isSome)) = some (1, 8, true) := by kernel_rfl
theorem inf80 : (Ybaf.prog.info? 80).map (fun i => (i.size, i.bytes, i.zero.isSome)) = some (64, 64, true) := by kernel_rfl

set_option maxRecDepth 100000 in
set_option maxHeartbeats 8000000 in
theorem zz6_ok (fb fo : Nat) (fa : Option Addr) (fn fc : Nat) (F : List UInt8) (w : World) (hs : Sl w fb fo fa fn fc F) (hm : fn ≤ 140737488355328) (hok : OkF F) :
    Calls Ybaf.prog 6 #[.slice fa fn fc] w fun e w' => ∃ sb gb, e = .returned (.tuple #[.slice (cut fa 4 fc) (klen F) (fc - 4), .slice (some ⟨sb, 0, none⟩) (cnt F) (cnt F), .slice (some ⟨gb, 0, none⟩) (cnt F) (cnt F), .bool true]) ∧
      Hid (Fr [] w w' ∧ w.heap.size ≤ sb ∧ w.heap.size ≤ gb ∧ sb < w'.heap.size ∧ gb < w'.heap.size ∧ ∃ z1 z2 : Nat → Value, Blk w' sb (Pre (cnt F) (cnt F) (zzF F) z1) 3 ∧ Blk w' gb (Pre (cnt F * 64) (cnt F * 64) (zzG F) z2) 80) := by
  have hl := hs.len
  obtain ⟨h4, h5, h6, h7, h8⟩ := hok
  rw [hl] at h4 h5 h8
  have t0 : decide ((fn : Int) < 4) = false := by simp; omega
  have c0 := hs.bt 0 (by omega)
  have c1 := hs.bt 1 (by omega)
  have c2 := hs.bt 2 (by omega)
  have c3 := hs.bt 3 (by omega)
  have l0 := bt_lt F 0
  have l1 := bt_lt F 1
  have l2 := bt_lt F 2
  have l3 := bt_lt F 3
  have hfa := hs.addr (by omega)
  obtain ⟨k, hk⟩ : ∃ k, k = klen F := ⟨_, rfl⟩
  subst hfa
  rw [Nat.add_zero] at c0
  have o1 := or64 24 (((bt F 0).toNat : Int) * 16777216) (((bt F 1).toNat : Int) * 65536) (by omega) (by omega) (by omega) (by omega) (by omega) (by omega)
  have o2 := or64 16 (((bt F 0).toNat : Int) * 16777216 + ((bt F 1).toNat : Int) * 65536) (((bt F 2).toNat : Int) * 256) (by omega) (by omega) (by omega) (by omega) (by omega) (by omega)
  have o3 : bits .or .u64 (((bt F 0).toNat : Int) * 16777216 + ((bt F 1).toNat : Int) * 65536 + ((bt F 2).toNat : Int) * 256) (((bt F 3).toNat : Int)) = (k : Int) := by
    rw [or64 8 _ _ (by omega) (by omega) (by omega) (by omega) (by omega) (by omega), hk]
    unfold klen be32
    omega
  have hsg : Hid (∀ i, sgn F i = be16 (bt F (6 + k + 66 * i)) (bt F (6 + k + 66 * i + 1))) := fun i => by unfold sgn; rw [← hk]
  have hsb : Hid (∀ i j, sgb F i j = bt F (6 + k + 66 * i + 2 + j)) := fun i j => by unfold sgb; rw [← hk]
  obtain ⟨c, hc⟩ : ∃ c, c = cnt F := ⟨_, rfl⟩
  have hcl : c < 65536 := hc ▸ cnt_lt F
  have o4 : bits .or .i64 (((bt F (4 + k)).toNat : Int) * 256) (((bt F (5 + k)).toNat : Int)) = (c : Int) := by
    rw [or16i, hc]
    unfold cnt
    rw [← hk]
  rw [← hk] at h5 h6 h7 h8
  rw [← hc] at h8
  rw [← hk, ← hc]
  have t1 : decide (((fn : Int) - 4) < (k : Int) + 2) = false := by simp; omega
  have t2 : ((k : Int) == 0) = false := by simp; omega
  have t3 : decide ((65536 : Int) < (k : Int)) = false := by simp; omega
  have t4 : ¬ k = 0 := by omega
  have c4 := hs.bt (4 + k) (by omega)
  have c5 := hs.bt (5 + k) (by omega)
  have l4 := bt_lt F (4 + k)
  have l5 := bt_lt F (5 + k)
  have hfc := hs.le
  have t5 : (((fn - (6 + k) : Nat) : Int) != (c : Int) * 66) = false := by simp; omega
  have hsub : ∀ q, (Instr.slice 23 (.slice (some ⟨fb, fo, none⟩) fn fc) (some (.int .i64 4)) (some (.int .i64 (4 + (k : Int)))) none).run Ybaf.prog q = .ok (.slice (cut (some ⟨fb, fo, none⟩) 4 fc) k (fc - 4)) q := fun q => run_sub _ _ fn fc 4 k (by omega)
  have htl : ∀ q, (Instr.slice 23 (.slice (some ⟨fb, fo, none⟩) fn fc) (some (.int .i64 (6 + (k : Int)))) none none).run Ybaf.prog q = .ok (.slice (cut (some ⟨fb, fo, none⟩) (6 + k) fc) (fn - (6 + k)) (fc - (6 + k))) q := fun q => run_tail _ _ fn fc (6 + k) (by omega)
  obtain ⟨X1, z1, hm1, hb1⟩ := mkAny 64 3 1 8 Ybaf.underlying64 inf3 c (by omega) (by omega)
  obtain ⟨X2, z2, hm2, hb2⟩ := mkAny 65 80 64 64 Ybaf.underlying65 inf80 c (by omega) (by omega)
  obtain ⟨ba, hba⟩ : ∃ ba, ba = cut (some ⟨fb, fo, none⟩) (6 + k) fc := ⟨_, rfl⟩
  rw [← hba] at htl
  have hbs : 0 < c → ba = some ⟨fb, fo + (6 + k), none⟩ := fun h0 => by
    rw [hba]; unfold cut; rw [if_neg (by omega)]; simp [Addr.add_mid']
  clear hk hc hba
  have hzg : Hid (∀ i j, j < 64 → zzG F (i * 64 + j) = .int .u8 (sgb F i j).toNat) := fun i j hj => by
    unfold zzG
    rw [show (i * 64 + j) / 64 = i by omega, show (i * 64 + j) % 64 = j by omega]
  go_enter Ybaf.func6, Ybaf.ntmps6
  go_wp2
  go_quiet (fail)
  go_wp2
  go_quiet (fail)
  go_wp2
  refine at_world (p := fun w2 => Code.wp _ _ _ _ w2) (F := fun w2 => Fr [] w w2 ∧ w2.heap.size = w.heap.size + 2 ∧ Blk w2 w.heap.size (Pre c 0 (zzF F) z1) 3 ∧ Blk w2 (w.heap.size + 1) (Pre (c * 64) 0 (zzG F) z2) 80) ?_ ?_
  · have e1 := fun v => hb1 v (zzF F)
    have e2 : ∀ v : World, Blk ((v.alloc X1).alloc X2) (v.heap.size + 1) (Pre (c * 64) 0 (zzG F) z2) 80 := fun v => by simpa using hb2 (v.alloc X1) (zzG F)
    simp only [Nat.mul_one] at e1
    refine ⟨((((Fr.refl _ _).drewN _).alloc _).alloc _), by simp, Blk.alloc (e1 _) _, ?_⟩
    exact e2 _
  intro W ⟨hf, hsz, hB1, hB2⟩
  have hsW := hs.fr hf (by simp)
  have hfb : 0 < fn → fb < w.heap.size := fun _ => World.block_lt_of_cell? w _ c0
  obtain ⟨sb, hsb'⟩ : ∃ sb, sb = w.heap.size := ⟨_, rfl⟩
  rw [← hsb'] at hsz hB1 hB2 hfb ⊢
  have HS : Hid (sb = w.heap.size) := hsb'
  clear hsb'
  clear c0 c1 c2 c3 c4 c5 o1 o2 o3 o4 l0 l1 l2 l3 l4 l5 hm1 hm2 hb1 hb2 hsub htl hs
  go_loopw [13] (fun vi wr => ∃ i : Nat, vi = .int .i64 i ∧ i ≤ c ∧ Fr [sb, sb + 1] W wr ∧ Blk wr sb (Pre c i (zzF F) z1) 3 ∧ Blk wr (sb + 1) (Pre (c * 64) (i * 64) (zzG F) z2) 80)
    (fun vi _ => c - (intOf vi).toNat)
  case atStart => exact ⟨0, rfl, Nat.zero_le _, Fr.refl _ _, hB1, by simpa using hB2⟩
  case round =>
    obtain ⟨i, rfl, hic, hFr, hR1, hR2⟩ := hrel
    have hsr := hsW.fr hFr (by simp; omega)
    by_cases hi : i < c
    · have hba := hbs (by omega)
      subst hba
      have d0 := hsr.bt (6 + k + 66 * i) (by omega)
      have d1 := hsr.bt (6 + k + 66 * i + 1) (by omega)
      have m0 := bt_lt F (6 + k + 66 * i)
      have m1 := bt_lt F (6 + k + 66 * i + 1)
      have o5 := or16i (bt F (6 + k + 66 * i)) (bt F (6 + k + 66 * i + 1))
      rw [← hsg i] at o5
      have y1 := hR1.pre hi
      rw [if_neg (by omega)] at y1
      have y2 := hR1.frozen i
      have b4 : (0 : Int) ≤ (i : Int) := by omega
      have hne : ¬ fb = sb := by omega
      have hne' : ¬ sb = fb := by omega
      have r0 : IntKind.i64.wrap ((bt F (6 + k + 66 * i)).toNat : Int) = ((bt F (6 + k + 66 * i)).toNat : Int) := by rw [IntKind.wrap_i64]; omega
      have r1 : IntKind.i64.wrap ((bt F (6 + k + 66 * i + 1)).toNat : Int) = ((bt F (6 + k + 66 * i + 1)).toNat : Int) := by rw [IntKind.wrap_i64]; omega
      have r2 : IntKind.i64.wrap (((bt F (6 + k + 66 * i)).toNat : Int) * 256) = ((bt F (6 + k + 66 * i)).toNat : Int) * 256 := by rw [IntKind.wrap_i64]; omega
      have b5 : (i : Int) < (c : Int) := by omega
      have b0 : (0 : Int) ≤ 66 * (i : Int) := by omega
      have b1 : 66 * (i : Int) < (c : Int) * 66 := by omega
      have b2 : (0 : Int) ≤ 66 * (i : Int) + 1 := by omega
      have b3 : 66 * (i : Int) + 1 < (c : Int) * 66 := by omega
      have n0 : IntKind.i64.wrap (66 * (i : Int)) = 66 * (i : Int) := by rw [IntKind.wrap_i64]; omega
      have n1 : IntKind.i64.wrap (66 * (i : Int) + 1) = 66 * (i : Int) + 1 := by rw [IntKind.wrap_i64]; omega
      have n2 : (66 * (i : Int)).toNat = 66 * i := by omega
      have n3 : (66 * (i : Int) + 1).toNat = 66 * i + 1 := by omega
      rw [show fo + (6 + k + 66 * i) = fo + (6 + k) + 66 * i by omega] at d0
      rw [show fo + (6 + k + 66 * i + 1) = fo + (6 + k) + (66 * i + 1) by omega] at d1
      go_wp2
      go_region_held3 (fun w' => w'.cell? ⟨fb, fo + (6 + k) + 66 * i, none⟩ = some (.int .u8 (bt F (6 + k + 66 * i)).toNat) ∧ w'.cell? ⟨fb, fo + (6 + k) + (66 * i + 1), none⟩ = some (.int .u8 (bt F (6 + k + 66 * i + 1)).toNat)) (first | go_keep | (simp [*, go_sem]; done)) (fail)
      refine at_world (p := fun w2 => Exit.then _ _ Exit.normal _ w2) (F := fun w2 => Fr [sb, sb + 1] W w2 ∧ Blk w2 sb (Pre c (i + 1) (zzF F) z1) 3 ∧ Blk w2 (sb + 1) (Pre (c * 64) (i * 64) (zzG F) z2) 80) ?_ ?_
      · exact ⟨(hFr.setCell (by simp) _).drew, (hR1.step).drew, (hR2.setCell_ne (by simp) _).drew⟩
      intro w2 ⟨hF2, hQ1, hQ2⟩
      clear d0 d1 o5 y1 y2 hR1 hR2 hFr hsr m0 m1 r0 r1 r2
      go_wp2
      go_loopw [14] (fun vj wr2 => ∃ j : Nat, vj = .int .i64 j ∧ j ≤ 64 ∧ Fr [sb, sb + 1] W wr2 ∧ Blk wr2 sb (Pre c (i + 1) (zzF F) z1) 3 ∧ Blk wr2 (sb + 1) (Pre (c * 64) (i * 64 + j) (zzG F) z2) 80)
        (fun vj _ => 64 - (intOf vj).toNat)
      case atStart => exact ⟨0, rfl, Nat.zero_le _, hF2, hQ1, by simpa using hQ2⟩
      case round =>
        clear hF2 hQ1 hQ2
        obtain ⟨j, rfl, hj, hFr, hR1, hR2⟩ := hrel
        have hsr := hsW.fr hFr (by simp; omega)
        by_cases hj64 : j < 64
        · have d0 := hsr.bt (6 + k + 66 * i + 2 + j) (by omega)
          have o5 : Hid (zzG F (i * 64 + j) = .int .u8 (bt F (6 + k + 66 * i + 2 + j)).toNat) := by
            show _ = _
            rw [hzg i j hj64, hsb i j]
          have y1 := hR2.pre (m := i * 64 + j) (by omega)
          rw [if_neg (by omega)] at y1
          have y2 := hR2.frozen (i * 64 + j)
          have hne : ¬ fb = sb + 1 := by omega
          have hne' : ¬ sb + 1 = fb := by omega
          have g1 : (0 : Int) ≤ 66 * (i : Int) + 2 + (j : Int) := by omega
          have g2 : 66 * (i : Int) + 2 + (j : Int) < (c : Int) * 66 := by omega
          have g3 : IntKind.i64.wrap (66 * (i : Int) + 2) = 66 * (i : Int) + 2 := by rw [IntKind.wrap_i64]; omega
          have g4 : IntKind.i64.wrap (66 * (i : Int) + 2 + (j : Int)) = 66 * (i : Int) + 2 + (j : Int) := by rw [IntKind.wrap_i64]; omega
          have g5 : (66 * (i : Int) + 2 + (j : Int)).toNat = 66 * i + 2 + j := by omega
          have g6 : (0 : Int) ≤ (j : Int) := by omega
          have g7 : (j : Int) < 64 := by omega
          rw [show fo + (6 + k + 66 * i + 2 + j) = fo + (6 + k) + (66 * i + 2 + j) by omega] at d0
          go_wp2
          go_region_held3 (fun w' => w'.cell? ⟨fb, fo + (6 + k) + (66 * i + 2 + j), none⟩ = some (.int .u8 (bt F (6 + k + 66 * i + 2 + j)).toNat)) (first | go_keep | (simp [*, go_sem]; done)) (fail)
          go_wp2
          go_roundw
          case rel =>
            refine ⟨j + 1, by simp, by omega, (hFr.setCell (by simp) _).drew, (hR1.setCell_ne (by simp) _).drew, ?_⟩
            have hst := hR2.step
            rw [show zzG F (i * 64 + j) = _ from o5] at hst
            exact hst.drew
          case measure => simp [intOf]; omega
        · obtain rfl : j = 64 := by omega
          go_wp2
          go_roundw
          case rel =>
            refine ⟨i + 1, by simp, by omega, hFr, hR1, ?_⟩
            rw [show (i + 1) * 64 = i * 64 + 64 by omega]
            exact hR2
          case measure => simp [intOf]; omega
    · obtain rfl : i = c := by omega
      go_wp2
      have hs0 : sb = w.heap.size := HS
      have hfz : Fr [] w wr := Fr.drop ((Fr.mono hf (by simp)).trans hFr) (by simp; omega)
      exact bodyPost_ret (v := .tuple #[.slice (cut (some ⟨fb, fo, none⟩) 4 fc) k (fc - 4), .slice (some ⟨sb, 0, none⟩) i i, .slice (some ⟨sb + 1, 0, none⟩) i i, .bool true]) (by simp [results, Ybaf.results6, go_sem]) rfl
        ⟨sb, sb + 1, rfl, hfz, by omega, by omega, by have := hFr.size; omega, by have := hFr.size; omega, z1, z2, hR1, hR2⟩
end Go.Proofs.YbulkdnmcFmt
