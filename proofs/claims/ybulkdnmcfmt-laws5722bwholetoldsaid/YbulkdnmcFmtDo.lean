/- DecodeChain (17), the accepting half. -/
import Derived.Test.YbulkdnmcFmtDc
namespace Go.Proofs.YbulkdnmcFmt
open Go.RowKit Go.Extern.Stop Go.Stop Go.Extern
set_option linter.unusedSimpArgs false
set_option linter.unusedVariables false

theorem inf82 : (Ybaf.prog.info? 82).map (fun i => (i.size, i.bytes, i.zero.isSome)) = some (65, 72, true) := by kernel_rfl
/-- The cells of the signatures. -/
def dcG (F : List UInt8) (m : Nat) : Value := if m % 65 = 0 then .int .i64 (sgn F (m / 65)) else .int .u8 (sgb F (m / 65) (m % 65 - 1)).toNat

set_option maxRecDepth 100000 in
set_option maxHeartbeats 8000000 in
theorem dc17_ok (fb fo : Nat) (fa : Option Addr) (fn fc : Nat) (F : List UInt8) (w : World) (hs : Sl w fb fo fa fn fc F) (hm : fn ≤ 140737488355328) (hok : OkF F) :
    Calls Ybaf.prog 17 #[.slice fa fn fc] w fun e w' => ∃ cb, e = .returned (.tuple #[.pointer (some ⟨cb, 0, none⟩), .nilIface]) ∧
      Hid (Fr [] w w' ∧ ∃ gb, w.heap.size ≤ cb ∧ w.heap.size ≤ gb ∧ cb ≠ gb ∧ gb < w'.heap.size ∧ Blk w' cb [.slice (some ⟨fb, fo + 4, none⟩) (klen F) (klen F), .slice (some ⟨gb, 0, none⟩) (cnt F) (cnt F)] 79 ∧ ∃ z : Nat → Value, Blk w' gb (Pre (cnt F * 65) (cnt F * 65) (dcG F) z) 82) := by
  have hl := hs.len
  obtain ⟨h4, h5, h6, h7, h8⟩ := hok
  rw [hl] at h4 h5 h8
  have t0 : decide ((fn : Int) < 4) = false := by simp; omega
  have hfa := hs.addr (by omega)
  subst hfa
  have c0 := hs.bt 0 (by omega)
  have c1 := hs.bt 1 (by omega)
  have c2 := hs.bt 2 (by omega)
  have c3 := hs.bt 3 (by omega)
  rw [Nat.add_zero] at c0
  have hU := uint32_20 fb fo fn fc _ _ _ _ w (by omega) c0 c1 c2 c3
  rw [show be32 (bt F 0) (bt F 1) (bt F 2) (bt F 3) = klen F from rfl] at hU
  obtain ⟨k, hk⟩ : ∃ k, k = klen F := ⟨_, rfl⟩
  obtain ⟨c, hc⟩ : ∃ c, c = cnt F := ⟨_, rfl⟩
  have hcl : c < 65536 := hc ▸ cnt_lt F
  rw [← hk] at hU h5 h6 h7 h8
  rw [← hc] at h8
  rw [← hk, ← hc]
  have hsg : Hid (∀ i, sgn F i = be16 (bt F (6 + k + 66 * i)) (bt F (6 + k + 66 * i + 1))) := fun i => by unfold sgn; rw [← hk]
  have hsb : Hid (∀ i j, sgb F i j = bt F (6 + k + 66 * i + 2 + j)) := fun i j => by unfold sgb; rw [← hk]
  have HC : Hid (be16 (bt F (4 + k)) (bt F (4 + k + 1)) = c) := by
    show _ = _
    rw [hc]; unfold cnt; rw [← hk, show 5 + k = 4 + k + 1 by omega]
  clear hk hc c0 c1 c2 c3
  have hfc := hs.le
  have t1 : decide (((fn - 4 : Nat) : Int) < (k : Int) + 2) = false := by simp; omega
  have hcv : IntKind.u64.wrap (((fn - 4 : Nat) : Int)) = ((fn - 4 : Nat) : Int) := by rw [IntKind.wrap_u64]; omega
  have ht4 : ∀ q, (Instr.slice 23 (.slice (some ⟨fb, fo, none⟩) fn fc) (some (.int .i64 4)) none none).run Ybaf.prog q = .ok (.slice (some ⟨fb, fo + 4, none⟩) (fn - 4) (fc - 4)) q := fun q => by
    have h := run_tailK .i64 q (some ⟨fb, fo, none⟩) fn fc 4 (by omega)
    rw [show cut (some ⟨fb, fo, none⟩) 4 fc = some ⟨fb, fo + 4, none⟩ by unfold cut; rw [if_neg (by omega)]; simp [Addr.add_mid']] at h
    exact h
  have hhd : ∀ q, (Instr.slice 23 (.slice (some ⟨fb, fo + 4, none⟩) (fn - 4) (fc - 4)) none (some (.int .u32 (k : Int))) (some (.int .u32 (k : Int)))).run Ybaf.prog q = .ok (.slice (some ⟨fb, fo + 4, none⟩) k k) q := fun q => by
    have h := run_headK .u32 q (some ⟨fb, fo + 4, none⟩) (fn - 4) (fc - 4) k (by omega)
    rw [show cut (some ⟨fb, fo + 4, none⟩) 0 k = some ⟨fb, fo + 4, none⟩ by unfold cut; rw [if_neg (by omega)]; simp [Addr.add_mid']] at h
    exact h
  have htk : ∀ q, (Instr.slice 23 (.slice (some ⟨fb, fo + 4, none⟩) (fn - 4) (fc - 4)) (some (.int .u32 (k : Int))) none none).run Ybaf.prog q = .ok (.slice (some ⟨fb, fo + 4 + k, none⟩) (fn - 4 - k) (fc - 4 - k)) q := fun q => by
    have h := run_tailK .u32 q (some ⟨fb, fo + 4, none⟩) (fn - 4) (fc - 4) k (by omega)
    rw [show cut (some ⟨fb, fo + 4, none⟩) k (fc - 4) = some ⟨fb, fo + 4 + k, none⟩ by unfold cut; rw [if_neg (by omega)]; simp [Addr.add_mid']] at h
    exact h
  obtain ⟨qa, hqa⟩ : ∃ qa, qa = cut (some ⟨fb, fo + 4 + k, none⟩) 2 (fc - 4 - k) := ⟨_, rfl⟩
  have hqs : Hid (0 < c → qa = some ⟨fb, fo + (6 + k), none⟩) := fun h0 => by
    rw [hqa]; unfold cut; rw [if_neg (by omega)]; simp [Addr.add_mid', show fo + 4 + k + 2 = fo + (6 + k) by omega]
  have ht2 : ∀ q, (Instr.slice 23 (.slice (some ⟨fb, fo + 4 + k, none⟩) (fn - 4 - k) (fc - 4 - k)) (some (.int .i64 2)) none none).run Ybaf.prog q = .ok (.slice qa (c * 66) (fc - 4 - k - 2)) q := fun q => by
    have h := run_tailK .i64 q (some ⟨fb, fo + 4 + k, none⟩) (fn - 4 - k) (fc - 4 - k) 2 (by omega)
    rw [← hqa, show fn - 4 - k - 2 = c * 66 by omega] at h
    exact h
  have HB : Hid (2 ≤ fn - 4 - k) := by show _ ≤ _; omega
  have hck := fun v => checkOk (some ⟨fb, fo + 4, none⟩) k k v (by omega) (by omega)
  obtain ⟨X2, z, hmk, hbk⟩ := mkAny 77 82 65 72 Ybaf.underlying77 inf82 c (by omega) (by omega)
  clear hqa
  go_enter Ybaf.func17, Ybaf.ntmps17
  go_wp2_with fail
  refine hU.mono ?_
  rintro e w1 ⟨rfl, hF1⟩
  obtain ⟨X, hX⟩ : ∃ X, X = Obj.cells #[.slice (some ⟨fb, fo + 4, none⟩) k k, .slice none 0 0] 79 := ⟨_, rfl⟩
  have hF0 : Fr [] w (w1.alloc X) := hF1.alloc _
  have hsx := hs.fr hF0 (by simp)
  have c4 := hsx.bt (4 + k) (by omega)
  have c5 := hsx.bt (4 + k + 1) (by omega)
  rw [show fo + (4 + k) = fo + 4 + k by omega] at c4
  rw [show fo + (4 + k + 1) = fo + 4 + k + 1 by omega] at c5
  have hU2 := uint16_22 fb (fo + 4 + k) (fn - 4 - k) (fc - 4 - k) _ _ (w1.alloc X) HB c4 c5
  rw [show be16 (bt F (4 + k)) (bt F (4 + k + 1)) = c from HC] at hU2
  have hcb : Blk (w1.alloc X) w1.heap.size [.slice (some ⟨fb, fo + 4, none⟩) k k, .slice none 0 0] 79 := by rw [hX]; exact Blk.new _ _ _
  rw [hX] at hU2
  clear hU c4 c5 hsx
  go_wp2_with fail
  refine (hck _).mono ?_
  rintro e w2 ⟨rfl, rfl⟩
  go_wp2_with fail
  refine hU2.mono ?_
  rintro e w2 ⟨rfl, hF2⟩
  rw [← hX] at hF2
  have hF3 := hF0.trans hF2
  have hcb2 := hF2.blk hcb (by simp)
  obtain ⟨cb, hcbe⟩ : ∃ cb, cb = w1.heap.size := ⟨_, rfl⟩
  rw [← hcbe] at hcb2 ⊢
  have hcw : Hid (w.heap.size ≤ cb) := by show _ ≤ _; rw [hcbe]; exact hF1.size
  clear hU2 hX hck hcb hF0 hF1 hF2 hcbe
  have hcx := hcb2.alloc X2
  have hgx := hbk w2 (dcG F)
  have z1 := hcx.cell 1 rfl
  have y1 := hcx.frozen 1
  have hcy := (hcb2.setCell 1 (.slice (some ⟨w2.heap.size, 0, none⟩) c c)).alloc X2
  have v1 := hcy.cell 1 rfl
  have x1 := hcb2.cell 1 rfl
  have x2 := hcb2.frozen 1
  have t6 : ((c : Int) * 66 != (c : Int) * 66) = false := by simp
  have hcb3 := hcb2.lt
  go_wp2
  refine at_world (p := fun v => Code.wp _ _ _ _ v) (F := fun v => Fr [] w v ∧ w2.heap.size < v.heap.size ∧ Blk v cb [.slice (some ⟨fb, fo + 4, none⟩) k k, .slice (some ⟨w2.heap.size, 0, none⟩) c c] 79 ∧ Blk v w2.heap.size (Pre (c * 65) 0 (dcG F) z) 82) ?_ ?_
  · refine ⟨Fr.drop (((Fr.mono hF3 (by simp) : Fr [cb] w w2).setCell (by simp) _).alloc _) (by simpa using hcw.out), by simp, hcy, ?_⟩
    have h := hbk (w2.setCell ⟨cb, 1, none⟩ (.slice (some ⟨w2.heap.size, 0, none⟩) c c)) (dcG F)
    simpa using h
  intro W ⟨hf, hsz, hB1, hB2⟩
  have hgc : Hid (cb < w2.heap.size ∧ w.heap.size ≤ w2.heap.size) := ⟨hcb3, hF3.size⟩
  obtain ⟨gb, hgb⟩ : ∃ gb, gb = w2.heap.size := ⟨_, rfl⟩
  rw [← hgb] at hsz hB1 hB2 hgc ⊢
  have hsW := hs.fr hf (by simp)
  have hfw : fb < w.heap.size := by
    have := hs.bt 0 (by omega)
    exact World.block_lt_of_cell? w _ this
  clear hgb hcx hgx z1 y1 hcy v1 x1 x2 hcb2 hcb3 hF3 hs ht4 hhd htk ht2 hmk hbk
  go_loopw [5, 81] (fun vr vi wr => ∃ i : Nat, ∃ (ra : Option Addr) (cp : Nat), vi = .int .i64 i ∧ vr = .slice ra ((c - i) * 66) cp ∧ (c - i) * 66 ≤ cp ∧ (i < c → ra = some ⟨fb, fo + (6 + k) + 66 * i, none⟩) ∧ i ≤ c ∧ Fr [cb, gb] W wr ∧
      Blk wr cb [.slice (some ⟨fb, fo + 4, none⟩) k k, .slice (some ⟨gb, 0, none⟩) c c] 79 ∧ Blk wr gb (Pre (c * 65) (i * 65) (dcG F) z) 82)
    (fun _ vi _ => c - (intOf vi).toNat)
  case atStart => exact ⟨0, qa, fc - 4 - k - 2, rfl, rfl, by omega, fun h => by simpa using hqs.out h, Nat.zero_le _, Fr.refl _ _, hB1, by simpa using hB2⟩
  case round =>
    obtain ⟨i, ra, cp, rfl, rfl, hcp, hra, hic, hFr, hR1, hR2⟩ := hrel
    have hcg : cb < gb := hgc.out.1
    have hwg : w.heap.size ≤ gb := hgc.out.2
    have hwc : w.heap.size ≤ cb := hcw.out
    have hsr := hsW.fr hFr (by simp; omega)
    by_cases hi : i < c
    · have hra' := hra hi
      subst hra'
      have d0 := hsr.bt (6 + k + 66 * i) (by omega)
      have d1 := hsr.bt (6 + k + 66 * i + 1) (by omega)
      rw [show fo + (6 + k + 66 * i) = fo + (6 + k) + 66 * i by omega] at d0
      rw [show fo + (6 + k + 66 * i + 1) = fo + (6 + k) + 66 * i + 1 by omega] at d1
      have hU := fun q => uint16_22 fb (fo + (6 + k) + 66 * i) ((c - i) * 66) cp _ _ (wr.drewN q) (by omega) d0 d1
      rw [← hsg.out i] at hU
      have z1 := hR1.cell 1 rfl
      have b4 : (0 : Int) ≤ (i : Int) := by omega
      have b5 : (i : Int) < (c : Int) := by omega
      have hsl := sgn_lt F i
      have r0 : IntKind.i64.wrap ((sgn F i : Nat) : Int) = ((sgn F i : Nat) : Int) := by rw [IntKind.wrap_i64]; omega
      go_wp2
      go_region_held3 (fun w' => w'.cell? ⟨cb, 1, none⟩ = some (.slice (some ⟨gb, 0, none⟩) c c)) (first | go_keep | (simp [*, go_sem]; done))
        (first | (go_at_call 22; refine (hU _).mono ?_; rintro e w3 ⟨rfl, hF3⟩; have hR13 := hF3.blk (hR1.drewN _) (by simp); have hR23 := hF3.blk (hR2.drewN _) (by simp); have z3 := hR13.cell 1 rfl; have y3 := hR23.pre (m := i * 65) (by omega); rw [if_neg (by omega)] at y3; have y4 := hR23.frozen (i * 65)))
      refine at_world (p := fun v => Exit.then _ _ Exit.normal _ v) (F := fun v => Fr [cb, gb] W v ∧ Blk v cb [.slice (some ⟨fb, fo + 4, none⟩) k k, .slice (some ⟨gb, 0, none⟩) c c] 79 ∧ Blk v gb (Pre (c * 65) (i * 65 + 1) (dcG F) z) 82) ?_ ?_
      · refine ⟨((Fr.mono (hFr.trans ((Fr.refl _ _).drewN _)) (by simp)).trans (Fr.mono hF3 (by simp))).setCell (by simp) _, hR13.setCell_ne (by simp; omega) _, ?_⟩
        have h := hR23.step
        rw [show dcG F (i * 65) = .int .i64 (sgn F i) by unfold dcG; rw [show i * 65 % 65 = 0 by omega, show i * 65 / 65 = i by omega]; simp] at h
        exact h
      intro w4 ⟨hF4, hQ1, hQ2⟩
      clear hU hF3 hR13 hR23 z3 y3 y4 d0 d1 hR1 hR2 hFr z1
      have hs4 := hsW.fr hF4 (by simp; omega)
      have z1 := hQ1.cell 1 rfl
      have hsl2 : ∀ q, (Instr.slice 23 (.slice (some ⟨fb, fo + (6 + k) + 66 * i, none⟩) ((c - i) * 66) cp) (some (.int .i64 2)) (some (.int .i64 66)) none).run Ybaf.prog q = .ok (.slice (some ⟨fb, fo + (6 + k) + 66 * i + 2, none⟩) 64 (cp - 2)) q := fun q => by
        have h := run_sub q (some ⟨fb, fo + (6 + k) + 66 * i, none⟩) ((c - i) * 66) cp 2 64 (by omega)
        rw [show cut (some ⟨fb, fo + (6 + k) + 66 * i, none⟩) 2 cp = some ⟨fb, fo + (6 + k) + 66 * i + 2, none⟩ by unfold cut; rw [if_neg (by omega)]; simp [Addr.add_mid']] at h
        exact h
      obtain ⟨ra2, hra2⟩ : ∃ ra2, ra2 = cut (some ⟨fb, fo + (6 + k) + 66 * i, none⟩) 66 cp := ⟨_, rfl⟩
      have hra3 : Hid (i + 1 < c → ra2 = some ⟨fb, fo + (6 + k) + 66 * (i + 1), none⟩) := fun h0 => by
        rw [hra2]; unfold cut; rw [if_neg (by omega)]; simp [Addr.add_mid', show fo + (6 + k) + 66 * i + 66 = fo + (6 + k) + 66 * (i + 1) by omega]
      have hsl3 : ∀ q, (Instr.slice 23 (.slice (some ⟨fb, fo + (6 + k) + 66 * i, none⟩) ((c - i) * 66) cp) (some (.int .i64 66)) none none).run Ybaf.prog q = .ok (.slice ra2 ((c - (i + 1)) * 66) (cp - 66)) q := fun q => by
        have h := run_tailK .i64 q (some ⟨fb, fo + (6 + k) + 66 * i, none⟩) ((c - i) * 66) cp 66 (by omega)
        rw [← hra2, show (c - i) * 66 - 66 = (c - (i + 1)) * 66 by omega] at h
        exact h
      clear hra2
      obtain ⟨w5, hw5⟩ : ∃ w5, w5 = w4.setRow gb (Pre (c * 65) (i * 65 + 1 + 64) (dcG F) z).toArray := ⟨_, rfl⟩
      have hcp2 : ∀ n, Sem.run Ybaf.prog (Builtin.copy_ #[23, 23] 3 #[.slice (some ⟨gb, i * 65 + 1, none⟩) 64 64, .slice (some ⟨fb, fo + (6 + k) + 66 * i + 2, none⟩) 64 (cp - 2)]) (w4.drewN n) = .ok (.int .i64 64) (w5.drewN n) := fun n => by
        have h := run_copy_row (P := Ybaf.prog) (w4.drewN n) 23 23 3 5 gb (i * 65 + 1) 64 64 ⟨fb, fo + (6 + k) + 66 * i + 2, none⟩ 64 (cp - 2) (Pre (c * 65) (i * 65 + 1) (dcG F) z).toArray 82 ((List.range 64).map fun j => dcG F (i * 65 + 1 + j)) Ybaf.underlying23 (by kernel_rfl) hQ2 (by simp)
          (fun j v hv => by
            have hj : j < 64 := by have := (List.getElem?_eq_some_iff.1 hv).1; simpa using this
            have hc := (hs4.drewN n).bt (6 + k + 66 * i + 2 + j) (by omega)
            rw [Addr.add_mid', show fo + (6 + k) + 66 * i + 2 + j = fo + (6 + k + 66 * i + 2 + j) by omega, hc, ← hsb.out i j]
            rw [List.getElem?_map, List.getElem?_range hj, Option.map_some] at hv
            rw [← hv]
            unfold dcG
            rw [show (i * 65 + 1 + j) % 65 = 1 + j by omega, show (i * 65 + 1 + j) / 65 = i by omega]
            simp)
          (by simp [Pre.length]; omega) (fun v hv => by
            simp only [List.mem_map, List.mem_range] at hv
            obtain ⟨j, _, rfl⟩ := hv
            unfold dcG; split <;> rfl)
        rw [h]
        have hp := Pre.row (c * 65) (i * 65 + 1) 64 (dcG F) z (by omega)
        rw [hw5]
        simp only [List.length_map, List.length_range]
        rw [hp]
        rfl
      have hcp1 : Sem.run Ybaf.prog (Builtin.copy_ #[23, 23] 3 #[.slice (some ⟨gb, i * 65 + 1, none⟩) 64 64, .slice (some ⟨fb, fo + (6 + k) + 66 * i + 2, none⟩) 64 (cp - 2)]) w4.drew = .ok (.int .i64 64) w5.drew := hcp2 1
      have hG1 : Fr [cb, gb] W w5 := hw5 ▸ hF4.setRow (by simp) _
      have hG2 : Blk w5 cb [.slice (some ⟨fb, fo + 4, none⟩) k k, .slice (some ⟨gb, 0, none⟩) c c] 79 := hw5 ▸ hQ1.setRow_ne (by omega) _
      have hG3 : Blk w5 gb (Pre (c * 65) ((i + 1) * 65) (dcG F) z) 82 := by
        rw [show (i + 1) * 65 = i * 65 + 1 + 64 by omega]
        exact hw5 ▸ hQ2.setRow _
      have z5 := hG2.cell 1 rfl
      clear hw5 hs4 hQ2
      go_wp2
      go_region_held3 (fun w' => w'.cell? ⟨cb, 1, none⟩ = some (.slice (some ⟨gb, 0, none⟩) c c)) (first | go_keep | (simp [*, go_sem]; done)) (fail)
      go_wp2
      go_roundw
      case rel =>
        exact ⟨i + 1, ra2, cp - 66, by simp, rfl, by omega, hra3.out, by omega, hG1.drew, hG2.drew, hG3.drew⟩
      case measure => simp [intOf]; omega
    · obtain rfl : i = c := by omega
      go_wp2
      go_ret2
      have hfz : Fr [] w wr := Fr.drop ((Fr.mono hf (by simp)).trans hFr) (by simp; omega)
      exact ⟨cb, rfl, hfz, gb, hwc, hwg, by omega, by have := hFr.size; omega, hR1, z, hR2⟩
end Go.Proofs.YbulkdnmcFmt
