/- Node.signersConform (14). -/
import Derived.Test.YbulkdnmcFmtCf
import Derived.Deep.DeepCutAuto
namespace Go.Proofs.YbulkdnmcFmt
open Go.RowKit
set_option linter.unusedSimpArgs false
set_option linter.unusedVariables false

theorem agg82 (w : World) : (isAgg 82).run Ybaf.prog w = .ok true w := by kernel_rfl
theorem siz82 (w : World) : (sizeOf 82).run Ybaf.prog w = .ok 65 w := by kernel_rfl
theorem run_ld82 {w : World} {ad : Addr} {S : Array Value} (hr : (loadCellsFrom ad 0 65 #[]).run Ybaf.prog w = .ok S w) : (Instr.loadAt 82 (.pointer (some ad))).run Ybaf.prog w = .ok (.agg S) w := by
  simp only [Instr.loadAt, Instr.sureAddr, loadVar, loadCells, Sem.run_bind, Sem.run_pure, Result.andThen_ok, agg82, siz82, hr, if_true]
theorem wpList_load82 {w : World} {ops : Array Oper} {rest : List Oper} {o : Oper} {a : Act} {Q : Exit → Act → World → Prop} (hgd : o.guard = none) (x : Operand)
    (ho : o.op = .load 82 x) {ad : Addr} {S : Array Value} (hx : a.eval x = .pointer (some ad))
    (hr : (loadCellsFrom ad 0 65 #[]).run Ybaf.prog w = .ok S w) (h : wpList Ybaf.prog ops Q rest (a.put o.dst (.agg S)) w) : wpList Ybaf.prog ops Q (o :: rest) a w := by
  refine wpList_plain hgd fun K hK => ?_
  unfold Oper.wp execOp
  simp only [ho, hx, run_ld82 hr, Sem.run_bind, Sem.run_pure, Result.andThen_ok]
  exact hK _ _ h
theorem siz82' : (Ybaf.prog.info? 82).map (·.size) = some 65 := by kernel_rfl
theorem zer82 : ∃ V0 : Array Value, V0.size = 65 ∧ ∀ w, (zeroValue 82).run Ybaf.prog w = .ok (.agg V0) w := by
  obtain ⟨h1, h2⟩ := zero_of_info (P := Ybaf.prog) (t := 82) (v := (Ybaf.prog.info? 82).bind (·.zero) |>.getD undef) (n := 65) (by kernel_rfl)
  refine ⟨((Ybaf.prog.info? 82).bind (·.zero) |>.getD undef).cells, by kernel_rfl, fun w => ?_⟩
  rw [h1 w]
  have e : ((Ybaf.prog.info? 82).bind (·.zero) |>.getD undef) = .agg ((Ybaf.prog.info? 82).bind (·.zero) |>.getD undef).cells := by kernel_rfl
  rw [← e]

set_option maxRecDepth 100000 in
set_option maxHeartbeats 8000000 in
theorem conf14 (b cb gb N T s R : Nat) (md : Int) (F : List UInt8) (z : Nat → Value) (kp : Option Addr) (va : Value) (w : World) (hN : N < 1000) (hT : T < 1000) (hs : s < 1000) (hR : 0 < R) (hRR : R < 1000)
    (h2 : w.cell? ⟨b, 2, none⟩ = some (.slice kp N N)) (h3 : w.cell? ⟨b, 3, none⟩ = some (.int .i64 T)) (h4 : w.cell? ⟨b, 4, none⟩ = some (.int .i64 s)) (h5 : w.cell? ⟨b, 5, none⟩ = some (.int .i64 md))
    (hc : Blk w cb [va, .slice (some ⟨gb, 0, none⟩) (cnt F) (cnt F)] 79) (hg : Blk w gb (Pre (cnt F * 65) (cnt F * 65) (dcG F) z) 82) (hs0 : sgn F 0 = s) :
    Calls Ybaf.prog 14 #[.pointer (some ⟨b, 0, none⟩), .pointer (some ⟨cb, 0, none⟩), .int .i64 R] w fun e w' => ∃ r, e = .returned (.bool r) ∧ Hid (Fr [] w w' ∧ (r = true ↔ Conf F N T s md R)) := by
  obtain ⟨c, hcc⟩ : ∃ c, c = cnt F := ⟨_, rfl⟩
  have HC : Hid (c = cnt F) := hcc
  rw [← hcc] at hc hg
  have hcl : c < 65536 := hcc ▸ cnt_lt F
  have d1 := hc.cell 1 rfl
  by_cases hcr : c = R
  · subst hcr
    have g0 := hg.preOk (m := 0) (by omega) (by omega)
    have e0 := dcG_head F 0
    rw [Nat.zero_mul, hs0] at e0
    rw [e0] at g0
    obtain ⟨X, hmk, hbk⟩ := mkBool F N hN
    obtain ⟨V0, hV0, hzero⟩ := zer82
    have hb2 := World.block_lt_of_cell? w _ h2
    have d1x := fun n => ((hc.drewN n).alloc X).cell 1 rfl
    clear hcc e0
    go_enter Ybaf.func14, Ybaf.ntmps14
    go_wp2
    go_quiet (fail)
    go_wp2
    refine at_world (p := fun v => Code.wp _ _ _ _ v) (F := fun v => Fr [] w v ∧ w.heap.size < v.heap.size ∧ Blk v w.heap.size (SeenC F N 0) 4) ?_ ?_
    · exact ⟨((Fr.refl _ _).drewN _).alloc _, by simp, hbk _⟩
    intro W ⟨hf, hsz, hB⟩
    obtain ⟨sb, hsb⟩ : ∃ sb, sb = w.heap.size := ⟨_, rfl⟩
    rw [← hsb] at hsz hB ⊢
    have HS : Hid (sb = w.heap.size) := hsb
    have q3 := (hf.cell (p := ⟨b, 3, none⟩) hb2 (by simp)).trans h3
    have q4 := (hf.cell (p := ⟨b, 4, none⟩) hb2 (by simp)).trans h4
    have q5 := (hf.cell (p := ⟨b, 5, none⟩) hb2 (by simp)).trans h5
    have hgW := hf.blk hg (by simp)
    have hgw := hg.lt
    clear hsb d1 d1x g0 hmk hbk h2 h3 h4 h5 hc hg
    go_loopw [44] (fun vi wr => ∃ i : Nat, vi = .int .i64 i ∧ i ≤ c ∧ Fr [sb] W wr ∧ Blk wr sb (SeenC F N i) 4 ∧ Hid (∀ j, j < i → GoodS F N T s md j))
      (fun vi _ => c - (intOf vi).toNat)
    case atStart => exact ⟨0, rfl, Nat.zero_le _, Fr.refl _ _, hB, fun j hj => absurd hj (Nat.not_lt_zero _)⟩
    case round =>
      obtain ⟨i, rfl, hic, hFr, hR1, hgood⟩ := hrel
      have hsb : sb = w.heap.size := HS
      by_cases hi : i < c
      · have hgr := hFr.blk hgW (by simp; omega)
        have hld := load82 (p := 0) hgr hi
        have hsn := sgn_lt F i
        obtain ⟨S, hSd⟩ : ∃ S, S = (sigC F i).toArray := ⟨_, rfl⟩
        rw [← hSd] at hld
        have b0 : (0 : Int) ≤ (i : Int) := by omega
        have b1 : (i : Int) < (c : Int) := by omega
        have hst : (storeCells ⟨wr.heap.size, 0, none⟩ S.toList 0).run Ybaf.prog (wr.alloc (.cells V0 82)) = .ok () (wr.alloc (.cells S 82)) := run_storeCells_new wr 82 V0 S (by rw [hSd]; simp only [List.size_toArray, sigC_len]; exact siz82') (by rw [hSd, hV0]; simp [sigC_len]) (by rw [hSd]; exact sigC_all F i)
        have hnew : Blk (wr.alloc (.cells S 82)) wr.heap.size S.toList 82 := Blk.new _ _ _
        have hn0 : (wr.alloc (.cells S 82)).cell? ⟨wr.heap.size, 0, none⟩ = some (.int .i64 (sgn F i)) := hnew.cell 0 (by rw [hSd]; exact sigC_head F i)
        have hR2 := hR1.alloc (.cells S 82)
        have hF2 := hFr.alloc (.cells S 82)
        have hbx := hf.size
        have hbs : b ≠ sb := by omega
        have p3 := (hF2.cell (p := ⟨b, 3, none⟩) (show b < W.heap.size by omega) (by simp; omega)).trans q3
        have p4 := (hF2.cell (p := ⟨b, 4, none⟩) (show b < W.heap.size by omega) (by simp; omega)).trans q4
        have p5 := (hF2.cell (p := ⟨b, 5, none⟩) (show b < W.heap.size by omega) (by simp; omega)).trans q5
        have hSz : S.size = 65 := by rw [hSd]; simp [sigC_len]
        obtain ⟨o, ho⟩ : ∃ o, o = Obj.cells S 82 := ⟨_, rfl⟩
        rw [← ho] at hst hn0 hR2 hF2 p3 p4 p5
        clear hSd hsb hnew ho hgr hbx
        have hA := fun n => active18 b md T s (sgn F i) (by omega) (by omega) (by omega) ((wr.alloc o).drewN n) p3 p4 p5
        obtain ⟨x, hx⟩ : ∃ x, x = sgn F i := ⟨_, rfl⟩
        rw [← hx] at hn0 hA hsn
        have HX : Hid (x = sgn F i) := hx
        clear hx
        by_cases hxN : x < N
        · have u0 : decide ((N : Int) ≤ (x : Int)) = false := by simp; omega
          have u1 : (0 : Int) ≤ (x : Int) := by omega
          have u2 : (x : Int) < (N : Int) := by omega
          have k0 := hR2.cell x (SeenC.get F N i hxN)
          have k1 := hR2.frozen x
          cases hse : seenB F i x with
          | true =>
            rw [hse] at k0
            have hbad : Hid (¬ Conf F N T s md c) := fun h => by
              have h1 := (h.2 i (by rw [← HC.out]; exact hi)).2.1
              rw [← HX.out, hse] at h1
              cases h1
            clear hse hgood hA
            go_wp2_with (refine wpList_load82 rfl _ rfl rfl hld ?_)
            go_quiet (fail)
            go_wp2
            go_ret
            have hfz : Fr [] w (wr.alloc o) := Fr.drop ((Fr.mono hf (by simp)).trans hF2) (by have := HS.out; simp; omega)
            exact ⟨false, rfl, hfz.drewN _, by simpa using hbad.out⟩
          | false =>
            rw [hse] at k0
            have HE : Hid (seenB F i x = false) := hse
            clear hse
            cases hac : act md T s x with
            | false =>
              rw [hac] at hA
              have hbad : Hid (¬ Conf F N T s md c) := fun h => by
                have h1 := (h.2 i (by rw [← HC.out]; exact hi)).2.2
                rw [← HX.out, hac] at h1
                cases h1
              clear hac hgood
              go_wp2_with (refine wpList_load82 rfl _ rfl rfl hld ?_)
              go_quiet (first | (go_at_call 18; refine Calls.quiet_of_same (hA _)))
              go_wp2
              go_ret
              have hfz : Fr [] w (wr.alloc o) := Fr.drop ((Fr.mono hf (by simp)).trans hF2) (by have := HS.out; simp; omega)
              exact ⟨false, rfl, hfz.drewN _, by simpa using hbad.out⟩
            | true =>
              rw [hac] at hA
              have hgd : Hid (∀ j, j < i + 1 → GoodS F N T s md j) := fun j hj => by
                rcases Nat.lt_succ_iff_lt_or_eq.1 hj with h | h
                · exact hgood j h
                · subst h
                  refine ⟨by rw [← HX.out]; exact hxN, ?_, ?_⟩
                  · rw [← HX.out]; exact HE
                  · rw [← HX.out]; exact hac
              have hset : Hid ((SeenC F N i).set x (.bool true) = SeenC F N (i + 1)) := by
                show _ = _
                rw [HX.out]; exact SeenC.set F N i
              clear hac hgood
              go_wp2_with (refine wpList_load82 rfl _ rfl rfl hld ?_)
              go_quiet (first | (go_at_call 18; refine Calls.quiet_of_same (hA _)))
              go_wp2
              go_roundw
              case rel =>
                refine ⟨i + 1, by simp, by omega, (hF2.drewN _).setCell (by simp) _, ?_, hgd⟩
                have h := (hR2.drewN nq).setCell x (.bool true)
                rw [hset.out] at h
                exact h
              case measure => simp [intOf]; omega
        · have u0 : decide ((N : Int) ≤ (x : Int)) = true := by simp; omega
          have u4 : N ≤ x := by omega
          have u5 : decide (N ≤ x) = true := by simp; omega
          have hbad : Hid (¬ Conf F N T s md c) := fun h => by
            have h1 := (h.2 i (by rw [← HC.out]; exact hi)).1
            rw [← HX.out] at h1
            omega
          clear hgood hA
          go_wp2_with (refine wpList_load82 rfl _ rfl rfl hld ?_)
          go_quiet (fail)
          go_wp2
          go_ret
          have hfz : Fr [] w (wr.alloc o) := Fr.drop ((Fr.mono hf (by simp)).trans hF2) (by have := HS.out; simp; omega)
          exact ⟨false, rfl, hfz.drewN _, by simpa using hbad.out⟩
      · obtain rfl : i = c := by omega
        have hyes : Hid (Conf F N T s md i) := ⟨HC.out.symm, fun j hj => hgood j (by rw [HC.out]; exact hj)⟩
        clear hgood hsb
        go_wp2
        go_ret
        have hfz : Fr [] w wr := Fr.drop ((Fr.mono hf (by simp)).trans hFr) (by have := HS.out; simp; omega)
        exact ⟨true, rfl, hfz, by simpa using hyes.out⟩
  · have t0 : ((c : Int) != (R : Int)) = true := by simp; omega
    have hno : Hid (¬ Conf F N T s md R) := fun h => hcr (HC.out.trans h.1)
    clear hcc hcr hg
    go_enter Ybaf.func14, Ybaf.ntmps14
    go_wp2
    go_quiet (fail)
    go_wp2
    go_ret
    exact ⟨false, rfl, (Fr.refl _ _).drewN _, by simpa using hno.out⟩
end Go.Proofs.YbulkdnmcFmt
