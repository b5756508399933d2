/- VectorNode.route (9). -/
import Derived.Test.YbulkdnmcFmtHd
namespace Go.Proofs.YbulkdnmcFmt
open Go.RowKit Go.Extern.Stop Go.Stop Go.Extern
set_option linter.unusedSimpArgs false
set_option linter.unusedVariables false

set_option maxHeartbeats 4000000 in
theorem route9_end (vb nb0 : Nat) (nd : Nat → Nat) (N T R : Nat) (z : Nat → Value) (dv : Value) (fv : Value) (w : World) (hN : 0 < N) (hNN : N < 1000) (hT : T < 900) (hR : T + 1 < R) (hRR : R < 1000)
    (hv : Blk w vb [.slice (some ⟨nb0, 0, none⟩) N N, dv] 45) (hrow : Blk w nb0 (Pre N N (fun s => .pointer (some ⟨nd s, 0, none⟩)) z) 46) (h3 : w.cell? ⟨nd 0, 3, none⟩ = some (.int .i64 T)) (h10 : w.cell? ⟨nd 0, 10, none⟩ = some (.int .i64 R)) :
    Calls Ybaf.prog 9 #[.pointer (some ⟨vb, 0, none⟩), fv] w fun e w' => e = .returned (.tuple #[.pointer none, .pointer none]) ∧ Hid (Fr [] w w') := by
  have c0 := hv.cell 0 rfl
  have r0 := hrow.preOk (m := 0) (by omega) (by omega)
  have hEn := ended11 (nd 0) T R (by omega) hRR w h3 h10
  have tE : decide (T + 1 < R) = true := by simp; omega
  rw [tE] at hEn
  have b1 : (0 : Int) < (N : Int) := by omega
  clear hv hrow tE h3 h10
  go_enter Ybaf.func9, Ybaf.ntmps9
  go_wp2_with fail
  refine hEn.mono ?_
  rintro e w1 ⟨rfl, q, rfl⟩
  clear hEn
  go_wp2
  go_ret2
  exact ⟨rfl, (Fr.refl _ _).drewN _⟩

set_option maxHeartbeats 4000000 in
theorem route9_bad (I : Interp) (vb nb0 : Nat) (nd : Nat → Nat) (N T R : Nat) (z : Nat → Value) (fb fo : Nat) (fa : Option Addr) (fn fc : Nat) (F : List UInt8) (w : World) (hN : 0 < N) (hNN : N < 1000) (hT : T < 900) (hR : R ≤ T + 1)
    (hv : Blk w vb [.slice (some ⟨nb0, 0, none⟩) N N, .int .i64 0] 45) (hrow : Blk w nb0 (Pre N N (fun s => .pointer (some ⟨nd s, 0, none⟩)) z) 46) (h3 : w.cell? ⟨nd 0, 3, none⟩ = some (.int .i64 T)) (h10 : w.cell? ⟨nd 0, 10, none⟩ = some (.int .i64 R))
    (hI : I.answers w.tape) (hS : Sen w) (hs : Sl w fb fo fa fn fc F) (hm : fn ≤ 140737488355328) (hbad : ¬ (Takes F T ∧ 0 < cnt F ∧ sgn F 0 < N)) :
    Calls Ybaf.prog 9 #[.pointer (some ⟨vb, 0, none⟩), .slice fa fn fc] w fun e w' => e = .returned (.tuple #[.pointer none, .pointer none]) ∧ Hid (Fr [vb] w w' ∧ Blk w' vb [.slice (some ⟨nb0, 0, none⟩) N N, .int .i64 1] 45) := by
  have c0 := hv.cell 0 rfl
  have r0 := hrow.preOk (m := 0) (by omega) (by omega)
  have hEn := ended11 (nd 0) T R (by omega) (by omega) w h3 h10
  have tE : decide (T + 1 < R) = false := by simp; omega
  rw [tE] at hEn
  have b1 : (0 : Int) < (N : Int) := by omega
  by_cases htk : Takes F T
  · have hD := fun q => decode12_ok (nd 0) T fb fo fa fn fc F (w.drewN q) (by omega) h3 (hs.drewN q) hm htk
    have hcl := cnt_lt F
    have hsl := sgn_lt F 0
    clear hrow tE h3 h10 hI hS hs
    by_cases h0 : cnt F = 0
    · clear hbad htk
      go_enter Ybaf.func9, Ybaf.ntmps9
      go_wp2_with fail
      refine hEn.mono ?_
      rintro e w1 ⟨rfl, q, rfl⟩
      go_wp2_with fail
      refine (hD q).mono ?_
      rintro e w2 ⟨cb, rfl, h⟩
      obtain ⟨hF, gb, h1, h2, h3, h4, hcb, z2, hgb⟩ := h.out
      have hF' := ((Fr.refl [] w).drewN q).trans hF
      rw [h0] at hcb
      have d1 := hcb.cell 1 rfl
      have hv2 := hF'.blk hv (by simp)
      have e0 := hv2.cell 0 rfl
      have e1 := hv2.cell 1 rfl
      have e2 := hv2.frozen 1
      clear hD hEn h hF h1 h2 h3 h4 hgb hcb hv c0 r0 h0
      go_wp2
      go_quiet (fail)
      go_wp2
      go_ret2
      exact ⟨rfl, ((Fr.mono hF' (by simp)).drewN _).setCell (by simp) _, (hv2.drewN _).setCell 1 (.int .i64 1)⟩
    · have hge : N ≤ sgn F 0 := by
        rcases Nat.lt_or_ge (sgn F 0) N with h | h
        · exact absurd ⟨htk, by omega, h⟩ hbad
        · exact h
      obtain ⟨x, hx⟩ : ∃ x, x = sgn F 0 := ⟨_, rfl⟩
      rw [← hx] at hge hsl
      have HX : Hid (x = sgn F 0) := hx
      obtain ⟨c, hc⟩ : ∃ c, c = cnt F := ⟨_, rfl⟩
      rw [← hc] at h0 hcl
      have HC : Hid (c = cnt F) := hc
      have t1 : ((c : Int) == 0) = false := by simp; omega
      have t2 : decide ((N : Int) ≤ (x : Int)) = true := by simp; omega
      have t3 : decide (N ≤ x) = true := by simp; omega
      have t4 : (0 : Int) < (c : Int) := by omega
      have t5 : 0 < c := by omega
      clear hbad htk hx hc
      go_enter Ybaf.func9, Ybaf.ntmps9
      go_wp2_with fail
      refine hEn.mono ?_
      rintro e w1 ⟨rfl, q, rfl⟩
      go_wp2_with fail
      refine (hD q).mono ?_
      rintro e w2 ⟨cb, rfl, h⟩
      obtain ⟨hF, gb, h1, h2, h3, h4, hcb, z2, hgb⟩ := h.out
      have hF' := ((Fr.refl [] w).drewN q).trans hF
      rw [← HC.out] at hcb hgb
      have d1 := hcb.cell 1 rfl
      have g0 := hgb.preOk (m := 0) (by omega) (by omega)
      have e9 := dcG_head F 0
      rw [Nat.zero_mul, ← HX.out] at e9
      rw [e9] at g0
      have hv2 := hF'.blk hv (by simp)
      have e0 := hv2.cell 0 rfl
      have e1 := hv2.cell 1 rfl
      have e2 := hv2.frozen 1
      clear hD hEn h hF h1 h2 h3 h4 hgb hcb hv c0 r0 e9
      go_wp2
      go_quiet (fail)
      go_wp2
      go_ret2
      exact ⟨rfl, ((Fr.mono hF' (by simp)).drewN _).setCell (by simp) _, (hv2.drewN _).setCell 1 (.int .i64 1)⟩
  · have hD := fun q => decode12_bad I (nd 0) T fb fo fa fn fc F (w.drewN q) (by omega) hI (hS.fr ((Fr.refl [] w).drewN q)) h3 (hs.drewN q) hm htk
    clear hrow tE h3 h10 hI hS hs hbad htk
    go_enter Ybaf.func9, Ybaf.ntmps9
    go_wp2_with fail
    refine hEn.mono ?_
    rintro e w1 ⟨rfl, q, rfl⟩
    go_wp2_with fail
    refine (hD q).mono ?_
    rintro e w2 ⟨rfl, hF⟩
    have hF' := ((Fr.refl [] w).drewN q).trans hF.out
    have hv2 := hF'.blk hv (by simp)
    have e0 := hv2.cell 0 rfl
    have e1 := hv2.cell 1 rfl
    have e2 := hv2.frozen 1
    clear hD hEn hF hv c0 r0
    go_wp2
    go_quiet (fail)
    go_wp2
    go_ret2
    exact ⟨rfl, ((Fr.mono hF' (by simp)).drewN _).setCell (by simp) _, (hv2.drewN _).setCell 1 (.int .i64 1)⟩

set_option maxHeartbeats 4000000 in
theorem route9_ok (vb nb0 : Nat) (nd : Nat → Nat) (N T R : Nat) (z : Nat → Value) (dv : Value) (fb fo : Nat) (fa : Option Addr) (fn fc : Nat) (F : List UInt8) (w : World) (hN : 0 < N) (hNN : N < 1000) (hT : T < 900) (hR : R ≤ T + 1)
    (hv : Blk w vb [.slice (some ⟨nb0, 0, none⟩) N N, dv] 45) (hrow : Blk w nb0 (Pre N N (fun s => .pointer (some ⟨nd s, 0, none⟩)) z) 46) (h3 : w.cell? ⟨nd 0, 3, none⟩ = some (.int .i64 T)) (h10 : w.cell? ⟨nd 0, 10, none⟩ = some (.int .i64 R))
    (hs : Sl w fb fo fa fn fc F) (hm : fn ≤ 140737488355328) (htk : Takes F T) (hc0 : 0 < cnt F) (hsN : sgn F 0 < N) :
    Calls Ybaf.prog 9 #[.pointer (some ⟨vb, 0, none⟩), .slice fa fn fc] w fun e w' => ∃ cb, e = .returned (.tuple #[.pointer (some ⟨nd (sgn F 0), 0, none⟩), .pointer (some ⟨cb, 0, none⟩)]) ∧ Hid (Fr [] w w' ∧ ChainAt w w' cb fb fo F) := by
  have c0 := hv.cell 0 rfl
  have r0 := hrow.preOk (m := 0) (by omega) (by omega)
  have hEn := ended11 (nd 0) T R (by omega) (by omega) w h3 h10
  have tE : decide (T + 1 < R) = false := by simp; omega
  rw [tE] at hEn
  have b1 : (0 : Int) < (N : Int) := by omega
  have hD := fun q => decode12_ok (nd 0) T fb fo fa fn fc F (w.drewN q) (by omega) h3 (hs.drewN q) hm htk
  have hcl := cnt_lt F
  have hsl := sgn_lt F 0
  obtain ⟨x, hx⟩ : ∃ x, x = sgn F 0 := ⟨_, rfl⟩
  rw [← hx] at hsN hsl ⊢
  have HX : Hid (x = sgn F 0) := hx
  obtain ⟨c, hc⟩ : ∃ c, c = cnt F := ⟨_, rfl⟩
  rw [← hc] at hc0 hcl
  have HC : Hid (c = cnt F) := hc
  have t1 : ((c : Int) == 0) = false := by simp; omega
  have t2 : decide ((N : Int) ≤ (x : Int)) = false := by simp; omega
  have t3 : decide (N ≤ x) = false := by simp; omega
  have t4 : (0 : Int) < (c : Int) := by omega
  have t6 : (0 : Int) ≤ (x : Int) := by omega
  have t7 : (x : Int) < (N : Int) := by omega
  have t8 : ¬ c = 0 := by omega
  clear hx hc tE h3 h10 hs htk
  go_enter Ybaf.func9, Ybaf.ntmps9
  go_wp2_with fail
  refine hEn.mono ?_
  rintro e w1 ⟨rfl, q, rfl⟩
  go_wp2_with fail
  refine (hD q).mono ?_
  rintro e w2 ⟨cb, rfl, h⟩
  obtain ⟨hF, gb, h1, h2, h3, h4, hcb, z2, hgb⟩ := h.out
  have hF' := ((Fr.refl [] w).drewN q).trans hF
  have HCh : Hid (ChainAt w w2 cb fb fo F) := ⟨gb, h1, h2, h3, h4, hcb, z2, hgb⟩
  rw [← HC.out] at hcb hgb
  have d1 := hcb.cell 1 rfl
  have g0 := hgb.preOk (m := 0) (by omega) (by omega)
  have e9 := dcG_head F 0
  rw [Nat.zero_mul, ← HX.out] at e9
  rw [e9] at g0
  have hv2 := hF'.blk hv (by simp)
  have e0 := hv2.cell 0 rfl
  have hr2 := (hF'.blk hrow (by simp)).preOk hsN hsN
  clear hD hEn h hF h1 h2 h3 h4 hgb hcb hv c0 r0 e9 hv2 hrow
  go_wp2
  go_quiet (fail)
  go_wp2
  go_quiet (fail)
  go_wp2
  go_ret2
  exact ⟨cb, rfl, (hF'.drewN _).drewN _, HCh.out⟩
end Go.Proofs.YbulkdnmcFmt
