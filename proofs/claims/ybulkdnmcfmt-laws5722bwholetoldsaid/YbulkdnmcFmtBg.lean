/- Node.begin (10). -/
import Derived.Test.YbulkdnmcFmtHd
import Derived.Test.YbulkdnmcFmtSc
import Derived.BigRegion
namespace Go.Proofs.YbulkdnmcFmt
open Go.RowKit
set_option linter.unusedSimpArgs false
set_option linter.unusedVariables false

/-- A node's cells. -/
def nodeC (kp : Option Addr) (sv cv ev hv : Value) (N T R me s : Nat) (md d : Int) : List Value :=
  [.string ⟨#[120]⟩, .int .i64 0, .slice kp N N, .int .i64 T, .int .i64 s, .int .i64 md, sv, .int .i64 me, .slice none 0 0, cv, .int .i64 R, ev, .slice none 0 0, .slice none 0 0, hv, .int .i64 d]

/-- Does the node pass the frame over? -/
def Skips (hv : Value) (rs : List Ref) (V : List UInt8) : Prop := hv = .pointer none ∧ (rs.length = 2 ∨ hasV rs V = true)

theorem Blk.ne {w : World} {b g : Nat} {cs ds : List Value} {t u : TypeId} (h : Blk w b cs t) (k : Blk w g ds u) (htu : t ≠ u) : b ≠ g := by
  rintro rfl
  unfold Blk at h k
  rw [h] at k
  simp at k
  exact htu k.2
theorem Ext.fr {own : List Nat} {w w' : World} {v : Value} {rs : List Ref} (h : Ext w v rs) (hF : Fr own w w') (hn : ∀ g cs, Blk w g cs 23 → g ∉ own) : Ext w' v rs := by
  obtain ⟨ea, ec, g, cs, rfl, hea, hcs⟩ := h
  exact ⟨ea, ec, g, cs, rfl, fun h0 => ⟨(hea h0).1, hF.blk (hea h0).2 (hn g cs (hea h0).2)⟩, hcs⟩
theorem Ext.drewN {w : World} {v : Value} {rs : List Ref} (h : Ext w v rs) (q : Nat) : Ext (w.drewN q) v rs := h.fr ((Fr.refl [] w).drewN q) (by simp)
theorem Ref.fr {own : List Nat} {w w' : World} {r : Ref} (h : r.ok w) (hF : Fr own w w') (hn : r.b ∉ own) : r.ok w' := Sl.fr hF h hn
theorem Ref.drewN {w : World} {r : Ref} (h : r.ok w) (q : Nat) : r.ok (w.drewN q) := Sl.drewN h q

set_option maxHeartbeats 4000000 in
theorem begin10_no (nb cb : Nat) (kp : Option Addr) (sv cv ev : Value) (N T R me s : Nat) (md : Int) (rs : List Ref) (fv : Value) (vb vo : Nat) (va : Option Addr) (vn vc : Nat) (V : List UInt8) (gv : Value) (w : World)
    (hT : T < 900) (hR : R ≤ T + 1) (hn : rs.length ≤ 2) (hnb : Blk w nb (nodeC kp sv cv ev (.pointer none) N T R me s md 0) 55) (hE : Ext w ev rs) (hrs : ∀ r ∈ rs, r.ok w) (hv : Sl w vb vo va vn vc V)
    (hcb : Blk w cb [.slice va vn vc, gv] 79) (hsk : rs.length = 2 ∨ hasV rs V = true) :
    Calls Ybaf.prog 10 #[.pointer (some ⟨nb, 0, none⟩), fv, .pointer (some ⟨cb, 0, none⟩)] w fun e w' => e = .returned (.pointer none) ∧ Hid (Fr [] w w') := by
  unfold nodeC at hnb
  have c3 := hnb.cell 3 rfl
  have c10 := hnb.cell 10 rfl
  have c11 := hnb.cell 11 rfl
  have c14 := hnb.cell 14 rfl
  have hEn := ended11 nb T R (by omega) (by omega) w c3 c10
  have tE : decide (T + 1 < R) = false := by simp; omega
  rw [tE] at hEn
  have hH := fun q => holds13 nb ev rs vb vo va vn vc V (w.drewN q) (by omega) c11 (hE.drewN q) (fun r hr => Ref.drewN (hrs r hr) q) (hv.drewN q)
  have d0 := hcb.cell 0 rfl
  obtain ⟨ea, ec, g, cs, rfl, hea, hcs⟩ := hE
  by_cases h2 : rs.length = 2
  · rw [h2] at c11
    clear hea hcs hrs hsk hH hv hcb hnb h2 hn d0
    go_enter Ybaf.func10, Ybaf.ntmps10
    go_wp2_with fail
    refine hEn.mono ?_
    rintro e w1 ⟨rfl, q, rfl⟩
    go_wp2
    go_ret
    exact ⟨rfl, (Fr.refl _ _).drewN _⟩
  · have hh : hasV rs V = true := by rcases hsk with h | h; exact absurd h h2; exact h
    rw [hh] at hH
    obtain ⟨n, hnn⟩ : ∃ n, n = rs.length := ⟨_, rfl⟩
    rw [← hnn] at c11 h2
    have t2 : ((n : Int) == 2) = false := by simp; omega
    clear hea hcs hrs hsk hh hv hcb hnb hn hnn
    go_enter Ybaf.func10, Ybaf.ntmps10
    go_wp2_with fail
    refine hEn.mono ?_
    rintro e w1 ⟨rfl, q, rfl⟩
    go_wp2_with fail
    refine (hH q).mono ?_
    rintro e w1 ⟨rfl, rfl⟩
    clear hH hEn
    go_wp2
    go_ret
    exact ⟨rfl, (Fr.refl _ _).drewN _⟩

set_option maxHeartbeats 4000000 in
theorem begin10_dis (nb cb gb : Nat) (kp : Option Addr) (sv cv ev hv : Value) (N T R me s : Nat) (md : Int) (rs : List Ref) (fv : Value) (vb vo : Nat) (va : Option Addr) (vn vc : Nat) (V : List UInt8) (F : List UInt8) (z : Nat → Value) (w : World)
    (hN : N < 1000) (hs : s < 1000) (hR0 : 0 < R) (hT : T < 900) (hR : R ≤ T + 1) (hn : rs.length ≤ 2) (hnb : Blk w nb (nodeC kp sv cv ev hv N T R me s md 0) 55) (hhv : hv = .pointer none ∨ ∃ x, hv = .pointer (some x)) (hE : Ext w ev rs) (hrs : ∀ r ∈ rs, r.ok w) (hsl : Sl w vb vo va vn vc V)
    (hcb : Blk w cb [.slice va vn vc, .slice (some ⟨gb, 0, none⟩) (cnt F) (cnt F)] 79) (hg : Blk w gb (Pre (cnt F * 65) (cnt F * 65) (dcG F) z) 82) (hs0 : sgn F 0 = s) (hsk : ¬ Skips hv rs V) (hconf : ¬ Conf F N T s md R) :
    Calls Ybaf.prog 10 #[.pointer (some ⟨nb, 0, none⟩), fv, .pointer (some ⟨cb, 0, none⟩)] w fun e w' => e = .returned (.pointer none) ∧ Hid (Fr [nb] w w' ∧ Blk w' nb (nodeC kp sv cv ev hv N T R me s md 1) 55) := by
  have hnb' := hnb
  unfold nodeC at hnb
  have c2 := hnb.cell 2 rfl
  have c3 := hnb.cell 3 rfl
  have c4 := hnb.cell 4 rfl
  have c5 := hnb.cell 5 rfl
  have c10 := hnb.cell 10 rfl
  have c11 := hnb.cell 11 rfl
  have c14 := hnb.cell 14 rfl
  have hEn := ended11 nb T R (by omega) (by omega) w c3 c10
  have tE : decide (T + 1 < R) = false := by simp; omega
  rw [tE] at hEn
  have hC : ∀ q, Calls Ybaf.prog 14 #[.pointer (some ⟨nb, 0, none⟩), .pointer (some ⟨cb, 0, none⟩), .int .i64 R] (w.drewN q) fun e w' => e = .returned (.bool false) ∧ Hid (Fr [] w w') := fun q => by
    refine (conf14 nb cb gb N T s R md F z kp _ (w.drewN q) hN (by omega) hs hR0 (by omega) c2 c3 c4 c5 (hcb.drewN q) (hg.drewN q) hs0).mono ?_
    rintro e w' ⟨r, rfl, h⟩
    have h1 := h.out.2
    have hr : r = false := by cases r with
      | false => rfl
      | true => exact absurd (h1.1 rfl) hconf
    subst hr
    exact ⟨rfl, ((Fr.refl _ _).drewN q).trans h.out.1⟩
  have d0 := hcb.cell 0 rfl
  have hH := fun q => holds13 nb ev rs vb vo va vn vc V (w.drewN q) (by omega) c11 (hE.drewN q) (fun r hr => Ref.drewN (hrs r hr) q) (hsl.drewN q)
  obtain ⟨ea, ec, g, cs, rfl, hea, hcs⟩ := hE
  have HB : Hid (Blk w nb (nodeC kp sv cv (.slice ea rs.length ec) hv N T R me s md 0) 55) := hnb'
  rcases hhv with rfl | ⟨x, rfl⟩
  · have h2 : ¬ rs.length = 2 := fun h => hsk ⟨rfl, Or.inl h⟩
    have hh : hasV rs V = false := by
      cases h : hasV rs V with
      | false => rfl
      | true => exact absurd ⟨rfl, Or.inr h⟩ hsk
    rw [hh] at hH
    obtain ⟨n, hnn⟩ : ∃ n, n = rs.length := ⟨_, rfl⟩
    rw [← hnn] at c11 h2 HB ⊢
    have t2 : ((n : Int) == 2) = false := by simp; omega
    clear hea hcs hrs hsk hh hsl hcb hnb hnb' hn hnn hg hconf
    go_enter Ybaf.func10, Ybaf.ntmps10
    go_wp2_with fail
    refine hEn.mono ?_
    rintro e w1 ⟨rfl, q, rfl⟩
    go_wp2_with fail
    refine (hH q).mono ?_
    rintro e w1 ⟨rfl, rfl⟩
    go_wp2_with fail
    refine (hC q).mono ?_
    rintro e w2 ⟨rfl, hF2⟩
    have hB2 := hF2.out.blk HB.out (by simp)
    unfold nodeC at hB2
    have b15 := hB2.cell 15 rfl
    have f15 := hB2.frozen 15
    clear hH hEn hC c2 c3 c4 c5 c10 c11 c14 d0
    go_wp2
    go_ret
    refine ⟨rfl, (Fr.mono hF2.out (by simp)).setCell (by simp) _, ?_⟩
    exact hB2.setCell 15 (.int .i64 1)
  · obtain ⟨n, hnn⟩ : ∃ n, n = rs.length := ⟨_, rfl⟩
    rw [← hnn] at c11 HB ⊢
    clear hea hcs hrs hsk hsl hcb hnb hnb' hn hnn hg hconf hH
    go_enter Ybaf.func10, Ybaf.ntmps10
    go_wp2_with fail
    refine hEn.mono ?_
    rintro e w1 ⟨rfl, q, rfl⟩
    go_wp2_with fail
    refine (hC q).mono ?_
    rintro e w2 ⟨rfl, hF2⟩
    have hB2 := hF2.out.blk HB.out (by simp)
    unfold nodeC at hB2
    have b15 := hB2.cell 15 rfl
    have f15 := hB2.frozen 15
    clear hEn hC c2 c3 c4 c5 c10 c11 c14 d0
    go_wp2
    go_ret
    refine ⟨rfl, (Fr.mono hF2.out (by simp)).setCell (by simp) _, ?_⟩
    exact hB2.setCell 15 (.int .i64 1)

/-- What a pending frame holds. -/
def pendC (nb cb : Nat) (sv cv fv : Value) (R : Nat) : List Value := [.pointer (some ⟨nb, 0, none⟩), sv, cv, .int .i64 R, fv, .pointer (some ⟨cb, 0, none⟩), .bool false, .bool false]

set_option maxHeartbeats 4000000 in
theorem begin10_pend (nb cb gb : Nat) (kp : Option Addr) (sp cp : Option Addr) (ev hv : Value) (N T R me s : Nat) (md : Int) (rs : List Ref) (fa : Option Addr) (fn fc : Nat) (vb vo : Nat) (va : Option Addr) (vn vc : Nat) (V : List UInt8) (F : List UInt8) (z : Nat → Value) (w : World)
    (hN : N < 1000) (hs : s < 1000) (hR0 : 0 < R) (hT : T < 900) (hR : R ≤ T + 1) (hn : rs.length ≤ 2) (hnb : Blk w nb (nodeC kp (.pointer sp) (.pointer cp) ev hv N T R me s md 0) 55) (hhv : hv = .pointer none ∨ ∃ x, hv = .pointer (some x)) (hE : Ext w ev rs) (hrs : ∀ r ∈ rs, r.ok w) (hsl : Sl w vb vo va vn vc V)
    (hcb : Blk w cb [.slice va vn vc, .slice (some ⟨gb, 0, none⟩) (cnt F) (cnt F)] 79) (hg : Blk w gb (Pre (cnt F * 65) (cnt F * 65) (dcG F) z) 82) (hs0 : sgn F 0 = s) (hsk : ¬ Skips hv rs V) (hconf : Conf F N T s md R) :
    Calls Ybaf.prog 10 #[.pointer (some ⟨nb, 0, none⟩), .slice fa fn fc, .pointer (some ⟨cb, 0, none⟩)] w fun e w' => ∃ pb, e = .returned (.pointer (some ⟨pb, 0, none⟩)) ∧ Hid (Fr [] w w' ∧ w.heap.size ≤ pb ∧ Blk w' pb (pendC nb cb (.pointer sp) (.pointer cp) (.slice fa fn fc) R) 75) := by
  have hnb' := hnb
  unfold nodeC at hnb
  have c2 := hnb.cell 2 rfl
  have c3 := hnb.cell 3 rfl
  have c4 := hnb.cell 4 rfl
  have c5 := hnb.cell 5 rfl
  have c10 := hnb.cell 10 rfl
  have c11 := hnb.cell 11 rfl
  have c14 := hnb.cell 14 rfl
  have hEn := ended11 nb T R (by omega) (by omega) w c3 c10
  have tE : decide (T + 1 < R) = false := by simp; omega
  rw [tE] at hEn
  have hC : ∀ q, Calls Ybaf.prog 14 #[.pointer (some ⟨nb, 0, none⟩), .pointer (some ⟨cb, 0, none⟩), .int .i64 R] (w.drewN q) fun e w' => e = .returned (.bool true) ∧ Hid (Fr [] w w') := fun q => by
    refine (conf14 nb cb gb N T s R md F z kp _ (w.drewN q) hN (by omega) hs hR0 (by omega) c2 c3 c4 c5 (hcb.drewN q) (hg.drewN q) hs0).mono ?_
    rintro e w' ⟨r, rfl, h⟩
    have h1 := h.out.2
    have hr : r = true := h1.2 hconf
    subst hr
    exact ⟨rfl, ((Fr.refl _ _).drewN q).trans h.out.1⟩
  have d0 := hcb.cell 0 rfl
  have hH := fun q => holds13 nb ev rs vb vo va vn vc V (w.drewN q) (by omega) c11 (hE.drewN q) (fun r hr => Ref.drewN (hrs r hr) q) (hsl.drewN q)
  obtain ⟨ea, ec, g, cs, rfl, hea, hcs⟩ := hE
  have HB : Hid (Blk w nb (nodeC kp (.pointer sp) (.pointer cp) (.slice ea rs.length ec) hv N T R me s md 0) 55) := hnb'
  rcases hhv with rfl | ⟨x, rfl⟩
  · have h2 : ¬ rs.length = 2 := fun h => hsk ⟨rfl, Or.inl h⟩
    have hh : hasV rs V = false := by
      cases h : hasV rs V with
      | false => rfl
      | true => exact absurd ⟨rfl, Or.inr h⟩ hsk
    rw [hh] at hH
    obtain ⟨n, hnn⟩ : ∃ n, n = rs.length := ⟨_, rfl⟩
    rw [← hnn] at c11 h2 HB
    have t2 : ((n : Int) == 2) = false := by simp; omega
    clear hea hcs hrs hsk hh hsl hcb hnb hnb' hn hnn hg hconf
    go_enter Ybaf.func10, Ybaf.ntmps10
    go_wp2_with fail
    refine hEn.mono ?_
    rintro e w1 ⟨rfl, q, rfl⟩
    go_wp2_with fail
    refine (hH q).mono ?_
    rintro e w1 ⟨rfl, rfl⟩
    go_wp2_with fail
    refine (hC q).mono ?_
    rintro e w2 ⟨rfl, hF2⟩
    have hB2 := hF2.out.blk HB.out (by simp)
    unfold nodeC at hB2
    have b6 := hB2.cell 6 rfl
    have b9 := hB2.cell 9 rfl
    have b10 := hB2.cell 10 rfl
    clear hH hEn hC c2 c3 c4 c5 c10 c11 c14 d0
    go_wp2
    go_region
    all_goals go_wp2
    all_goals go_ret
    all_goals exact ⟨w2.heap.size, rfl, ((hF2.out.drewN _).alloc _), hF2.out.size, Blk.new _ _ _⟩
  · obtain ⟨n, hnn⟩ : ∃ n, n = rs.length := ⟨_, rfl⟩
    rw [← hnn] at c11 HB
    clear hea hcs hrs hsk hsl hcb hnb hnb' hn hnn hg hconf hH
    go_enter Ybaf.func10, Ybaf.ntmps10
    go_wp2_with fail
    refine hEn.mono ?_
    rintro e w1 ⟨rfl, q, rfl⟩
    go_wp2_with fail
    refine (hC q).mono ?_
    rintro e w2 ⟨rfl, hF2⟩
    have hB2 := hF2.out.blk HB.out (by simp)
    unfold nodeC at hB2
    have b6 := hB2.cell 6 rfl
    have b9 := hB2.cell 9 rfl
    have b10 := hB2.cell 10 rfl
    clear hEn hC c2 c3 c4 c5 c10 c11 c14 d0
    go_wp2
    go_region
    all_goals go_wp2
    all_goals go_ret
    all_goals exact ⟨w2.heap.size, rfl, ((hF2.out.drewN _).alloc _), hF2.out.size, Blk.new _ _ _⟩
end Go.Proofs.YbulkdnmcFmt
