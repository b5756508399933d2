/- VectorNode.Begin (8). -/
import Derived.Test.YbulkdnmcFmtRt
import Derived.Test.YbulkdnmcFmtBg
namespace Go.Proofs.YbulkdnmcFmt
open Go.RowKit Go.Extern.Stop Go.Stop Go.Extern
set_option linter.unusedSimpArgs false
set_option linter.unusedVariables false

/-- The member's nodes. -/
structure Net (w : World) (vb nb0 : Nat) (nd : Nat → Nat) (N T R me : Nat) (md : Int) (kp sp cp : Option Addr) (ev hv : Nat → Value) (rs : Nat → List Ref) : Prop where
  v : Blk w vb [.slice (some ⟨nb0, 0, none⟩) N N, .int .i64 0] 45
  row : ∃ z, Blk w nb0 (Pre N N (fun s => .pointer (some ⟨nd s, 0, none⟩)) z) 46
  node : ∀ s, s < N → Blk w (nd s) (nodeC kp (.pointer sp) (.pointer cp) (ev s) (hv s) N T R me s md 0) 55
  ext : ∀ s, s < N → Ext w (ev s) (rs s)
  heard : ∀ s, s < N → hv s = .pointer none ∨ ∃ x, hv s = .pointer (some x)
  refs : ∀ s, s < N → ∀ r ∈ rs s, r.ok w
  len : ∀ s, s < N → (rs s).length ≤ 2

theorem Net.fr {w w' : World} {vb nb0 : Nat} {nd : Nat → Nat} {N T R me : Nat} {md : Int} {kp sp cp : Option Addr} {ev hv : Nat → Value} {rs : Nat → List Ref} (h : Net w vb nb0 nd N T R me md kp sp cp ev hv rs) (hF : Fr [] w w') : Net w' vb nb0 nd N T R me md kp sp cp ev hv rs := by
  obtain ⟨z, hz⟩ := h.row
  exact ⟨hF.blk h.v (by simp), ⟨z, hF.blk hz (by simp)⟩, fun s hs => hF.blk (h.node s hs) (by simp), fun s hs => (h.ext s hs).fr hF (by simp), h.heard, fun s hs r hr => Ref.fr (h.refs s hs r hr) hF (by simp), h.len⟩

/-- The value that a frame holds. -/
def valF (F : List UInt8) : List UInt8 := (F.drop 4).take (klen F)
theorem Sl.val {w : World} {fb fo : Nat} {fa : Option Addr} {fn fc : Nat} {F : List UInt8} (h : Sl w fb fo fa fn fc F) (hok : OkF F) : Sl w fb (fo + 4) (some ⟨fb, fo + 4, none⟩) (klen F) (klen F) (valF F) := by
  obtain ⟨h4, h5, h6, h7, h8⟩ := hok
  have hl := h.len
  have k := h.sub 4 (klen F) (by omega)
  exact ⟨k.len, Nat.le_refl _, fun _ => rfl, k.cell⟩

theorem ChainAt.fr {w w1 w2 : World} {cb fb fo : Nat} {F : List UInt8} (h : ChainAt w w1 cb fb fo F) (hF : Fr [] w1 w2) : ChainAt w w2 cb fb fo F := by
  obtain ⟨gb, h1, h2, h3, h4, h5, z, h6⟩ := h
  exact ⟨gb, h1, h2, h3, by have := hF.size; omega, hF.blk h5 (by simp), z, hF.blk h6 (by simp)⟩

theorem begin8_end (I : Interp) (vb nb0 : Nat) (nd : Nat → Nat) (N T R me : Nat) (md : Int) (kp sp cp : Option Addr) (ev hv : Nat → Value) (rs : Nat → List Ref) (fb fo : Nat) (fa : Option Addr) (fn fc : Nat) (F : List UInt8) (w : World) (hN : 0 < N) (hNN : N < 900) (hT : T < 900) (hR0 : 0 < R) (hRR : R < 900) (hnet : Net w vb nb0 nd N T R me md kp sp cp ev hv rs) (hs : Sl w fb fo fa fn fc F) (hm : fn ≤ 140737488355328)
    (hR : T + 1 < R) :
    Calls Ybaf.prog 8 #[.pointer (some ⟨vb, 0, none⟩), .slice fa fn fc] w fun e w' => e = .returned (.pointer none) ∧ Hid (Fr [] w w') := by
  obtain ⟨z, hz⟩ := hnet.row
  have hn0 := hnet.node 0 hN
  unfold nodeC at hn0
  have hRt := route9_end vb nb0 nd N T R z _ (.slice fa fn fc) w hN (by omega) hT hR (by omega) hnet.v hz (hn0.cell 3 rfl) (hn0.cell 10 rfl)
  clear hnet hz hn0
  go_enter Ybaf.func8, Ybaf.ntmps8
  go_wp2_with fail
  refine hRt.mono ?_
  rintro e w1 ⟨rfl, hF⟩
  clear hRt
  go_wp2
  go_ret
  exact ⟨rfl, hF⟩

theorem begin8_bad (I : Interp) (vb nb0 : Nat) (nd : Nat → Nat) (N T R me : Nat) (md : Int) (kp sp cp : Option Addr) (ev hv : Nat → Value) (rs : Nat → List Ref) (fb fo : Nat) (fa : Option Addr) (fn fc : Nat) (F : List UInt8) (w : World) (hN : 0 < N) (hNN : N < 900) (hT : T < 900) (hR0 : 0 < R) (hRR : R < 900) (hnet : Net w vb nb0 nd N T R me md kp sp cp ev hv rs) (hs : Sl w fb fo fa fn fc F) (hm : fn ≤ 140737488355328)
    (hI : I.answers w.tape) (hS : Sen w) (hR : R ≤ T + 1) (hbad : ¬ (Takes F T ∧ 0 < cnt F ∧ sgn F 0 < N)) :
    Calls Ybaf.prog 8 #[.pointer (some ⟨vb, 0, none⟩), .slice fa fn fc] w fun e w' => e = .returned (.pointer none) ∧ Hid (Fr [vb] w w' ∧ Blk w' vb [.slice (some ⟨nb0, 0, none⟩) N N, .int .i64 1] 45) := by
  obtain ⟨z, hz⟩ := hnet.row
  have hn0 := hnet.node 0 hN
  unfold nodeC at hn0
  have hRt := route9_bad I vb nb0 nd N T R z fb fo fa fn fc F w hN (by omega) hT hR hnet.v hz (hn0.cell 3 rfl) (hn0.cell 10 rfl) hI hS hs hm hbad
  clear hnet hz hn0 hbad hs hS hI
  go_enter Ybaf.func8, Ybaf.ntmps8
  go_wp2_with fail
  refine hRt.mono ?_
  rintro e w1 ⟨rfl, hF⟩
  clear hRt
  go_wp2
  go_ret
  exact ⟨rfl, hF⟩

theorem begin8_skip (I : Interp) (vb nb0 : Nat) (nd : Nat → Nat) (N T R me : Nat) (md : Int) (kp sp cp : Option Addr) (ev hv : Nat → Value) (rs : Nat → List Ref) (fb fo : Nat) (fa : Option Addr) (fn fc : Nat) (F : List UInt8) (w : World) (hN : 0 < N) (hNN : N < 900) (hT : T < 900) (hR0 : 0 < R) (hRR : R < 900) (hnet : Net w vb nb0 nd N T R me md kp sp cp ev hv rs) (hs : Sl w fb fo fa fn fc F) (hm : fn ≤ 140737488355328)
    (hR : R ≤ T + 1) (htk : Takes F T) (hc0 : 0 < cnt F) (hsN : sgn F 0 < N) (hsk : Skips (hv (sgn F 0)) (rs (sgn F 0)) (valF F)) :
    Calls Ybaf.prog 8 #[.pointer (some ⟨vb, 0, none⟩), .slice fa fn fc] w fun e w' => e = .returned (.pointer none) ∧ Hid (Fr [] w w') := by
  obtain ⟨z, hz⟩ := hnet.row
  have hn0 := hnet.node 0 hN
  unfold nodeC at hn0
  have hRt := route9_ok vb nb0 nd N T R z _ fb fo fa fn fc F w hN (by omega) hT hR hnet.v hz (hn0.cell 3 rfl) (hn0.cell 10 rfl) hs hm htk hc0 hsN
  have HN : Hid (Net w vb nb0 nd N T R me md kp sp cp ev hv rs) := hnet
  clear hnet hz hn0
  go_enter Ybaf.func8, Ybaf.ntmps8
  go_wp2_with fail
  refine hRt.mono ?_
  rintro e w1 ⟨cb, rfl, h⟩
  obtain ⟨hF, gb, h1, h2, h3, h4, hcb, z2, hgb⟩ := h.out
  have hn1 := HN.out.fr hF
  have hnd := hn1.node _ hsN
  rw [hsk.1] at hnd
  have hB := begin10_no (nd (sgn F 0)) cb kp (.pointer sp) (.pointer cp) (ev (sgn F 0)) N T R me (sgn F 0) md (rs (sgn F 0)) (.slice fa fn fc) fb (fo + 4) _ _ _ (valF F) _ w1 hT hR (hn1.len _ hsN) hnd (hn1.ext _ hsN) (hn1.refs _ hsN) ((hs.fr hF (by simp)).val htk.2) hcb hsk.2
  clear hRt hsk htk hs hgb hcb h h1 h2 h3 h4 hn1 hnd
  go_wp2_with fail
  refine hB.mono ?_
  rintro e w2 ⟨rfl, hF2⟩
  clear hB
  go_wp2
  go_ret
  exact ⟨rfl, hF.trans hF2.out⟩

theorem begin8_dis (I : Interp) (vb nb0 : Nat) (nd : Nat → Nat) (N T R me : Nat) (md : Int) (kp sp cp : Option Addr) (ev hv : Nat → Value) (rs : Nat → List Ref) (fb fo : Nat) (fa : Option Addr) (fn fc : Nat) (F : List UInt8) (w : World) (hN : 0 < N) (hNN : N < 900) (hT : T < 900) (hR0 : 0 < R) (hRR : R < 900) (hnet : Net w vb nb0 nd N T R me md kp sp cp ev hv rs) (hs : Sl w fb fo fa fn fc F) (hm : fn ≤ 140737488355328)
    (hR : R ≤ T + 1) (htk : Takes F T) (hc0 : 0 < cnt F) (hsN : sgn F 0 < N) (hsk : ¬ Skips (hv (sgn F 0)) (rs (sgn F 0)) (valF F)) (hcf : ¬ Conf F N T (sgn F 0) md R) :
    Calls Ybaf.prog 8 #[.pointer (some ⟨vb, 0, none⟩), .slice fa fn fc] w fun e w' => e = .returned (.pointer none) ∧ Hid (Fr [nd (sgn F 0)] w w' ∧ Blk w' (nd (sgn F 0)) (nodeC kp (.pointer sp) (.pointer cp) (ev (sgn F 0)) (hv (sgn F 0)) N T R me (sgn F 0) md 1) 55) := by
  obtain ⟨z, hz⟩ := hnet.row
  have hn0 := hnet.node 0 hN
  unfold nodeC at hn0
  have hRt := route9_ok vb nb0 nd N T R z _ fb fo fa fn fc F w hN (by omega) hT hR hnet.v hz (hn0.cell 3 rfl) (hn0.cell 10 rfl) hs hm htk hc0 hsN
  have HN : Hid (Net w vb nb0 nd N T R me md kp sp cp ev hv rs) := hnet
  clear hnet hz hn0
  go_enter Ybaf.func8, Ybaf.ntmps8
  go_wp2_with fail
  refine hRt.mono ?_
  rintro e w1 ⟨cb, rfl, h⟩
  obtain ⟨hF, gb, h1, h2, h3, h4, hcb, z2, hgb⟩ := h.out
  have hn1 := HN.out.fr hF
  have hnd := hn1.node _ hsN
  have hB := begin10_dis (nd (sgn F 0)) cb gb kp (.pointer sp) (.pointer cp) (ev (sgn F 0)) (hv (sgn F 0)) N T R me (sgn F 0) md (rs (sgn F 0)) (.slice fa fn fc) fb (fo + 4) _ _ _ (valF F) F z2 w1 (by omega) (by omega) hR0 hT hR (hn1.len _ hsN) hnd (hn1.heard _ hsN) (hn1.ext _ hsN) (hn1.refs _ hsN) ((hs.fr hF (by simp)).val htk.2) hcb hgb rfl hsk hcf
  clear hRt hsk htk hs hgb hcb h h1 h2 h3 h4 hn1 hnd hcf
  go_wp2_with fail
  refine hB.mono ?_
  rintro e w2 ⟨rfl, hF2⟩
  clear hB
  go_wp2
  go_ret
  exact ⟨rfl, (Fr.mono hF (by simp)).trans hF2.out.1, hF2.out.2⟩

theorem begin8_pend (I : Interp) (vb nb0 : Nat) (nd : Nat → Nat) (N T R me : Nat) (md : Int) (kp sp cp : Option Addr) (ev hv : Nat → Value) (rs : Nat → List Ref) (fb fo : Nat) (fa : Option Addr) (fn fc : Nat) (F : List UInt8) (w : World) (hN : 0 < N) (hNN : N < 900) (hT : T < 900) (hR0 : 0 < R) (hRR : R < 900) (hnet : Net w vb nb0 nd N T R me md kp sp cp ev hv rs) (hs : Sl w fb fo fa fn fc F) (hm : fn ≤ 140737488355328)
    (hR : R ≤ T + 1) (htk : Takes F T) (hc0 : 0 < cnt F) (hsN : sgn F 0 < N) (hsk : ¬ Skips (hv (sgn F 0)) (rs (sgn F 0)) (valF F)) (hcf : Conf F N T (sgn F 0) md R) :
    Calls Ybaf.prog 8 #[.pointer (some ⟨vb, 0, none⟩), .slice fa fn fc] w fun e w' => ∃ pb, e = .returned (.pointer (some ⟨pb, 0, none⟩)) ∧ Hid (∃ cb, Fr [] w w' ∧ Blk w' pb (pendC (nd (sgn F 0)) cb (.pointer sp) (.pointer cp) (.slice fa fn fc) R) 75 ∧ ChainAt w w' cb fb fo F) := by
  obtain ⟨z, hz⟩ := hnet.row
  have hn0 := hnet.node 0 hN
  unfold nodeC at hn0
  have hRt := route9_ok vb nb0 nd N T R z _ fb fo fa fn fc F w hN (by omega) hT hR hnet.v hz (hn0.cell 3 rfl) (hn0.cell 10 rfl) hs hm htk hc0 hsN
  have HN : Hid (Net w vb nb0 nd N T R me md kp sp cp ev hv rs) := hnet
  clear hnet hz hn0
  go_enter Ybaf.func8, Ybaf.ntmps8
  go_wp2_with fail
  refine hRt.mono ?_
  rintro e w1 ⟨cb, rfl, h⟩
  obtain ⟨hF, gb, h1, h2, h3, h4, hcb, z2, hgb⟩ := h.out
  have HCh : Hid (ChainAt w w1 cb fb fo F) := h.out.2
  have hn1 := HN.out.fr hF
  have hnd := hn1.node _ hsN
  have hB := begin10_pend (nd (sgn F 0)) cb gb kp sp cp (ev (sgn F 0)) (hv (sgn F 0)) N T R me (sgn F 0) md (rs (sgn F 0)) fa fn fc fb (fo + 4) _ _ _ (valF F) F z2 w1 (by omega) (by omega) hR0 hT hR (hn1.len _ hsN) hnd (hn1.heard _ hsN) (hn1.ext _ hsN) (hn1.refs _ hsN) ((hs.fr hF (by simp)).val htk.2) hcb hgb rfl hsk hcf
  clear hRt hsk htk hs hgb hcb h h1 h2 h3 h4 hn1 hnd hcf
  go_wp2_with fail
  refine hB.mono ?_
  rintro e w2 ⟨pb, rfl, hF2⟩
  clear hB
  go_wp2
  go_ret
  exact ⟨pb, rfl, cb, hF.trans hF2.out.1, hF2.out.2.2, HCh.out.fr hF2.out.1⟩
end Go.Proofs.YbulkdnmcFmt
