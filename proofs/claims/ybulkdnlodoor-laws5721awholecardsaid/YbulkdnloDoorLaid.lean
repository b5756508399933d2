/- From the row's condition on the listed variables to what the walks ask. -/
import Derived.Test.YbulkdnloDoorIn
import Derived.ProofKit
import Derived.LaidMore
import Derived.LaidLaws
import Derived.OpenShut
import Derived.ChangeOld
import Derived.Stop.Joined
import Derived.Stop.LaidErr
namespace Go.Proofs.YbulkdnloDoor
open Go.ChangeShapes Go.WideShapes Go.ChangeAt Go.RowKit
set_option linter.unusedVariables false

theorem own : ownKnob Ybad.prog.godebug = none := by kernel_rfl
theorem laidOut : laidOutB Ybad.prog = true := by kernel_rfl
theorem gShort : Ybad.prog.globalNamed "io.ErrShortBuffer" = some 3 := by kernel_rfl
theorem gEOF : Ybad.prog.globalNamed "io.EOF" = some 0 := by kernel_rfl
theorem gUnex : Ybad.prog.globalNamed "io.ErrUnexpectedEOF" = some 1 := by kernel_rfl
theorem tShort : (Ybad.prog.globals[3]?).map (·.type) = some 28 := by kernel_rfl
theorem tEOF : (Ybad.prog.globals[0]?).map (·.type) = some 28 := by kernel_rfl
theorem tUnex : (Ybad.prog.globals[1]?).map (·.type) = some 28 := by kernel_rfl
theorem cells47 : Ybad.prog.cellsOf 47 = 1 := by kernel_rfl
theorem cells9 : Ybad.prog.cellsOf 9 = 1 := by kernel_rfl
/-- The name that the listed errors' type bears. -/
def errName : String := match (Rows.laid_io_EOF : DataW Unit) with | .iface n _ => n | _ => ""
theorem row45 (u : TypeId) (h : Ybad.prog.typeName? 3 u = some errName) : u = 45 :=
  typeName_ptr_named (nm := "errors.errorString") (by kernel_rfl) (by kernel_rfl) (by decide) u h
def laid3 : List (String × DataW Unit) := Rows.lawS5721ASeqRow.laid

/-- The door's own heap meets the condition. -/
theorem door_met (os : Os) (args : Array Value) : laidMetH Ybad.prog laid3 ((World.doorLaid Ybad.prog 85 os).forCall (fun _ _ => 0) ⟨#[], args, []⟩).memory :=
  laidMetH_of_parts3 (fuel := 8) (laidMet_of_run' 8 (by kernel_rfl) (by kernel_rfl)) (by kernel_rfl) (by kernel_rfl)

theorem sentinels {W : World} (h : laidMetH Ybad.prog laid3 W) : ∃ aE aU : Addr, W.cell? ⟨0, 0, none⟩ = some (.iface 45 (.pointer (some aE))) ∧ W.cell? ⟨1, 0, none⟩ = some (.iface 45 (.pointer (some aU))) ∧
    (∃ cs t, Blk W aE.block cs t) ∧ (∃ cs t, Blk W aU.block cs t) ∧ aE ≠ aU := by
  rw [MakeChecks.laidMetH_plain _ _ _ (by kernel_rfl)] at h
  obtain ⟨ps, ⟨g2, t2, cs2, f2, p2, q2, hg2, ht2, hv2, hd2, ⟨g0, t0, cs0, f0, p0, q0, hg0, ht0, hv0, hd0, ⟨g1, t1, cs1, f1, p1, q1, hg1, ht1, hv1, hd1, hq1, e1⟩, e0⟩, e2⟩, hnd, hrows⟩ := h
  obtain rfl := Option.some.inj (gShort.symm.trans hg2)
  obtain rfl := Option.some.inj (gEOF.symm.trans hg0)
  obtain rfl := Option.some.inj (gUnex.symm.trans hg1)
  obtain rfl := Option.some.inj (tShort.symm.trans ht2)
  obtain rfl := Option.some.inj (tEOF.symm.trans ht0)
  obtain rfl := Option.some.inj (tUnex.symm.trans ht1)
  have hq1' : q1 = [] := hq1
  subst hq1'
  subst e1
  subst e0
  subst e2
  obtain ⟨l0⟩ := cs0
  obtain ⟨l1⟩ := cs1
  have ok0 : ∀ u v, l0 = [.iface u v] → Value.okWide Ybad.prog W .any 0 u v := fun u v e => by
    subst e
    exact (hrows 0 0 (by simp [MemPlace.row])).2 u v (by simpa using World.var?_cell hg0 hv0 0)
  have ok1 : ∀ u v, l1 = [.iface u v] → Value.okWide Ybad.prog W .any 0 u v := fun u v e => by
    subst e
    exact (hrows 1 0 (by simp [MemPlace.row])).2 u v (by simpa using World.var?_cell hg1 hv1 0)
  obtain ⟨a0, s0, rfl, hc0, hs0, hz0, rfl⟩ := errorString_of_trod Ybad.underlying28 row45 Ybad.underlying45 Ybad.underlying47 rfl rfl Ybad.underlying9 cells47 cells9 hd0 ok0
  obtain ⟨a1, s1, rfl, hc1, hs1, hz1, rfl⟩ := errorString_of_trod Ybad.underlying28 row45 Ybad.underlying45 Ybad.underlying47 rfl rfl Ybad.underlying9 cells47 cells9 hd1 ok1
  obtain ⟨c0, t0, hb0⟩ := (hrows a0.block a0.off (by simp [MemPlace.row])).1
  obtain ⟨c1, t1, hb1⟩ := (hrows a1.block a1.off (by simp [MemPlace.row])).1
  refine ⟨a0, a1, by simpa using World.var?_cell hg0 hv0 0, by simpa using World.var?_cell hg1 hv1 0, ⟨c0.toList, t0, by simpa [Blk] using hb0⟩, ⟨c1.toList, t1, by simpa [Blk] using hb1⟩, ?_⟩
  rintro rfl
  rw [hc0] at hc1
  have hss : s0 = s1 := by simpa using hc1
  rw [hss, hs1] at hs0
  simp at hs0

theorem addr_none {W : World} {x : Addr} {v : Value} (h : W.cell? x = some v) : x = ⟨x.block, x.off, none⟩ := by
  obtain ⟨b, o, sp⟩ := x
  cases sp with
  | none => rfl
  | some z =>
    exfalso
    unfold World.cell? at h
    split at h
    · simp at h
    · cases h

/-- The slice of bytes that came in, opened. -/
theorem in_of {H : Type} {enc : TypeId × Value → H} {W : World} {a0 : Option Addr} {len0 cap0 fuel : Nat} {base : Nat} {sp : Nat → Bool} {b : Bool} {y : DataW H × List MemPlace} {aE aU : Addr}
    (hf : DataW.trod enc Ybad.prog W base sp b fuel 22 (Value.slice a0 len0 cap0).cells.toList = some y)
    (g0 : W.cell? ⟨0, 0, none⟩ = some (.iface 45 (.pointer (some aE)))) (g1 : W.cell? ⟨1, 0, none⟩ = some (.iface 45 (.pointer (some aU)))) (bE : ∃ cs t, Blk W aE.block cs t) (bU : ∃ cs t, Blk W aU.block cs t) (hne : aE ≠ aU) :
    ∃ db off zs, len0 ≤ maxLen ∧ In W a0 len0 cap0 db off zs aE aU := by
  rcases open_ints Ybad.underlying22 Ybad.underlying5 (by kernel_rfl) hf with ⟨hcs, _⟩ | ⟨x, l, c, zs, hcs, _, hl, hm, hz, _, hcell, hwz⟩
  · simp [Value.cells] at hcs
    obtain ⟨rfl, rfl, rfl⟩ := hcs
    exact ⟨0, 0, [], by decide, ⟨fun h => by omega, rfl, Nat.le_refl _, fun i hi => by omega, fun i => by simp, g0, g1, bE, bU, hne⟩⟩
  · simp [Value.cells] at hcs
    obtain ⟨rfl, rfl, rfl⟩ := hcs
    have hzl : len0 ≤ zs.length := by rw [hz]; split <;> omega
    refine ⟨x.block, x.off, zs.take len0, by omega, ⟨fun h => ?_, by simp; omega, hl, fun i hi => ?_, fun i => ?_, g0, g1, bE, bU, hne⟩⟩
    · have := hcell 0 (by omega)
      rw [show x.add 0 = x from rfl] at this
      rw [addr_none this]
    · have hx := hcell 0 (by omega)
      rw [show x.add 0 = x from rfl] at hx
      have e := addr_none hx
      have := hcell i (by omega)
      rw [e, Addr.add_mid'] at this
      rw [this]
      simp [List.getD, hi]
    · by_cases hi : i < len0
      · have hlt : i < zs.length := by omega
        have hb := bounds_u8 (hwz (zs.getD i 0) (by simp [List.getD, hlt]))
        simp [List.getD, hi, hlt] at hb ⊢
        omega
      · rw [List.getD, List.getElem?_eq_none (by simp; omega)]; simp

end Go.Proofs.YbulkdnloDoor
