/- The signers of a frame (plain); make of zero cells; a struct out of a row; two arrays alike. -/
import Derived.Test.YbulkdnmcFmtDo
import Derived.Deep.WholeRow
namespace Go.Proofs.YbulkdnmcFmt
open Go.RowKit
set_option linter.unusedSimpArgs false
set_option linter.unusedVariables false

/-- Is x among the first i signers? -/
def seenB (F : List UInt8) (i x : Nat) : Bool := (List.range i).any fun j => sgn F j == x
/-- Signer i may stand there. -/
def GoodS (F : List UInt8) (N T s : Nat) (md : Int) (i : Nat) : Prop := sgn F i < N ∧ seenB F i (sgn F i) = false ∧ act md T s (sgn F i) = true
def Conf (F : List UInt8) (N T s : Nat) (md : Int) (R : Nat) : Prop := cnt F = R ∧ ∀ i, i < cnt F → GoodS F N T s md i
/-- The row of marks. -/
def SeenC (F : List UInt8) (N i : Nat) : List Value := (List.range N).map fun x => .bool (seenB F i x)

theorem SeenC.length (F : List UInt8) (N i : Nat) : (SeenC F N i).length = N := by simp [SeenC]
theorem SeenC.get (F : List UInt8) (N i : Nat) {x : Nat} (h : x < N) : (SeenC F N i)[x]? = some (.bool (seenB F i x)) := by simp [SeenC, h]
theorem seenB_succ (F : List UInt8) (i x : Nat) : seenB F (i + 1) x = (seenB F i x || sgn F i == x) := by
  unfold seenB
  rw [List.range_succ, List.any_append]
  simp
theorem SeenC.set (F : List UInt8) (N i : Nat) : (SeenC F N i).set (sgn F i) (.bool true) = SeenC F N (i + 1) := by
  apply List.ext_getElem?
  intro x
  by_cases hx : x < N
  · rw [SeenC.get F N (i + 1) hx, seenB_succ]
    by_cases h : sgn F i = x
    · subst h
      rw [List.getElem?_set_self (by rw [SeenC.length]; exact hx)]
      simp
    · rw [List.getElem?_set_ne h, SeenC.get F N i hx]
      simp [h]
  · rw [List.getElem?_eq_none (by rw [List.length_set, SeenC.length]; omega), List.getElem?_eq_none (by rw [SeenC.length]; omega)]

theorem inf4 : (Ybaf.prog.info? 4).map (fun i => (i.zero, i.size, i.bytes)) = some (some (.bool false), 1, 1) := by kernel_rfl
theorem mkBool (F : List UInt8) (N : Nat) (hN : N < 1000) : ∃ X : Obj, (∀ w, (Instr.makeSlice 69 (.int .i64 N) (.int .i64 N)).run Ybaf.prog w = .ok (.slice (some ⟨w.heap.size, 0, none⟩) N N) (w.alloc X)) ∧ ∀ w : World, Blk (w.alloc X) w.heap.size (SeenC F N 0) 4 := by
  obtain ⟨i, hi, hx⟩ := Option.map_eq_some_iff.1 inf4
  simp only [Prod.mk.injEq] at hx
  obtain ⟨h1, h2, h3⟩ := hx
  refine ⟨.cells (madeCells (Value.bool false).cells (N * 1)) 4, fun w => ?_, fun w => ?_⟩
  · have h := run_make (P := Ybaf.prog) w 69 4 i (.bool false) Ybaf.underlying69 hi h1 .i64 .i64 (N : Int) (N : Int) (by omega) (by omega) (by rw [h3]; omega) (by omega)
    rw [h2, Int.toNat_natCast] at h
    exact h
  · have h := Blk.new w (madeCells (Value.bool false).cells (N * 1)) 4
    refine h.congr ?_
    simp [madeCells, SeenC, seenB, Value.cells, Nat.mod_one]

/-- The cells of signature i. -/
def sigC (F : List UInt8) (i : Nat) : List Value := (List.range 65).map fun j => dcG F (i * 65 + j)
theorem sigC_len (F : List UInt8) (i : Nat) : (sigC F i).length = 65 := by simp [sigC]
theorem dcG_one (F : List UInt8) (m : Nat) : (dcG F m).oneCell' = true := by unfold dcG; split <;> rfl
theorem dcG_head (F : List UInt8) (i : Nat) : dcG F (i * 65) = .int .i64 (sgn F i) := by
  unfold dcG
  rw [show i * 65 % 65 = 0 by omega, show i * 65 / 65 = i by omega]
  simp
theorem dcG_byte (F : List UInt8) (i j : Nat) (hj : j < 64) : dcG F (i * 65 + 1 + j) = .int .u8 (sgb F i j).toNat := by
  unfold dcG
  rw [show (i * 65 + 1 + j) % 65 = 1 + j by omega, show (i * 65 + 1 + j) / 65 = i by omega]
  simp
theorem sigC_all (F : List UInt8) (i : Nat) : (sigC F i).toArray.all (·.oneCell') = true := by
  simp [sigC]
  intro x _
  exact dcG_one F _
theorem sigC_head (F : List UInt8) (i : Nat) : (sigC F i)[0]? = some (.int .i64 (sgn F i)) := by
  simp [sigC]
  exact dcG_head F i
theorem load82 {w : World} {gb c p i : Nat} {F : List UInt8} {z : Nat → Value} (h : Blk w gb (Pre (c * 65) (c * 65) (dcG F) z) 82) (hi : i < c) :
    (loadCellsFrom ⟨gb, i * 65, none⟩ 0 65 #[]).run Ybaf.prog w = .ok (sigC F i).toArray w := by
  have := run_loadCells_list (P := Ybaf.prog) (w := w) ⟨gb, i * 65, none⟩ (sigC F i) (fun j v hv => by
    have hj : j < 65 := by have := (List.getElem?_eq_some_iff.1 hv).1; rw [sigC_len] at this; exact this
    rw [Addr.add_mid', h.preOk (by omega) (by omega)]
    simpa [sigC, hj] using hv)
  rw [sigC_len] at this
  simpa [loadCells] using this
end Go.Proofs.YbulkdnmcFmt
