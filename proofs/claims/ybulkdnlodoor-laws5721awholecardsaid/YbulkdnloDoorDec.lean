/- DecodeRecord (function 13). -/
import Derived.Test.YbulkdnloDoorLe
namespace Go.Proofs.YbulkdnloDoor
open Go.RowKit
set_option linter.unusedSimpArgs false

/-- Blocks that were not there need not be named. -/
theorem Fr.drop {own : List Nat} {w w' : World} (h : Fr own w w') (hn : ∀ k ∈ own, w.heap.size ≤ k) : Fr [] w w' :=
  ⟨h.os, h.tape, h.output, h.size, fun k hk _ => h.block k hk (fun hm => by have := hn k hm; omega)⟩
/-- Twelve bytes lie there. -/
def By (w : World) (g o : Nat) (f : Nat → Int) : Prop := ∀ i, i < 12 → w.cell? ⟨g, o + i, none⟩ = some (.int .u8 (f i))
theorem By.fr {w w' : World} {g o : Nat} {f : Nat → Int} (h : By w g o f) {own : List Nat} (hF : Fr own w w') (hn : g ∉ own) : By w' g o f := fun i hi => by
  rw [hF.cell (p := ⟨g, o + i, none⟩) (World.block_lt_of_cell? w _ (h i hi)) hn]; exact h i hi
theorem By.alloc {w : World} {g o : Nat} {f : Nat → Int} (h : By w g o f) (x : Obj) : By (w.alloc x) g o f := h.fr ((Fr.refl [] w).alloc x) (by simp)
def recKey (f : Nat → Int) : Int := le4 (f 0) (f 1) (f 2) (f 3)
def recOff (f : Nat → Int) : Int := le8 (f 4) (f 5) (f 6) (f 7) (f 8) (f 9) (f 10) (f 11)

theorem Ybad.under60 : Ybad.prog.underlying 60 = some (.struct #[]) := by kernel_rfl

theorem le32b (g o n c : Nat) (f : Nat → Int) (hf : ∀ i, 0 ≤ f i ∧ f i < 256) (w : World) (hb : By w g o f) (hn : 4 ≤ n) :
    Calls Ybad.prog 16 #[.agg #[], .slice (some ⟨g, o, none⟩) n c] w fun e w' => e = .returned (.int .u32 (recKey f)) ∧ Fr [] w w' :=
  le32 g o n c (f 0) (f 1) (f 2) (f 3) w hn (hf _) (hf _) (hf _) (hf _) (hb 0 (by omega)) (hb 1 (by omega)) (hb 2 (by omega)) (hb 3 (by omega))
theorem le64b (g o n c : Nat) (f : Nat → Int) (hf : ∀ i, 0 ≤ f i ∧ f i < 256) (w : World) (hb : By w g o f) (hn : 8 ≤ n) :
    Calls Ybad.prog 17 #[.agg #[], .slice (some ⟨g, o + 4, none⟩) n c] w fun e w' => e = .returned (.int .u64 (recOff f)) ∧ Fr [] w w' :=
  le64 g (o + 4) n c (f 4) (f 5) (f 6) (f 7) (f 8) (f 9) (f 10) (f 11) w hn (hf _) (hf _) (hf _) (hf _) (hf _) (hf _) (hf _) (hf _) (hb 4 (by omega)) (hb 5 (by omega)) (hb 6 (by omega)) (hb 7 (by omega)) (hb 8 (by omega)) (hb 9 (by omega)) (hb 10 (by omega)) (hb 11 (by omega))

set_option maxHeartbeats 2000000 in
set_option maxRecDepth 100000 in
/-- DecodeRecord. -/
theorem decode_rec (g o n c : Nat) (f : Nat → Int) (hf : ∀ i, 0 ≤ f i ∧ f i < 256) (w : World) (hb : By w g o f) (hn : 12 ≤ n) (hnc : n ≤ c) :
    Calls Ybad.prog 13 #[.slice (some ⟨g, o, none⟩) n c] w fun e w' => e = .returned (.agg #[.int .u32 (recKey f), .int .u64 (recOff f)]) ∧ Fr [] w w' := by
  have q4 : (4 : Int) ≤ (n : Int) := by omega
  have q5 : (n : Int) ≤ (c : Int) := by omega
  have n4 : ¬ (4 = c) := by omega
  have hlt : g < w.heap.size := World.block_lt_of_cell? w _ (hb 0 (by omega))
  go_enter Ybad.func13, Ybad.ntmps13
  go_wp2
  go_region_held3 (fun w' => By w' g o f) (first | exact hb.alloc _ | (refine By.fr ?_ (by assumption) (by simp); assumption) | (refine By.fr (own := [w.heap.size]) ?_ (((Fr.refl _ _).setCell (by simp) _).setCell (by simp) _) (by simp; omega); assumption))
    (first
      | (go_at_call 16; refine (le32b g o n c f hf _ (by assumption) (by omega)).mono ?_; rintro e w1 ⟨rfl, hF1⟩)
      | (go_at_call 17; refine (le64b g o (n - 4) (c - 4) f hf _ (by assumption) (by omega)).mono ?_; rintro e w2 ⟨rfl, hF2⟩; have hB2 := hF2.blk (hF1.blk ((Blk.new w _ 37).drew) (by simp)) (by simp); have k0 := hB2.cell 0 rfl; have k1 := hB2.cell 1 rfl; have l0 := hB2.frozen 0; have l1 := hB2.frozen 1))
  go_wp2
  exact bodyPost_ret (v := .agg #[.int .u32 (recKey f), .int .u64 (recOff f)]) (by simp [results, Ybad.results13, go_sem, k0, k1]) rfl ⟨rfl,
    Fr.drop (((((((Fr.refl [w.heap.size] w).alloc _).drew).trans (hF1.mono (by simp))).trans (hF2.mono (by simp))).setCell (by simp) _).setCell (by simp) _) (by simp)⟩
end Go.Proofs.YbulkdnloDoor
