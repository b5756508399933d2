/- encoding/binary: littleEndian.Uint32, Uint64 (functions 16, 17). -/
import Derived.Test.YbulkdnloDoorBase
import Derived.Deep.RegionHeld3
import Derived.Deep.QuietTactic
import Derived.BigQuiet
import Derived.Lib.EndianBits
import Derived.Stop.LaidErr
namespace Go.Proofs.YbulkdnloDoor
open Go.RowKit
set_option linter.unusedSimpArgs false

def le4 (a b c d : Int) : Int := a + b * 256 + c * 65536 + d * 16777216
def le8 (a b c d e f g h : Int) : Int := a + b * 256 + c * 65536 + d * 16777216 + e * 4294967296 + f * 1099511627776 + g * 281474976710656 + h * 72057594037927936

set_option maxHeartbeats 8000000 in
set_option maxRecDepth 100000 in
theorem le32 (g o n c : Nat) (b0 b1 b2 b3 : Int) (w : World) (hn : 4 ≤ n)
    (h0 : 0 ≤ b0 ∧ b0 < 256) (h1 : 0 ≤ b1 ∧ b1 < 256) (h2 : 0 ≤ b2 ∧ b2 < 256) (h3 : 0 ≤ b3 ∧ b3 < 256)
    (c0 : w.cell? ⟨g, o, none⟩ = some (.int .u8 b0)) (c1 : w.cell? ⟨g, o + 1, none⟩ = some (.int .u8 b1)) (c2 : w.cell? ⟨g, o + 2, none⟩ = some (.int .u8 b2)) (c3 : w.cell? ⟨g, o + 3, none⟩ = some (.int .u8 b3)) :
    Calls Ybad.prog 16 #[.agg #[], .slice (some ⟨g, o, none⟩) n c] w fun e w' => e = .returned (.int .u32 (le4 b0 b1 b2 b3)) ∧ Fr [] w w' := by
  obtain ⟨h0, h0'⟩ := h0
  obtain ⟨h1, h1'⟩ := h1
  obtain ⟨h2, h2'⟩ := h2
  obtain ⟨h3, h3'⟩ := h3
  have d0 := cell?_alloc_old (.cells #[] 60) c0
  have d1 := cell?_alloc_old (.cells #[] 60) c1
  have d2 := cell?_alloc_old (.cells #[] 60) c2
  have d3 := cell?_alloc_old (.cells #[] 60) c3
  have q0 : 0 < n := by omega
  have q1 : (1 : Int) < (n : Int) := by omega
  have q2 : (2 : Int) < (n : Int) := by omega
  have q3 : (3 : Int) < (n : Int) := by omega
  go_enter Ybad.func16, Ybad.ntmps16
  go_wp2
  go_quiet (fail)
  go_wp2
  go_ret
  refine ⟨?_, ((Fr.refl _ w).alloc _).drewN _⟩
  simp (disch := omega) only [u32_wrap_id, u32_or8, u32_or16, u32_or24]
  unfold le4
  rfl

set_option maxHeartbeats 8000000 in
set_option maxRecDepth 100000 in
theorem le64 (g o n c : Nat) (b0 b1 b2 b3 b4 b5 b6 b7 : Int) (w : World) (hn : 8 ≤ n)
    (h0 : 0 ≤ b0 ∧ b0 < 256) (h1 : 0 ≤ b1 ∧ b1 < 256) (h2 : 0 ≤ b2 ∧ b2 < 256) (h3 : 0 ≤ b3 ∧ b3 < 256) (h4 : 0 ≤ b4 ∧ b4 < 256) (h5 : 0 ≤ b5 ∧ b5 < 256) (h6 : 0 ≤ b6 ∧ b6 < 256) (h7 : 0 ≤ b7 ∧ b7 < 256)
    (c0 : w.cell? ⟨g, o, none⟩ = some (.int .u8 b0)) (c1 : w.cell? ⟨g, o + 1, none⟩ = some (.int .u8 b1)) (c2 : w.cell? ⟨g, o + 2, none⟩ = some (.int .u8 b2)) (c3 : w.cell? ⟨g, o + 3, none⟩ = some (.int .u8 b3))
    (c4 : w.cell? ⟨g, o + 4, none⟩ = some (.int .u8 b4)) (c5 : w.cell? ⟨g, o + 5, none⟩ = some (.int .u8 b5)) (c6 : w.cell? ⟨g, o + 6, none⟩ = some (.int .u8 b6)) (c7 : w.cell? ⟨g, o + 7, none⟩ = some (.int .u8 b7)) :
    Calls Ybad.prog 17 #[.agg #[], .slice (some ⟨g, o, none⟩) n c] w fun e w' => e = .returned (.int .u64 (le8 b0 b1 b2 b3 b4 b5 b6 b7)) ∧ Fr [] w w' := by
  obtain ⟨h0, h0'⟩ := h0
  obtain ⟨h1, h1'⟩ := h1
  obtain ⟨h2, h2'⟩ := h2
  obtain ⟨h3, h3'⟩ := h3
  obtain ⟨h4, h4'⟩ := h4
  obtain ⟨h5, h5'⟩ := h5
  obtain ⟨h6, h6'⟩ := h6
  obtain ⟨h7, h7'⟩ := h7
  have d0 := cell?_alloc_old (.cells #[] 60) c0
  have d1 := cell?_alloc_old (.cells #[] 60) c1
  have d2 := cell?_alloc_old (.cells #[] 60) c2
  have d3 := cell?_alloc_old (.cells #[] 60) c3
  have d4 := cell?_alloc_old (.cells #[] 60) c4
  have d5 := cell?_alloc_old (.cells #[] 60) c5
  have d6 := cell?_alloc_old (.cells #[] 60) c6
  have d7 := cell?_alloc_old (.cells #[] 60) c7
  have q0 : 0 < n := by omega
  have q1 : (1 : Int) < (n : Int) := by omega
  have q2 : (2 : Int) < (n : Int) := by omega
  have q3 : (3 : Int) < (n : Int) := by omega
  have q4 : (4 : Int) < (n : Int) := by omega
  have q5 : (5 : Int) < (n : Int) := by omega
  have q6 : (6 : Int) < (n : Int) := by omega
  have q7 : (7 : Int) < (n : Int) := by omega
  go_enter Ybad.func17, Ybad.ntmps17
  go_wp2
  go_quiet (fail)
  go_wp2
  go_ret
  refine ⟨?_, ((Fr.refl _ w).alloc _).drewN _⟩
  simp (disch := omega) only [u64_wrap_id, u64_or8, u64_or16, u64_or24, u64_or32, u64_or40, u64_or48, u64_or56]
  unfold le8
  rfl
end Go.Proofs.YbulkdnloDoor
