/- bufio.NewReader (function 7). -/
import Derived.Test.YbulkdnloDoorNext
namespace Go.Proofs.YbulkdnloDoor
open Go.RowKit
set_option linter.unusedSimpArgs false

theorem Ybad.info5 : (Ybad.prog.info? 5).map (fun i => (i.zero, i.size, i.bytes)) = some (some (.int .u8 0), 1, 1) := by kernel_rfl
def zeroBuf : Array Value := madeCells (Value.int .u8 0).cells 4096
theorem zeroBuf_size : zeroBuf.size = 4096 := by exact size_madeCells _ _
theorem make_buf (w : World) : (Instr.makeSlice 22 (.int .i64 4096) (.int .i64 4096)).run Ybad.prog w = .ok (.slice (some ⟨w.heap.size, 0, none⟩) 4096 4096) (w.alloc (.cells zeroBuf 5)) := by
  obtain ⟨i, hi, hzz⟩ := Option.map_eq_some_iff.1 Ybad.info5
  simp only [Prod.mk.injEq] at hzz
  obtain ⟨hz, hs, hb⟩ := hzz
  have := run_make (P := Ybad.prog) w 22 5 i (.int .u8 0) Ybad.underlying22 hi hz .i64 .i64 4096 4096 (by decide) (by decide) (by rw [hb]; decide) (by decide)
  rw [this, hs]; rfl

theorem assert_rd (a : Addr) (w : World) : (Instr.typeAssert (.iface 30 (.pointer (some a))) 49 33 true).run Ybad.prog w = .ok (.tuple #[.pointer none, .bool false]) w := by kernel_rfl

set_option maxRecDepth 100000 in
set_option maxHeartbeats 2000000 in
theorem newReader_any (S : Nat) (w : World) :
    Calls Ybad.prog 7 #[.iface 30 (.pointer (some ⟨S, 0, none⟩))] w fun e w' => e = .returned (.pointer (some ⟨w.heap.size, 0, none⟩)) ∧ Hid (Fr [] w w' ∧ w'.heap.size = w.heap.size + 2 ∧
      Blk w' w.heap.size [.slice (some ⟨w.heap.size + 1, 0, none⟩) 4096 4096, .iface 30 (.pointer (some ⟨S, 0, none⟩)), .int .i64 0, .int .i64 0, .nilIface, .int .i64 (-1), .int .i64 (-1)] 56 ∧
      Blk w' (w.heap.size + 1) zeroBuf.toList 5) := by
  have hmk := make_buf
  have hta := assert_rd
  go_enter Ybad.func7, Ybad.ntmps7
  go_wp2
  go_end0
  go_wp2
  go_ret
  refine ⟨rfl, ((Fr.refl _ _).alloc _).alloc _, by simp, (Blk.new w _ 56).alloc _, ?_⟩
  simpa using Blk.new (w.alloc (.cells #[.slice (some ⟨w.heap.size + 1, 0, none⟩) 4096 4096, .iface 30 (.pointer (some ⟨S, 0, none⟩)), .int .i64 0, .int .i64 0, .nilIface, .int .i64 (-1), .int .i64 (-1)] 56)) zeroBuf 5
end Go.Proofs.YbulkdnloDoor
