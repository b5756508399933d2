/- zzs5723csame (function 14). -/
import Derived.Test.YbulkdnmqLex
import Derived.Deep.QuietTactic
import Derived.BigQuiet
namespace Go.Proofs.Ybulkdnmq
open Go.RowKit Go.MuLone

theorem slice_nil_eq (w : World) : (binOp .eql 22 (.slice none 0 0) (.slice none 0 0)).run Yba.prog w = .ok (.bool true) w := by kernel_rfl

set_option maxRecDepth 100000 in
set_option maxHeartbeats 3200000 in
/-- zzs5723csame. -/
theorem same_any (b : Nat) (x0 x1 x2 x3 x4 x5 x6 : Int) (y0 y1 : Bool) (w : World) (hb : Blk w b (jc 0 x0 x1 x2 x3 x4 x5 x6 y0 y1) 81) :
    Calls Yba.prog 14 #[.pointer (some ⟨b, 0, none⟩), .agg #[.int .i64 x0, .int .i64 x1, .int .u64 x2, .int .u64 x3, .int .u64 x4, .int .u64 x5, .int .u64 x6, .bool y0, .bool y1]] w fun e w' => e = .returned (.bool true) ∧ Fr [] w w' := by
  have hlt := hb.lt
  have c21 := hb.cell 21 rfl
  have c23 := hb.cell 23 rfl
  have c24 := hb.cell 24 rfl
  have c25 := hb.cell 25 rfl
  have c26 := hb.cell 26 rfl
  have c27 := hb.cell 27 rfl
  have c28 := hb.cell 28 rfl
  have c29 := hb.cell 29 rfl
  have c30 := hb.cell 30 rfl
  have c32 := hb.cell 32 rfl
  have c34 := hb.cell 34 rfl
  have t0 : (x0 == x0) = true := by simp
  have t1 : (x1 == x1) = true := by simp
  have t2 : (x2 == x2) = true := by simp
  have t3 : (x3 == x3) = true := by simp
  have t4 : (x4 == x4) = true := by simp
  have t5 : (x5 == x5) = true := by simp
  have t6 : (x6 == x6) = true := by simp
  have t7 : (y0 == y0) = true := by simp
  have t8 : (y1 == y1) = true := by simp
  have hsn := slice_nil_eq
  go_enter Yba.func14, Yba.ntmps14
  go_wp2
  simp only [List.append_eq, List.cons_append, List.nil_append]
  refine wp_region_quiet_lit (by kernel_rfl) (by exact lex14) ?_
  repeat (go_big_quiet_step (fail))
  refine wpQuiet_nil ?_
  intro _ hw'
  obtain ⟨nq, hw''⟩ := hw'
  subst hw''
  go_wp2
  go_ret
  exact ⟨by simp, ((Fr.refl _ _).alloc _).drewN _⟩
end Go.Proofs.Ybulkdnmq
