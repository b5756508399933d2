/- LawS5723CWhole (function 4): the walk. -/
import Derived.Test.YbulkdnmqSame
namespace Go.Proofs.Ybulkdnmq
open Go.RowKit Go.MuLone

theorem jc_state (st st' : Int) (x0 x1 x2 x3 x4 x5 x6 : Int) (y0 y1 : Bool) : (jc st x0 x1 x2 x3 x4 x5 x6 y0 y1).set 5 (.int .i32 st') = jc st' x0 x1 x2 x3 x4 x5 x6 y0 y1 := rfl

theorem size_blk (b : Nat) (x0 x1 x2 x3 x4 x5 x6 : Int) (y0 y1 : Bool) (w : World) (h : Blk w b (jc 0 x0 x1 x2 x3 x4 x5 x6 y0 y1) 81) :
    Calls Yba.prog 13 #[.pointer (some ⟨b, 0, none⟩)] w fun e w' => e = .returned (.int .i64 x0) ∧ Hid (Fr [b] w w' ∧ Blk w' b (jc 0 x0 x1 x2 x3 x4 x5 x6 y0 y1) 81) := by
  refine (size_any b x0 w (h.cell 5 rfl) (h.frozen 5) (h.cell 26 rfl)).mono ?_
  rintro e w' ⟨rfl, rfl⟩
  exact ⟨rfl, ((Fr.refl _ _).setCell (by simp) _).setCell (by simp) _, ((h.setCell 5 _).setCell 5 _).congr rfl⟩
theorem try_blk (b : Nat) (x0 x1 x2 x3 x4 x5 x6 : Int) (y0 y1 : Bool) (w : World) (h : Blk w b (jc 0 x0 x1 x2 x3 x4 x5 x6 y0 y1) 81) :
    Calls Yba.prog 15 #[.pointer (some ⟨b, 5, none⟩)] w fun e w' => e = .returned (.bool true) ∧ Hid (Fr [b] w w' ∧ Blk w' b (jc 1 x0 x1 x2 x3 x4 x5 x6 y0 y1) 81) := by
  refine (tryLock_free b 5 w (h.cell 5 rfl) (h.frozen 5)).mono ?_
  rintro e w' ⟨rfl, rfl⟩
  exact ⟨rfl, (Fr.refl _ _).setCell (by simp) _, (h.setCell 5 _).congr rfl⟩
theorem unlock_blk (b : Nat) (x0 x1 x2 x3 x4 x5 x6 : Int) (y0 y1 : Bool) (w : World) (h : Blk w b (jc 1 x0 x1 x2 x3 x4 x5 x6 y0 y1) 81) :
    Calls Yba.prog 16 #[.pointer (some ⟨b, 5, none⟩)] w fun e w' => e = .returned (.tuple #[]) ∧ Hid (Fr [b] w w') := by
  refine (unlock_held Yba.muLib ⟨b, 5, none⟩ w (h.cell 5 rfl) (h.frozen 5)).mono ?_
  rintro e w' ⟨rfl, rfl⟩
  exact ⟨rfl, (Fr.refl _ _).setCell (by simp) _⟩

set_option maxRecDepth 100000 in
set_option maxHeartbeats 3200000 in
theorem law_any (x0 x1 x2 x3 x4 x5 x6 : Int) (y0 y1 : Bool) (w : World) :
    Calls Yba.prog 4 #[.agg #[.int .i64 x0, .int .i64 x1, .int .u64 x2, .int .u64 x3, .int .u64 x4, .int .u64 x5, .int .u64 x6, .bool y0, .bool y1]] w fun e w' => e = .returned (.bool true) ∧ Below w.heap.size w w' := by
  have t1 : (x0 != x0) = false := by simp
  obtain ⟨b0, hb0⟩ : ∃ b0, w.heap.size = b0 := ⟨_, rfl⟩
  go_enter Yba.func4, Yba.ntmps4
  go_wp2_with (first | (go_at_call 12; refine (build_any x0 x1 x2 x3 x4 x5 x6 y0 y1 _).mono ?_; rintro e w1 ⟨rfl, HB⟩))
  have hJ1 : Blk w1 (b0 + 1 + 1) (jc 0 x0 x1 x2 x3 x4 x5 x6 y0 y1) 81 := by
    have := HB.out.2
    rw [World.size_alloc, hb0] at this
    exact this
  have hP1 : Blk w1 b0 [.int .i64 x0, .int .i64 x1, .int .u64 x2, .int .u64 x3, .int .u64 x4, .int .u64 x5, .int .u64 x6, .bool y0, .bool y1] 57 := by
    have := Blk.new w #[.int .i64 x0, .int .i64 x1, .int .u64 x2, .int .u64 x3, .int .u64 x4, .int .u64 x5, .int .u64 x6, .bool y0, .bool y1] 57
    rw [hb0] at this
    exact HB.out.1.blk this (by simp)
  have hF1 : Hid (Fr [b0 + 1 + 1] w w1) := ((Fr.refl _ _).alloc _).trans (HB.out.1.mono (by simp))
  clear HB
  refine (size_blk (b0 + 1 + 1) x0 x1 x2 x3 x4 x5 x6 y0 y1 w1 hJ1).mono ?_
  rintro e w2 ⟨rfl, HS⟩
  have hJ2 := HS.out.2
  have hP2 := HS.out.1.blk hP1 (by simp; omega)
  have hF2 : Hid (Fr [b0 + 1 + 1] w w2) := hF1.out.trans HS.out.1
  clear HS hJ1 hP1 hF1
  have p0 := hP2.cell 0 rfl
  have p1 := hP2.cell 1 rfl
  have p2 := hP2.cell 2 rfl
  have p3 := hP2.cell 3 rfl
  have p4 := hP2.cell 4 rfl
  have p5 := hP2.cell 5 rfl
  have p6 := hP2.cell 6 rfl
  have p7 := hP2.cell 7 rfl
  have p8 := hP2.cell 8 rfl
  go_wp2_with fail
  refine (same_any (b0 + 1 + 1) x0 x1 x2 x3 x4 x5 x6 y0 y1 w2 hJ2).mono ?_
  rintro e w3 ⟨rfl, hFs⟩
  have hJ3 := hFs.blk hJ2 (by simp)
  have hF3 : Hid (Fr [b0 + 1 + 1] w w3) := hF2.out.trans (hFs.mono (by simp))
  clear hFs hJ2 hP2 hF2 p0 p1 p2 p3 p4 p5 p6 p7 p8
  go_wp2_with fail
  refine (try_blk (b0 + 1 + 1) x0 x1 x2 x3 x4 x5 x6 y0 y1 w3 hJ3).mono ?_
  rintro e w4 ⟨rfl, HS⟩
  have hJ4 := HS.out.2
  have hF4 : Hid (Fr [b0 + 1 + 1] w w4) := hF3.out.trans HS.out.1
  clear HS hJ3 hF3
  go_wp2_with fail
  refine (unlock_blk (b0 + 1 + 1) x0 x1 x2 x3 x4 x5 x6 y0 y1 w4 hJ4).mono ?_
  rintro e w5 ⟨rfl, HS⟩
  have hF5 : Hid (Fr [b0 + 1 + 1] w w5) := hF4.out.trans HS.out
  clear HS hJ4 hF4
  go_wp2
  go_ret
  exact ⟨rfl, hF5.out.below (Nat.le_refl _) (by simp; omega)⟩
end Go.Proofs.Ybulkdnmq
