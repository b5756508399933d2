/- zzs5721adecode (function 10). -/
import Derived.Test.YbulkdnloDoorDec
namespace Go.Proofs.YbulkdnloDoor
open Go.RowKit
set_option linter.unusedSimpArgs false

theorem u32_join8 (x y : Int) (hy₀ : 0 ≤ y) (hy : y < 256) (hx₀ : 0 ≤ x) (hx : x % 256 = 0) (hx₁ : x < 4294967296) : bits .or .u32 x y = x + y :=
  bits_join .u32 32 (by decide) wraps_u32 8 x y hx₀ hx hx₁ hy₀ hy (by omega)
theorem u64_join8 (x y : Int) (hy₀ : 0 ≤ y) (hy : y < 256) (hx₀ : 0 ≤ x) (hx : x % 256 = 0) (hx₁ : x < 18446744073709551616) : bits .or .u64 x y = x + y :=
  bits_join .u64 64 (by decide) wraps_u64 8 x y hx₀ hx hx₁ hy₀ hy (by omega)

set_option maxHeartbeats 4000000 in
set_option maxRecDepth 100000 in
/-- zzs5721adecode. -/
theorem law_decode (g o n c : Nat) (f : Nat → Int) (hf : ∀ i, 0 ≤ f i ∧ f i < 256) (w : World) (hb : By w g o f) (hn : 12 ≤ n) :
    Calls Ybad.prog 10 #[.slice (some ⟨g, o, none⟩) n c] w fun e w' => e = .returned (.agg #[.int .u32 (recKey f), .int .u64 (recOff f)]) ∧ Fr [] w w' := by
  have hlt : g < w.heap.size := World.block_lt_of_cell? w _ (hb 0 (by omega))
  have c0 := hb.alloc (.cells #[Value.int IntKind.u32 0, Value.int IntKind.u64 0] 37) 0 (by omega)
  have c1 := hb.alloc (.cells #[Value.int IntKind.u32 0, Value.int IntKind.u64 0] 37) 1 (by omega)
  have c2 := hb.alloc (.cells #[Value.int IntKind.u32 0, Value.int IntKind.u64 0] 37) 2 (by omega)
  have c3 := hb.alloc (.cells #[Value.int IntKind.u32 0, Value.int IntKind.u64 0] 37) 3 (by omega)
  have c4 := hb.alloc (.cells #[Value.int IntKind.u32 0, Value.int IntKind.u64 0] 37) 4 (by omega)
  have c5 := hb.alloc (.cells #[Value.int IntKind.u32 0, Value.int IntKind.u64 0] 37) 5 (by omega)
  have c6 := hb.alloc (.cells #[Value.int IntKind.u32 0, Value.int IntKind.u64 0] 37) 6 (by omega)
  have c7 := hb.alloc (.cells #[Value.int IntKind.u32 0, Value.int IntKind.u64 0] 37) 7 (by omega)
  have c8 := hb.alloc (.cells #[Value.int IntKind.u32 0, Value.int IntKind.u64 0] 37) 8 (by omega)
  have c9 := hb.alloc (.cells #[Value.int IntKind.u32 0, Value.int IntKind.u64 0] 37) 9 (by omega)
  have c10 := hb.alloc (.cells #[Value.int IntKind.u32 0, Value.int IntKind.u64 0] 37) 10 (by omega)
  have c11 := hb.alloc (.cells #[Value.int IntKind.u32 0, Value.int IntKind.u64 0] 37) 11 (by omega)
  simp only [Nat.add_zero] at c0
  have q0 : 0 < n := by omega
  have q1 : (1 : Int) < (n : Int) := by omega
  have q2 : (2 : Int) < (n : Int) := by omega
  have q3 : (3 : Int) < (n : Int) := by omega
  have q4 : (4 : Int) < (n : Int) := by omega
  have q5 : (5 : Int) < (n : Int) := by omega
  have q6 : (6 : Int) < (n : Int) := by omega
  have q7 : (7 : Int) < (n : Int) := by omega
  have q8 : (8 : Int) < (n : Int) := by omega
  have q9 : (9 : Int) < (n : Int) := by omega
  have q10 : (10 : Int) < (n : Int) := by omega
  have q11 : (11 : Int) < (n : Int) := by omega
  have f0 := hf 0
  have f1 := hf 1
  have f2 := hf 2
  have f3 := hf 3
  have f4 := hf 4
  have f5 := hf 5
  have f6 := hf 6
  have f7 := hf 7
  have f8 := hf 8
  have f9 := hf 9
  have f10 := hf 10
  have f11 := hf 11
  go_enter Ybad.func10, Ybad.ntmps10
  go_wp2
  go_loop [3, 4] (fun k i => (i = .int .i64 3 ∧ k = .int .u32 (0)) ∨ (i = .int .i64 2 ∧ k = .int .u32 (f 3)) ∨ (i = .int .i64 1 ∧ k = .int .u32 (f 3 * 256 + f 2)) ∨ (i = .int .i64 0 ∧ k = .int .u32 ((f 3 * 256 + f 2) * 256 + f 1)) ∨ (i = .int .i64 (-1) ∧ k = .int .u32 (recKey f))) (fun _ i => (intOf i + 1).toNat)
  case atStart => exact Or.inl ⟨rfl, rfl⟩
  case round =>
    rcases hrel with ⟨rfl, rfl⟩ | ⟨rfl, rfl⟩ | ⟨rfl, rfl⟩ | ⟨rfl, rfl⟩ | ⟨rfl, rfl⟩
    · go_wp2
      refine ⟨Or.inr (Or.inl ⟨rfl, ?_⟩), by decide⟩
      congr 1
      rw [u32_join8 _ _ (by omega) (by omega) (by omega) (by omega) (by omega)]
      try omega
    · go_wp2
      refine ⟨Or.inr (Or.inr (Or.inl ⟨rfl, ?_⟩)), by decide⟩
      congr 1
      rw [u32_join8 _ _ (by omega) (by omega) (by omega) (by omega) (by omega)]
      try omega
    · go_wp2
      refine ⟨Or.inr (Or.inr (Or.inr (Or.inl ⟨rfl, ?_⟩))), by decide⟩
      congr 1
      rw [u32_join8 _ _ (by omega) (by omega) (by omega) (by omega) (by omega)]
      try omega
    · go_wp2
      refine ⟨Or.inr (Or.inr (Or.inr (Or.inr (⟨rfl, ?_⟩)))), by decide⟩
      congr 1
      rw [u32_join8 _ _ (by omega) (by omega) (by omega) (by omega) (by omega)]; unfold recKey le4
      try omega
    · go_wp2
      go_loop [5, 6] (fun k i => (i = .int .i64 11 ∧ k = .int .u64 (0)) ∨ (i = .int .i64 10 ∧ k = .int .u64 (f 11)) ∨ (i = .int .i64 9 ∧ k = .int .u64 (f 11 * 256 + f 10)) ∨ (i = .int .i64 8 ∧ k = .int .u64 ((f 11 * 256 + f 10) * 256 + f 9)) ∨ (i = .int .i64 7 ∧ k = .int .u64 (((f 11 * 256 + f 10) * 256 + f 9) * 256 + f 8)) ∨ (i = .int .i64 6 ∧ k = .int .u64 ((((f 11 * 256 + f 10) * 256 + f 9) * 256 + f 8) * 256 + f 7)) ∨ (i = .int .i64 5 ∧ k = .int .u64 (((((f 11 * 256 + f 10) * 256 + f 9) * 256 + f 8) * 256 + f 7) * 256 + f 6)) ∨ (i = .int .i64 4 ∧ k = .int .u64 ((((((f 11 * 256 + f 10) * 256 + f 9) * 256 + f 8) * 256 + f 7) * 256 + f 6) * 256 + f 5)) ∨ (i = .int .i64 3 ∧ k = .int .u64 (recOff f))) (fun _ i => (intOf i + 1).toNat)
      case atStart => exact Or.inl ⟨rfl, rfl⟩
      case round =>
        rcases hrel with ⟨rfl, rfl⟩ | ⟨rfl, rfl⟩ | ⟨rfl, rfl⟩ | ⟨rfl, rfl⟩ | ⟨rfl, rfl⟩ | ⟨rfl, rfl⟩ | ⟨rfl, rfl⟩ | ⟨rfl, rfl⟩ | ⟨rfl, rfl⟩
        · go_wp2
          refine ⟨Or.inr (Or.inl ⟨rfl, ?_⟩), by decide⟩
          congr 1
          rw [u64_join8 _ _ (by omega) (by omega) (by omega) (by omega) (by omega)]
          try omega
        · go_wp2
          refine ⟨Or.inr (Or.inr (Or.inl ⟨rfl, ?_⟩)), by decide⟩
          congr 1
          rw [u64_join8 _ _ (by omega) (by omega) (by omega) (by omega) (by omega)]
          try omega
        · go_wp2
          refine ⟨Or.inr (Or.inr (Or.inr (Or.inl ⟨rfl, ?_⟩))), by decide⟩
          congr 1
          rw [u64_join8 _ _ (by omega) (by omega) (by omega) (by omega) (by omega)]
          try omega
        · go_wp2
          refine ⟨Or.inr (Or.inr (Or.inr (Or.inr (Or.inl ⟨rfl, ?_⟩)))), by decide⟩
          congr 1
          rw [u64_join8 _ _ (by omega) (by omega) (by omega) (by omega) (by omega)]
          try omega
        · go_wp2
          refine ⟨Or.inr (Or.inr (Or.inr (Or.inr (Or.inr (Or.inl ⟨rfl, ?_⟩))))), by decide⟩
          congr 1
          rw [u64_join8 _ _ (by omega) (by omega) (by omega) (by omega) (by omega)]
          try omega
        · go_wp2
          refine ⟨Or.inr (Or.inr (Or.inr (Or.inr (Or.inr (Or.inr (Or.inl ⟨rfl, ?_⟩)))))), by decide⟩
          congr 1
          rw [u64_join8 _ _ (by omega) (by omega) (by omega) (by omega) (by omega)]
          try omega
        · go_wp2
          refine ⟨Or.inr (Or.inr (Or.inr (Or.inr (Or.inr (Or.inr (Or.inr (Or.inl ⟨rfl, ?_⟩))))))), by decide⟩
          congr 1
          rw [u64_join8 _ _ (by omega) (by omega) (by omega) (by omega) (by omega)]
          try omega
        · go_wp2
          refine ⟨Or.inr (Or.inr (Or.inr (Or.inr (Or.inr (Or.inr (Or.inr (Or.inr (⟨rfl, ?_⟩)))))))), by decide⟩
          congr 1
          rw [u64_join8 _ _ (by omega) (by omega) (by omega) (by omega) (by omega)]; unfold recOff le8
          try omega
        · go_wp2
          exact bodyPost_ret (v := .agg #[.int .u32 (recKey f), .int .u64 (recOff f)]) (by simp [results, Ybad.results10, go_sem]) rfl ⟨rfl, Fr.drop ((Fr.refl [w.heap.size] w).alloc _) (by simp)⟩
end Go.Proofs.YbulkdnloDoor
