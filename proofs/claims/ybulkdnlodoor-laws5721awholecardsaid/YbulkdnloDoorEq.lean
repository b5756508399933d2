/- '!=' on the twelve bytes, on the reader's pointer. -/
import Derived.Test.YbulkdnloDoorClone
import Derived.Lib.Builder
namespace Go.Proofs.YbulkdnloDoor
open Go.RowKit
set_option linter.unusedSimpArgs false

theorem bv_splice (js zs : List Int) (o : Nat) : splice (bv js) o (bv zs) = bv (splice js o zs) := by
  simp [splice, bv]

/-- Twelve cells against the same twelve cells. -/
theorem neq_same12 (l0 l1 l2 l3 l4 l5 l6 l7 l8 l9 l10 l11 : Int) (w : World) :
    (binOp .neq 25 (.agg #[.int .u8 l0, .int .u8 l1, .int .u8 l2, .int .u8 l3, .int .u8 l4, .int .u8 l5, .int .u8 l6, .int .u8 l7, .int .u8 l8, .int .u8 l9, .int .u8 l10, .int .u8 l11])
      (.agg #[.int .u8 l0, .int .u8 l1, .int .u8 l2, .int .u8 l3, .int .u8 l4, .int .u8 l5, .int .u8 l6, .int .u8 l7, .int .u8 l8, .int .u8 l9, .int .u8 l10, .int .u8 l11])).run Ybad.prog w = .ok (.bool false) w := by
  have hsz : ∀ w, (sizeOf 5).run Ybad.prog w = .ok 1 w := fun _ => by kernel_rfl
  have key : ∀ (d : Nat) (xs : List Int), xs.length = 12 → (Op.equalIn (d + 2) 25 (.agg (bv xs).toArray) (.agg (bv xs).toArray)).run Ybad.prog w = .ok true w := by
    intro d xs hx
    rw [Op.equalIn]
    simp only [Sem.run_bind, run_underlying Ybad.underlying25, Result.andThen_ok, hsz, Std.Legacy.Range.forIn_eq_forIn_range', Std.Legacy.Range.size, Nat.sub_zero, Nat.add_sub_cancel, Nat.div_one]
    have hl : ∀ i ∈ List.range' 0 12 1, i < 12 := fun i hi => by simpa using (List.mem_range'_1.1 hi).2
    generalize List.range' 0 12 1 = l at hl ⊢
    induction l with
    | nil => simp
    | cons i l ih =>
      have hi : i < 12 := hl i (by simp)
      have px : (part 5 (bv xs).toArray (i * 1)).run Ybad.prog w = .ok (.int .u8 (xs.getD i 0)) w := by
        simp [part, isAgg, run_underlying Ybad.underlying5, bv, List.getD, List.getElem?_eq_getElem (show i < xs.length by omega)]
      have pe : (Op.equalIn (d + 1) 5 (.int .u8 (xs.getD i 0)) (.int .u8 (xs.getD i 0))).run Ybad.prog w = .ok true w := by
        rw [run_equalIn_int w d 5 .u8 .u8 _ _ Ybad.underlying5]; simp
      simp only [List.forIn_cons, Sem.run_bind, px, pe, Result.andThen_ok]
      simp only [Bool.not_true, Bool.false_eq_true, if_false, Sem.run_pure, Result.andThen_ok]
      exact ih fun j hj => hl j (by simp [hj])
  rw [run_neq_struct]
  have := key 9998 [l0, l1, l2, l3, l4, l5, l6, l7, l8, l9, l10, l11] rfl
  rw [show (10000 : Nat) = 9998 + 2 from rfl]
  rw [show (#[.int .u8 l0, .int .u8 l1, .int .u8 l2, .int .u8 l3, .int .u8 l4, .int .u8 l5, .int .u8 l6, .int .u8 l7, .int .u8 l8, .int .u8 l9, .int .u8 l10, .int .u8 l11] : Array Value) = (bv [l0, l1, l2, l3, l4, l5, l6, l7, l8, l9, l10, l11]).toArray from rfl, this]
  rfl

theorem neq_ptr (a : Addr) (w : World) : (binOp .neq 33 (.pointer (some a)) (.pointer (some a))).run Ybad.prog w = .ok (.bool false) w := by
  have h : (Ybad.prog.info? 56).isSome = true := by kernel_rfl
  obtain ⟨j, hj⟩ := Option.isSome_iff_exists.1 h
  exact Lib.run_neq_ptr_same w a Ybad.underlying33 hj

theorem splice_set (js zs : List Int) (i : Nat) (hi : i < zs.length) (hj : i < js.length) :
    (bv (splice js 0 (zs.take i))).set i (.int .u8 (zs.getD i 0)) = bv (splice js 0 (zs.take (i + 1))) := by
  have h1 : (zs.take i).length = i := by simp; omega
  have h2 : (zs.take (i + 1)).length = i + 1 := by simp; omega
  have e1 : splice js 0 (zs.take i) = zs.take i ++ (js[i] :: js.drop (i + 1)) := by
    simp only [splice, List.take_zero, List.nil_append, h1, Nat.zero_add]
    rw [List.drop_eq_getElem_cons hj]
  have e2 : splice js 0 (zs.take (i + 1)) = zs.take i ++ (zs[i] :: js.drop (i + 1)) := by
    simp only [splice, List.take_zero, List.nil_append, h2, Nat.zero_add]
    rw [List.take_succ_eq_append_getElem hi, List.append_assoc, List.singleton_append]
  have e3 : zs.getD i 0 = zs[i] := by simp [List.getD, hi]
  rw [e1, e2, e3]
  simp only [bv, List.map_append, List.map_cons]
  rw [List.set_append_right _ _ (by simp; omega)]
  have h0 : i - (List.map (Value.int .u8 ·) (zs.take i)).length = 0 := by simp; omega
  rw [h0]
  rfl
end Go.Proofs.YbulkdnloDoor
