/- LawS5723CWhole: the row. -/
import Derived.Test.YbulkdnmqLawC
import Derived.ProofKit
import Derived.OpenShut
import Derived.ChangeOld
import Derived.Below
namespace Go.Proofs.Ybulkdnmq
open Go.ChangeShapes Go.WideShapes Go.ChangeAt Go.RowKit
set_option linter.unusedVariables false

namespace LawC
theorem own : ownKnob Yba.prog.godebug = none := by kernel_rfl
theorem laidOut : laidOutB Yba.prog = true := by kernel_rfl
theorem cells57 : Yba.prog.cellsOf 57 = 9 := by kernel_rfl
theorem cells2 : Yba.prog.cellsOf 2 = 1 := by kernel_rfl
theorem cells24 : Yba.prog.cellsOf 24 = 1 := by kernel_rfl
theorem cells4 : Yba.prog.cellsOf 4 = 1 := by kernel_rfl

theorem array9 {α : Type} {cs : Array α} (h : cs.size = 9) : ∃ c0 c1 c2 c3 c4 c5 c6 c7 c8, cs = #[c0, c1, c2, c3, c4, c5, c6, c7, c8] := by
  obtain ⟨l⟩ := cs
  match l, h with
  | [c0, c1, c2, c3, c4, c5, c6, c7, c8], _ => exact ⟨c0, c1, c2, c3, c4, c5, c6, c7, c8, rfl⟩

set_option maxRecDepth 100000 in
/-- The one argument, opened. -/
theorem open57 {H : Type} {enc : TypeId × Value → H} {W : World} {r : Reach} {b0 base : Nat} {sp : Nat → Bool} {b : Bool} {v : Value} {d : DataW H} {p : List MemPlace} (hv : Value.okWide Yba.prog W r b0 57 v) (h : DataW.Trod enc Yba.prog W base sp b 57 v d p) :
    ∃ (x0 x1 x2 x3 x4 x5 x6 : Int) (y0 y1 : Bool), v = .agg #[.int .i64 x0, .int .i64 x1, .int .u64 x2, .int .u64 x3, .int .u64 x4, .int .u64 x5, .int .u64 x6, .bool y0, .bool y1] := by
  obtain ⟨cs, rfl, hsz⟩ := okWide_struct Yba.underlying57 hv
  rw [cells57] at hsz
  obtain ⟨c0, c1, c2, c3, c4, c5, c6, c7, c8, rfl⟩ := array9 hsz
  obtain ⟨fuel, hf⟩ := h
  obtain ⟨xs, n, _, _, _, hl, hfs⟩ := DataW.trod_struct Yba.underlying57 hf
  have hl9 : xs.length = 9 := hl
  match xs, hl9 with
  | [z0, z1, z2, z3, z4, z5, z6, z7, z8], _ =>
    have h0 := hfs 0 _ rfl
    have h1 := hfs 1 _ rfl
    have h2 := hfs 2 _ rfl
    have h3 := hfs 3 _ rfl
    have h4 := hfs 4 _ rfl
    have h5 := hfs 5 _ rfl
    have h6 := hfs 6 _ rfl
    have h7 := hfs 7 _ rfl
    have h8 := hfs 8 _ rfl
    obtain ⟨x0, e0, _, _⟩ := DataW.trod_int Yba.underlying2 h0
    obtain ⟨x1, e1, _, _⟩ := DataW.trod_int Yba.underlying2 h1
    obtain ⟨x2, e2, _, _⟩ := DataW.trod_int Yba.underlying24 h2
    obtain ⟨x3, e3, _, _⟩ := DataW.trod_int Yba.underlying24 h3
    obtain ⟨x4, e4, _, _⟩ := DataW.trod_int Yba.underlying24 h4
    obtain ⟨x5, e5, _, _⟩ := DataW.trod_int Yba.underlying24 h5
    obtain ⟨x6, e6, _, _⟩ := DataW.trod_int Yba.underlying24 h6
    obtain ⟨y0, e7, _⟩ := DataW.trod_bool Yba.underlying4 h7
    obtain ⟨y1, e8, _⟩ := DataW.trod_bool Yba.underlying4 h8
    simp [Value.cells, cells2, cells24, cells4] at e0 e1 e2 e3 e4 e5 e6 e7 e8
    subst e0 e1 e2 e3 e4 e5 e6 e7 e8
    exact ⟨x0, x1, x2, x3, x4, x5, x6, y0, y1, rfl⟩

set_option maxRecDepth 100000 in
theorem lifted (os : Os) (started : os.Started) (H : Type) (enc : TypeId × Value → H) :
    ReturnsInHanded {} Yba.checked os 4 .any (Rows.lawS5723CWholeSpec.pre6 enc Yba.prog Yba.f4 Rows.lawS5723CWholeRow.domain false) (Rows.lawS5723CWholeSpec.post enc Yba.prog Yba.f4 false true false false) := by
  refine returnsInHanded_of_change (C := Yba.checked) own started (by kernel_rfl) Yba.func4
    (ChangeSpec.witness6 (enc := enc) (C := Yba.checked) false ⟨#[], #[.agg #[.int .i64 0, .int .i64 0, .int .u64 0, .int .u64 0, .int .u64 0, .int .u64 0, .int .u64 0, .bool false, .bool false]], []⟩ 8 (by kernel_rfl) (by kernel_rfl) (by kernel_rfl) (by kernel_rfl)) ?_
  intro W base args ds gs before hval0 hW hcnd _
  have hval : ∀ (j : Nat) t v, Yba.f4.params[j]? = some t → args[j]? = some v → Value.okWide Yba.prog W .any base t v := hval0
  have hW' := hW
  obtain ⟨p, q, hA0, hV, rfl, hfz, hnd⟩ := hW
  have hA : DataW.TrodAll enc Yba.prog W 0 (fun _ => true) true Yba.f4.params.toList args.toList ds p := hA0
  rw [Yba.params4] at hA hval
  obtain ⟨v0, d0, rfl, rfl, h0⟩ := trodAll_one hA
  obtain ⟨rfl, rfl⟩ := trodVars_none hV
  have k0 := h0
  have lt0 : ∀ x ∈ p, x.block < W.heap.size := by obtain ⟨m, hm⟩ := k0; exact DataW.trod_lt m _ _ _ hm
  obtain ⟨x0, x1, x2, x3, x4, x5, x6, y0, y1, rfl⟩ := open57 (hval 0 57 v0 rfl rfl) h0
  clear hA0 hval0
  refine (law_any x0 x1 x2 x3 x4 x5 x6 y0 y1 W).mono fun e W' ⟨he, bel⟩ => ?_
  subst he
  exact ⟨_, rfl, _, _, _, [], _, [], hW', trodAll_mk1 (shut_bool Yba.underlying4 _), trodAll_mk1 (Below.trod laidOut (by kernel_rfl) (of_decide_eq_true (by kernel_rfl)) k0 bel lt0), rfl, bel.frame _, fun h => by cases h⟩

theorem proved : Rows.LawS5723CWholeSaid :=
  OpenClaim.holds_of_wide 4 Yba.f4 rfl rfl rfl rfl rfl rfl rfl ⟨rfl, rfl, rfl, rfl, rfl⟩ rfl rfl rfl rfl rfl (by kernel_rfl) Yba.func4 (by kernel_rfl)
    (of_decide_eq_true (by kernel_rfl)) (by unfold Func.isWrapper; first | (rw [if_pos (by decide +kernel)]; kernel_rfl) | (rw [if_neg (by decide +kernel)]; exact ⟨rfl, rfl⟩))
    (fun os started H enc _ => lifted os started H enc)
end LawC
/-- THE STATEMENT. -/
theorem lawC_proved : Rows.LawS5723CWholeSaid := LawC.proved
end Go.Proofs.Ybulkdnmq
