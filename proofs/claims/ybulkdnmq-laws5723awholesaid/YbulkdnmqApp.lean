/- Law A: append of a slice of bytes onto an own row; an own row as a slice; the argument as a slice; the zigzag as the law writes it. -/
import Derived.Test.YbulkdnmqPut
import Derived.Laws.OwnMore
namespace Go.Proofs.Ybulkdnmq
open Go.RowKit
set_option linter.unusedSimpArgs false
set_option linter.unusedVariables false

theorem bc_get {l : List UInt8} {j : Nat} (hj : j < l.length) : (Lib.byteCells l)[j]? = some (.int .u8 (l[j]).toNat) := by
  simp [Lib.byteCells, hj]
theorem bc_length (l : List UInt8) : (Lib.byteCells l).length = l.length := by simp [Lib.byteCells]
theorem bc_one (l : List UInt8) : ∀ u ∈ Lib.byteCells l, u.oneCell' = true := by
  intro u hu
  simp only [Lib.byteCells, List.mem_map] at hu
  obtain ⟨b, _, rfl⟩ := hu
  rfl

/-- What is owned is a slice. -/
theorem own_sl {w : World} {base n : Nat} {v : Value} {l : List UInt8} (h : w.ownsRow base 5 1 v n (Lib.byteCells l)) :
    ∃ a c g, v = .slice a n c ∧ (a = none → n = 0 ∧ c = 0) ∧ g ≤ w.heap.size ∧ Sl w g 0 a n c l := by
  obtain ⟨hl, ⟨rfl, rfl⟩ | ⟨g, cap, cur, rfl, hbg, hg, hnc, hcm, hcs, htk⟩⟩ := h
  · rw [bc_length] at hl
    obtain rfl := List.eq_nil_of_length_eq_zero (by simpa using hl)
    exact ⟨none, 0, 0, rfl, fun _ => ⟨rfl, rfl⟩, Nat.zero_le _, Sl.nil _ _ _⟩
  · rw [bc_length] at hl
    have hglt : g < w.heap.size := (Array.getElem?_eq_some_iff.1 hg).1
    refine ⟨_, cap, g, rfl, by simp, by omega, by omega, hnc, fun _ => rfl, fun j hj => ?_⟩
    have h1 := bc_get hj
    rw [← htk] at h1
    rw [List.getElem?_take, if_pos (by omega)] at h1
    simp only [World.cell?, hg, Nat.zero_add]
    simpa using h1

theorem run_app {w : World} {base n : Nat} {v : Value} {xs : List UInt8} (hown : w.ownsRow base 5 1 v n (Lib.byteCells xs)) (hb : base ≤ w.heap.size)
    {db off m c : Nat} {a : Option Addr} {l : List UInt8} (hs : Sl w db off a m c l) (hnone : a = none → m = 0 ∧ c = 0) (hlim : n + m ≤ 140737488355328) (ty : TypeId) :
    ∃ v' w', (Builtin.append_ #[22, 22] ty #[v, .slice a m c]).run Yba.prog w = .ok v' w' ∧ w'.ownsRow base 5 1 v' (n + m) (Lib.byteCells (xs ++ l)) ∧ w.grownBy w' v.ownBlock := by
  obtain ⟨i0, hi, hzz⟩ := Option.map_eq_some_iff.1 info5
  simp only [Prod.mk.injEq] at hzz
  obtain ⟨hz0, hz1, hz2⟩ := hzz
  cases a with
  | none =>
    obtain ⟨rfl, rfl⟩ := hnone rfl
    obtain rfl := List.eq_nil_of_length_eq_zero hs.len
    exact ⟨v, w, run_append_owned_none (P := Yba.prog) w base 22 ty 5 i0 1 Yba.underlying22 hi v n _ hown, by simpa using hown, World.grownBy.refl _ _⟩
  | some x =>
    obtain ⟨v', w', h1, h2, h3, _⟩ := run_append_own (P := Yba.prog) w base 22 ty 5 i0 (.int .u8 0) 1 1 Yba.underlying22 hi hz0 hz1 hz2 rfl (by decide) v n _ hown x m c (Lib.byteCells l)
      (by rw [bc_length, hs.len, Nat.mul_one]) (fun j u hu => by
        have hj : j < (Lib.byteCells l).length := (List.getElem?_eq_some_iff.1 hu).1
        rw [bc_length] at hj
        rw [bc_get hj] at hu
        have hx := Option.some.inj (hs.addr (by have := hs.len; omega))
        rw [hx, Addr.add_mid', ← hu]
        exact hs.cell j hj) (bc_one _) (by unfold maxLen; omega) (by omega) hb
    exact ⟨v', w', h1, by rw [Lib.byteCells_append]; exact h2, h3⟩

theorem Sl.below {B : Nat} {w w' : World} (hB : Below B w w') (hsz : B = w.heap.size) {db off : Nat} {a : Option Addr} {n c : Nat} {l : List UInt8} (h : Sl w db off a n c l) : Sl w' db off a n c l := by
  subst hsz
  refine ⟨h.len, h.le, h.addr, fun j hj => ?_⟩
  have := h.cell j hj
  rw [hB.cell (p := ⟨db, off + j, none⟩) (World.block_lt_of_cell? w _ this)]
  exact this

/-- A slice that came in. -/
theorem row_sl {w : World} {a : Option Addr} {len cap : Nat} {zs : List Int}
    (h : (a = none ∧ len = 0 ∧ cap = 0 ∧ zs = []) ∨ ∃ x, a = some x ∧ len ≤ cap ∧ cap ≤ maxLen ∧ zs.length = cap ∧ (∀ i, i < zs.length → w.cell? (x.add i) = some (.int .u8 (zs.getD i 0))) ∧ ∀ n ∈ zs, (Lit.int .u8 n).wf = true) :
    ∃ db off l, db ≤ w.heap.size ∧ Sl w db off a len cap l ∧ (a = none → len = 0 ∧ cap = 0) := by
  rcases h with ⟨rfl, rfl, rfl, rfl⟩ | ⟨x, rfl, hlc, hcm, hz, hcell, hwf⟩
  · exact ⟨0, 0, [], Nat.zero_le _, Sl.nil _ _ _, fun _ => ⟨rfl, rfl⟩⟩
  · rcases Nat.eq_zero_or_pos len with h0 | h0
    · subst h0
      exact ⟨0, 0, [], Nat.zero_le _, ⟨rfl, hlc, by omega, fun j hj => by simp at hj⟩, by simp⟩
    · have h1 := hcell 0 (by omega)
      obtain ⟨b, o, sp⟩ := x
      have hsp : sp = none := by
        simp only [Addr.add, if_true, World.cell?] at h1
        cases sp with
        | none => rfl
        | some s => split at h1 <;> simp at h1
      subst hsp
      refine ⟨b, o, (zs.take len).map (fun z => UInt8.ofNat z.toNat), ?_, ⟨by simp [hz]; omega, hlc, fun _ => rfl, fun j hj => ?_⟩, by simp⟩
      · exact Nat.le_of_lt (World.block_lt_of_cell? w _ h1)
      · simp only [List.length_map, List.length_take] at hj
        have h2 := hcell j (by omega)
        rw [Addr.add_mid'] at h2
        rw [h2]
        have hj2 : j < zs.length := by omega
        have hw := hwf (zs[j]) (List.getElem_mem _)
        have hb : 0 ≤ zs[j] ∧ zs[j] < 256 := by
          simp [Lit.wf, IntKind.min, IntKind.max, IntKind.bits, IntKind.signed] at hw
          omega
        simp [hj2]
        omega

/-- 'uint64(x<<1) ^ uint64(x>>63)'. -/
theorem zz_law (x : Int) (h0 : -9223372036854775808 ≤ x) (h1 : x ≤ 9223372036854775807) :
    bits .xor .u64 (IntKind.u64.wrap (IntKind.i64.wrap (x * 2))) (IntKind.u64.wrap (x / 9223372036854775808)) = ((Lib.zigzag x : Nat) : Int) := by
  by_cases hn : 0 ≤ x
  · have e1 : IntKind.u64.wrap (IntKind.i64.wrap (x * 2)) = (((2 * x).toNat : Nat) : Int) := by
      rw [IntKind.wrap_u64, IntKind.wrap_i64]; omega
    have e2 : IntKind.u64.wrap (x / 9223372036854775808) = ((0 : Nat) : Int) := by
      rw [IntKind.wrap_u64]; omega
    rw [e1, e2, bits_xor_u64_nat _ _ (by omega) (by decide), Nat.xor_zero]
    unfold Lib.zigzag
    rw [if_pos hn]
  · have e1 : IntKind.u64.wrap (IntKind.i64.wrap (x * 2)) = (((2 * x + 18446744073709551616).toNat : Nat) : Int) := by
      rw [IntKind.wrap_u64, IntKind.wrap_i64]; omega
    have e2 : IntKind.u64.wrap (x / 9223372036854775808) = ((2 ^ 64 - 1 : Nat) : Int) := by
      rw [IntKind.wrap_u64]; omega
    rw [e1, e2, bits_xor_u64_nat _ _ (by omega) (by decide), Nat.xor_comm, Lib.xor_ones64 _ (by omega)]
    unfold Lib.zigzag
    rw [if_neg hn]
    omega

/-- The step of the walk at an append whose run is known. -/
theorem wpList_app {w : World} {ops : Array Oper} {rest : List Oper} {o : Oper} {a : Act} {Q : Exit → Act → World → Prop} (hgd : o.guard = none) (s x : Operand)
    (ho : o.op = .call { callee := .builtin .append, args := #[s, x], argTypes := #[22, 22] }) {v x' v' : Value} {w' : World} (hs : a.eval s = v) (hx : a.eval x = x')
    (hr : (Builtin.append_ #[22, 22] o.type #[v, x']).run Yba.prog w = .ok v' w') (h : wpList Yba.prog ops Q rest (a.put o.dst v') w') : wpList Yba.prog ops Q (o :: rest) a w := by
  refine wpList_plain hgd fun K hK => ?_
  unfold Oper.wp execOp
  simp only [ho, resolve, invoke, builtin, Sem.run_bind, Sem.run_pure, Result.andThen_ok, List.map_toArray, List.map_cons, List.map_nil, hs, hx, hr]
  exact hK _ _ h
end Go.Proofs.Ybulkdnmq
