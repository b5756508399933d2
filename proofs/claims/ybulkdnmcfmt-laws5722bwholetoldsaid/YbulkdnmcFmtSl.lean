/- Slices of bytes ('Sl'), append of them onto an own row, the arguments as slices. -/
import Derived.Test.YbulkdnmcFmtBase
import Derived.Laws.BytesArg
import Derived.Lib.VarintMem
import Derived.Laws.OwnMore
import Derived.OwnWalk
namespace Go.Proofs.YbulkdnmcFmt
open Go.RowKit
set_option linter.unusedSimpArgs false
set_option linter.unusedVariables false

/-! ### slices -/
structure Sl (w : World) (db off : Nat) (a : Option Addr) (n c : Nat) (l : List UInt8) : Prop where
  len : l.length = n
  le : n ≤ c
  addr : 0 < n → a = some ⟨db, off, none⟩
  cell : ∀ j (hj : j < l.length), w.cell? ⟨db, off + j, none⟩ = some (.int .u8 (l[j]).toNat)

def cut (a : Option Addr) (lo c : Nat) : Option Addr := if c = lo then a else a.map (·.add lo)

theorem Sl.nil (w : World) (db off : Nat) : Sl w db off none 0 0 [] := ⟨rfl, Nat.le_refl _, by omega, fun j hj => by simp at hj⟩
theorem Sl.tail {w : World} {db off : Nat} {a : Option Addr} {n c : Nat} {l : List UInt8} (h : Sl w db off a n c l) (lo : Nat) (hlo : lo ≤ n) :
    Sl w db (off + lo) (cut a lo c) (n - lo) (c - lo) (l.drop lo) := by
  refine ⟨by simp [h.len], by have := h.le; omega, fun h0 => ?_, fun j hj => ?_⟩
  · have := h.le
    unfold cut
    rw [if_neg (by omega), h.addr (by omega)]
    simp [Addr.add_mid']
  · rw [List.length_drop] at hj
    rw [List.getElem_drop, Nat.add_assoc]
    exact h.cell (lo + j) (by omega)
theorem Sl.sub {w : World} {db off : Nat} {a : Option Addr} {n c : Nat} {l : List UInt8} (h : Sl w db off a n c l) (lo m : Nat) (hlo : lo + m ≤ n) :
    Sl w db (off + lo) (cut a lo c) m (c - lo) ((l.drop lo).take m) := by
  have k := h.tail lo (by omega)
  refine ⟨by simp [h.len]; omega, by have := h.le; omega, fun h0 => k.addr (by omega), fun j hj => ?_⟩
  rw [List.length_take] at hj
  rw [List.getElem_take]
  exact k.cell j (by omega)
theorem Sl.fr {own : List Nat} {w w' : World} (hF : Fr own w w') {db off : Nat} {a : Option Addr} {n c : Nat} {l : List UInt8} (h : Sl w db off a n c l) (hn : db ∉ own) : Sl w' db off a n c l := by
  refine ⟨h.len, h.le, h.addr, fun j hj => ?_⟩
  have := h.cell j hj
  rw [hF.cell (p := ⟨db, off + j, none⟩) ?_ hn]
  · exact this
  · simp only [World.cell?] at this
    rcases Nat.lt_or_ge db w.heap.size with hlt | hge
    · exact hlt
    · rw [Array.getElem?_eq_none hge] at this; simp at this
theorem Sl.drewN {w : World} {db off : Nat} {a : Option Addr} {n c : Nat} {l : List UInt8} (h : Sl w db off a n c l) (q : Nat) : Sl (w.drewN q) db off a n c l := h.fr ((Fr.refl [] w).drewN q) (by simp)

theorem run_tail (w : World) (a : Option Addr) (n c lo : Nat) (h : lo ≤ n) : (Instr.slice 23 (.slice a n c) (some (.int .i64 lo)) none none).run Ybaf.prog w = .ok (.slice (cut a lo c) (n - lo) (c - lo)) w := by
  rw [run_slice_l w 23 a n c (by kernel_rfl) .i64 (lo : Int) (by omega) (by omega)]
  simp [go_sem, cut]
theorem run_sub (w : World) (a : Option Addr) (n c lo m : Nat) (h : lo + m ≤ c) : (Instr.slice 23 (.slice a n c) (some (.int .i64 lo)) (some (.int .i64 ((lo + m : Nat) : Int))) none).run Ybaf.prog w = .ok (.slice (cut a lo c) m (c - lo)) w := by
  rw [run_slice_lh w 23 a n c (by kernel_rfl) .i64 .i64 (lo : Int) ((lo + m : Nat) : Int) (by omega) (by omega) (by omega)]
  simp [go_sem, cut]
  omega

theorem run_str {w : World} {db off : Nat} {a : Option Addr} {n c : Nat} {l : List UInt8} (h : Sl w db off a n c l) : (convert 23 9 (.slice a n c)).run Ybaf.prog w = .ok (.string ⟨l.toArray⟩) w := by
  rcases Nat.eq_zero_or_pos n with h0 | h0
  · obtain rfl := List.eq_nil_of_length_eq_zero (h.len.trans h0)
    subst h0
    cases a with
    | none => rw [run_convert_bytes_nil w 23 5 Ybaf.underlying23 Ybaf.underlying5 0 c 9 Ybaf.underlying9]; rfl
    | some x =>
      have hl : (loadCells x 0).run Ybaf.prog w = .ok (([] : List Int).map (Value.int .u8)).toArray w := by simpa using run_loadCells_list (P := Ybaf.prog) w x [] (by simp)
      rw [run_convert_bytes_string w 23 9 5 _ 0 c Ybaf.underlying23 Ybaf.underlying5 Ybaf.underlying9, run_bytesToString w x 0 c [] hl]; rfl
  · rw [h.addr h0]
    have e := run_convert_bytes_arg w 23 5 Ybaf.underlying23 Ybaf.underlying5 db off n c (l.map fun b => (b.toNat : Int)) (by simp [h.len])
      (fun i hi => by
        have hi' : i < l.length := by rw [h.len]; exact hi
        have := h.cell i hi'
        rw [this]
        simp [hi']) 9 Ybaf.underlying9
    have e2 : strOfNums (l.map fun b => (b.toNat : Int)) = ⟨l.toArray⟩ := by
      unfold strOfNums
      simp [List.map_map, Function.comp_def]
    rw [e, e2]

theorem info5 : (Ybaf.prog.info? 5).map (fun i => (i.zero, i.size, i.bytes)) = some (some (.int .u8 0), 1, 1) := by kernel_rfl

theorem bc_get {l : List UInt8} {j : Nat} (hj : j < l.length) : (Lib.byteCells l)[j]? = some (.int .u8 (l[j]).toNat) := by
  simp [Lib.byteCells, hj]
theorem bc_length (l : List UInt8) : (Lib.byteCells l).length = l.length := by simp [Lib.byteCells]
theorem bc_one (l : List UInt8) : ∀ u ∈ Lib.byteCells l, u.oneCell' = true := by
  intro u hu
  simp only [Lib.byteCells, List.mem_map] at hu
  obtain ⟨b, _, rfl⟩ := hu
  rfl

/-- What is owned is a slice. -/
theorem own_sl {w : World} {base n : Nat} {v : Value} {l : List UInt8} (h : w.ownsRow base 5 1 v n (Lib.byteCells l)) :
    ∃ a c g, v = .slice a n c ∧ (a = none → n = 0 ∧ c = 0) ∧ g ≤ w.heap.size ∧ Sl w g 0 a n c l := by
  obtain ⟨hl, ⟨rfl, rfl⟩ | ⟨g, cap, cur, rfl, hbg, hg, hnc, hcm, hcs, htk⟩⟩ := h
  · rw [bc_length] at hl
    obtain rfl := List.eq_nil_of_length_eq_zero (by simpa using hl)
    exact ⟨none, 0, 0, rfl, fun _ => ⟨rfl, rfl⟩, Nat.zero_le _, Sl.nil _ _ _⟩
  · rw [bc_length] at hl
    have hglt : g < w.heap.size := (Array.getElem?_eq_some_iff.1 hg).1
    refine ⟨_, cap, g, rfl, by simp, by omega, by omega, hnc, fun _ => rfl, fun j hj => ?_⟩
    have h1 := bc_get hj
    rw [← htk] at h1
    rw [List.getElem?_take, if_pos (by omega)] at h1
    simp only [World.cell?, hg, Nat.zero_add]
    simpa using h1

theorem run_app {w : World} {base n : Nat} {v : Value} {xs : List UInt8} (hown : w.ownsRow base 5 1 v n (Lib.byteCells xs)) (hb : base ≤ w.heap.size)
    {db off m c : Nat} {a : Option Addr} {l : List UInt8} (hs : Sl w db off a m c l) (hnone : a = none → m = 0 ∧ c = 0) (hlim : n + m ≤ 140737488355328) (ty : TypeId) :
    ∃ v' w', (Builtin.append_ #[23, 23] ty #[v, .slice a m c]).run Ybaf.prog w = .ok v' w' ∧ w'.ownsRow base 5 1 v' (n + m) (Lib.byteCells (xs ++ l)) ∧ w.grownBy w' v.ownBlock := by
  obtain ⟨i0, hi, hzz⟩ := Option.map_eq_some_iff.1 info5
  simp only [Prod.mk.injEq] at hzz
  obtain ⟨hz0, hz1, hz2⟩ := hzz
  cases a with
  | none =>
    obtain ⟨rfl, rfl⟩ := hnone rfl
    obtain rfl := List.eq_nil_of_length_eq_zero hs.len
    exact ⟨v, w, run_append_owned_none (P := Ybaf.prog) w base 23 ty 5 i0 1 Ybaf.underlying23 hi v n _ hown, by simpa using hown, World.grownBy.refl _ _⟩
  | some x =>
    obtain ⟨v', w', h1, h2, h3, _⟩ := run_append_own (P := Ybaf.prog) w base 23 ty 5 i0 (.int .u8 0) 1 1 Ybaf.underlying23 hi hz0 hz1 hz2 rfl (by decide) v n _ hown x m c (Lib.byteCells l)
      (by rw [bc_length, hs.len, Nat.mul_one]) (fun j u hu => by
        have hj : j < (Lib.byteCells l).length := (List.getElem?_eq_some_iff.1 hu).1
        rw [bc_length] at hj
        rw [bc_get hj] at hu
        have hx := Option.some.inj (hs.addr (by have := hs.len; omega))
        rw [hx, Addr.add_mid', ← hu]
        exact hs.cell j hj) (bc_one _) (by unfold maxLen; omega) (by omega) hb
    exact ⟨v', w', h1, by rw [Lib.byteCells_append]; exact h2, h3⟩

theorem Sl.below {B : Nat} {w w' : World} (hB : Below B w w') (hsz : B = w.heap.size) {db off : Nat} {a : Option Addr} {n c : Nat} {l : List UInt8} (h : Sl w db off a n c l) : Sl w' db off a n c l := by
  subst hsz
  refine ⟨h.len, h.le, h.addr, fun j hj => ?_⟩
  have := h.cell j hj
  rw [hB.cell (p := ⟨db, off + j, none⟩) (World.block_lt_of_cell? w _ this)]
  exact this

/-- A slice that came in. -/
theorem row_sl {w : World} {a : Option Addr} {len cap : Nat} {zs : List Int}
    (h : (a = none ∧ len = 0 ∧ cap = 0 ∧ zs = []) ∨ ∃ x, a = some x ∧ len ≤ cap ∧ cap ≤ maxLen ∧ zs.length = cap ∧ (∀ i, i < zs.length → w.cell? (x.add i) = some (.int .u8 (zs.getD i 0))) ∧ ∀ n ∈ zs, (Lit.int .u8 n).wf = true) :
    ∃ db off l, db ≤ w.heap.size ∧ Sl w db off a len cap l ∧ (a = none → len = 0 ∧ cap = 0) := by
  rcases h with ⟨rfl, rfl, rfl, rfl⟩ | ⟨x, rfl, hlc, hcm, hz, hcell, hwf⟩
  · exact ⟨0, 0, [], Nat.zero_le _, Sl.nil _ _ _, fun _ => ⟨rfl, rfl⟩⟩
  · rcases Nat.eq_zero_or_pos len with h0 | h0
    · subst h0
      exact ⟨0, 0, [], Nat.zero_le _, ⟨rfl, hlc, by omega, fun j hj => by simp at hj⟩, by simp⟩
    · have h1 := hcell 0 (by omega)
      obtain ⟨b, o, sp⟩ := x
      have hsp : sp = none := by
        simp only [Addr.add, if_true, World.cell?] at h1
        cases sp with
        | none => rfl
        | some s => split at h1 <;> simp at h1
      subst hsp
      refine ⟨b, o, (zs.take len).map (fun z => UInt8.ofNat z.toNat), ?_, ⟨by simp [hz]; omega, hlc, fun _ => rfl, fun j hj => ?_⟩, by simp⟩
      · exact Nat.le_of_lt (World.block_lt_of_cell? w _ h1)
      · simp only [List.length_map, List.length_take] at hj
        have h2 := hcell j (by omega)
        rw [Addr.add_mid'] at h2
        rw [h2]
        have hj2 : j < zs.length := by omega
        have hw := hwf (zs[j]) (List.getElem_mem _)
        have hb : 0 ≤ zs[j] ∧ zs[j] < 256 := by
          simp [Lit.wf, IntKind.min, IntKind.max, IntKind.bits, IntKind.signed] at hw
          omega
        simp [hj2]
        omega

/-- The step of the walk at an append whose run is known. -/
theorem wpList_app {w : World} {ops : Array Oper} {rest : List Oper} {o : Oper} {a : Act} {Q : Exit → Act → World → Prop} (hgd : o.guard = none) (s x : Operand)
    (ho : o.op = .call { callee := .builtin .append, args := #[s, x], argTypes := #[23, 23] }) {v x' v' : Value} {w' : World} (hs : a.eval s = v) (hx : a.eval x = x')
    (hr : (Builtin.append_ #[23, 23] o.type #[v, x']).run Ybaf.prog w = .ok v' w') (h : wpList Ybaf.prog ops Q rest (a.put o.dst v') w') : wpList Ybaf.prog ops Q (o :: rest) a w := by
  refine wpList_plain hgd fun K hK => ?_
  unfold Oper.wp execOp
  simp only [ho, resolve, invoke, builtin, Sem.run_bind, Sem.run_pure, Result.andThen_ok, List.map_toArray, List.map_cons, List.map_nil, hs, hx, hr]
  exact hK _ _ h
end Go.Proofs.YbulkdnmcFmt
