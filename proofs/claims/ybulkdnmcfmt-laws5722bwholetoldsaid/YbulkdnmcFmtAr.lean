/- Arrays of 64 bytes: loads out of rows, comparison, inside a region that draws. What stands behind Begin. -/
import Derived.Test.YbulkdnmcFmtLp
import Derived.ChangeKeysEq
import Derived.LaidEql
namespace Go.Proofs.YbulkdnmcFmt
open Go.RowKit
set_option linter.unusedSimpArgs false
set_option linter.unusedVariables false

def sgArr (F : List UInt8) (i : Nat) : Array Value := ((List.range 64).map fun j => Value.int .u8 (sgb F i j).toNat).toArray
theorem sgArr_get (F : List UInt8) (i : Nat) {j : Nat} (h : j < 64) : (sgArr F i)[j]? = some (.int .u8 (sgb F i j).toNat) := by simp [sgArr, h]

theorem agg5 (w : World) : (isAgg 5).run Ybaf.prog w = .ok false w := by kernel_rfl
theorem cells5 : Ybaf.prog.cellsOf 5 = 1 := by kernel_rfl
theorem eqItems_same (F : List UInt8) (i : Nat) (w : World) : ∀ is : List Nat, (∀ j ∈ is, j < 64) → (Op.eqItems 9999 5 (Ybaf.prog.cellsOf 5) (sgArr F i) (sgArr F i) is).run Ybaf.prog w = .ok true w
  | [], _ => by simp [Op.eqItems]
  | j :: is, h => by
    have hj := h j (by simp)
    have ih := eqItems_same F i w is (fun k hk => h k (by simp [hk]))
    have hp : (part 5 (sgArr F i) (j * Ybaf.prog.cellsOf 5)).run Ybaf.prog w = .ok (.int .u8 (sgb F i j).toNat) w := by
      rw [cells5, Nat.mul_one]
      simp [part, agg5, sgArr_get F i hj]
    have he := run_equalIn_int (P := Ybaf.prog) w 9998 5 .u8 .u8 ((sgb F i j).toNat : Int) ((sgb F i j).toNat : Int) Ybaf.underlying5
    simp only [Op.eqItems, Sem.run_bind, hp, Result.andThen_ok]
    rw [he]
    simp [ih]
theorem info5s : (Ybaf.prog.info? 5).isSome = true := by kernel_rfl
theorem neq80 (F : List UInt8) (i : Nat) (w : World) : (binOp .neq 80 (.agg (sgArr F i)) (.agg (sgArr F i))).run Ybaf.prog w = .ok (.bool false) w := by
  obtain ⟨i5, hi5⟩ := Option.isSome_iff_exists.1 info5s
  rw [run_neq_struct, run_equalIn_array (P := Ybaf.prog) w 9999 (sgArr F i) (sgArr F i) Ybaf.underlying80 hi5, eqItems_same F i w (List.range 64) (fun j hj => by simpa using hj)]
  rfl

theorem agg80 (w : World) : (isAgg 80).run Ybaf.prog w = .ok true w := by kernel_rfl
theorem siz80 (w : World) : (sizeOf 80).run Ybaf.prog w = .ok 64 w := by kernel_rfl
theorem ld80 {w : World} {ad : Addr} (F : List UInt8) (i : Nat) (h : ∀ j, j < 64 → w.cell? (ad.add j) = some (.int .u8 (sgb F i j).toNat)) : (Instr.loadAt 80 (.pointer (some ad))).run Ybaf.prog w = .ok (.agg (sgArr F i)) w := by
  have hl := run_loadCells (P := Ybaf.prog) w ad 64 (fun j => .int .u8 (sgb F i j).toNat) h
  simp only [Instr.loadAt, Instr.sureAddr, loadVar, Sem.run_bind, Sem.run_pure, Result.andThen_ok, agg80, siz80, hl, if_true]
  rfl
theorem quiet_load80 {o : Oper} {a : Act} {C : World → Prop} {K : Act → Prop} (x : Operand) (ho : o.op = .load 80 x) {ad : Addr} {F : List UInt8} {i : Nat} (hx : a.eval x = .pointer (some ad))
    (hr : ∀ w, C w → (Instr.loadAt 80 (.pointer (some ad))).run Ybaf.prog w = .ok (.agg (sgArr F i)) w) (hk : K (a.put o.dst (.agg (sgArr F i)))) : o.quiet Ybaf.prog a C K :=
  ⟨.agg (sgArr F i), fun w hw => by
    unfold Oper.quietAt execOp
    simp only [ho, hx, hr w hw, Sem.run_bind, Sem.run_pure, Result.andThen_ok]
    exact ⟨rfl, rfl⟩, hk⟩
theorem gd80 (x y : Operand) (S : Array Value) (w : World) : (eqGuard .neq 80 x y (.agg S) (.agg S)).run Ybaf.prog w = .ok () w := by kernel_rfl
theorem quiet_neq80 {o : Oper} {a : Act} {C : World → Prop} {K : Act → Prop} (x y : Operand) (yt : TypeId) (ho : o.op = .binOp .neq 80 x y yt) {F : List UInt8} {i : Nat} (hx : a.eval x = .agg (sgArr F i)) (hy : a.eval y = .agg (sgArr F i))
    (hk : K (a.put o.dst (.bool false))) : o.quiet Ybaf.prog a C K :=
  ⟨.bool false, fun w hw => by
    unfold Oper.quietAt execOp
    simp only [ho, hx, hy, gd80, neq80 F i w, Sem.run_bind, Sem.run_pure, Result.andThen_ok]
    exact ⟨rfl, rfl⟩, hk⟩

theorem eqIn_ptr (w : World) (d : Nat) (t e : TypeId) (p : Option Addr) (hp : Ybaf.prog.underlying t = some (.pointer e)) (hte : (Ybaf.prog.info? e).isSome = true) : (Op.equalIn (d + 1) t (.pointer p) (.pointer p)).run Ybaf.prog w = .ok true w := by
  obtain ⟨j, hj⟩ := Option.isSome_iff_exists.1 hte
  cases p with
  | none => simp [Op.equalIn, run_underlying hp]
  | some a =>
    by_cases hz : j.size = 0
    · simp [Op.equalIn, run_underlying hp, sizeOf, typeInfo, hj, hz]
    · simp [Op.equalIn, run_underlying hp, sizeOf, typeInfo, hj, hz, run_sameAddr_same]
theorem neq_ptr (t e : TypeId) (hp : Ybaf.prog.underlying t = some (.pointer e)) (hte : (Ybaf.prog.info? e).isSome = true) (p : Option Addr) (w : World) : (binOp .neq t (.pointer p) (.pointer p)).run Ybaf.prog w = .ok (.bool false) w := by
  simp only [binOp]
  simp [Op.equal, Op.maxDepth, eqIn_ptr w 9999 t e p hp hte]
theorem neq72 (p : Option Addr) (w : World) : (binOp .neq 72 (.pointer p) (.pointer p)).run Ybaf.prog w = .ok (.bool false) w := neq_ptr 72 48 Ybaf.underlying72 (by kernel_rfl) p w
theorem neq38 (p : Option Addr) (w : World) : (binOp .neq 38 (.pointer p) (.pointer p)).run Ybaf.prog w = .ok (.bool false) w := neq_ptr 38 41 Ybaf.underlying38 (by kernel_rfl) p w
theorem neq26 (p : Option Addr) (w : World) : (binOp .neq 26 (.pointer p) (.pointer p)).run Ybaf.prog w = .ok (.bool false) w := neq_ptr 26 36 Ybaf.underlying26 (by kernel_rfl) p w
theorem neq76 (p : Option Addr) (w : World) : (binOp .neq 76 (.pointer p) (.pointer p)).run Ybaf.prog w = .ok (.bool false) w := neq_ptr 76 5 Ybaf.underlying76 (by kernel_rfl) p w

/-- What stands behind Begin. -/
def Post (w : World) (vb nb0 : Nat) (nd : Nat → Nat) (N R : Nat) (dv dn : Int) : Prop :=
  w.cell? ⟨vb, 0, none⟩ = some (.slice (some ⟨nb0, 0, none⟩) N N) ∧ w.cell? ⟨vb, 1, none⟩ = some (.int .i64 dv) ∧ (∃ z, Blk w nb0 (Pre N N (fun s => .pointer (some ⟨nd s, 0, none⟩)) z) 46) ∧
    ∀ j, j < N → w.cell? ⟨nd j, 15, none⟩ = some (.int .i64 (if (j : Int) = dn then 1 else 0)) ∧ w.cell? ⟨nd j, 10, none⟩ = some (.int .i64 R)

theorem post_same {w w' : World} {vb nb0 : Nat} {nd : Nat → Nat} {N T R me : Nat} {md : Int} {kp sp cp : Option Addr} {ev hv : Nat → Value} {rs : Nat → List Ref} (h : Net w vb nb0 nd N T R me md kp sp cp ev hv rs) (hF : Fr [] w w') : Post w' vb nb0 nd N R 0 (-1) := by
  have k := h.fr hF
  refine ⟨k.v.cell 0 rfl, k.v.cell 1 rfl, k.row, fun j hj => ?_⟩
  rw [if_neg (by omega)]
  have hn := k.node j hj
  unfold nodeC at hn
  exact ⟨hn.cell 15 rfl, hn.cell 10 rfl⟩
theorem post_v {w w' : World} {vb nb0 : Nat} {nd : Nat → Nat} {N T R me : Nat} {md : Int} {kp sp cp : Option Addr} {ev hv : Nat → Value} {rs : Nat → List Ref} (h : Net w vb nb0 nd N T R me md kp sp cp ev hv rs) (hF : Fr [vb] w w') (hb : Blk w' vb [.slice (some ⟨nb0, 0, none⟩) N N, .int .i64 1] 45) : Post w' vb nb0 nd N R 1 (-1) := by
  obtain ⟨z, hz⟩ := h.row
  refine ⟨hb.cell 0 rfl, hb.cell 1 rfl, ⟨z, hF.blk hz (by have := hz.ne h.v (by decide); simpa using this)⟩, fun j hj => ?_⟩
  rw [if_neg (by omega)]
  have hn := hF.blk (h.node j hj) (by have := (h.node j hj).ne h.v (by decide); simpa using this)
  unfold nodeC at hn
  exact ⟨hn.cell 15 rfl, hn.cell 10 rfl⟩
theorem post_n {w w' : World} {vb nb0 : Nat} {nd : Nat → Nat} {N T R me : Nat} {md : Int} {kp sp cp : Option Addr} {ev hv : Nat → Value} {rs : Nat → List Ref} (h : Net w vb nb0 nd N T R me md kp sp cp ev hv rs) (s : Nat) (hs : s < N) (hinj : ∀ j, j < N → j ≠ s → nd j ≠ nd s) (hF : Fr [nd s] w w')
    (hb : Blk w' (nd s) (nodeC kp (.pointer sp) (.pointer cp) (ev s) (hv s) N T R me s md 1) 55) : Post w' vb nb0 nd N R 0 (s : Nat) := by
  obtain ⟨z, hz⟩ := h.row
  have hv := hF.blk h.v (by have := h.v.ne (h.node s hs) (by decide); simpa using this)
  refine ⟨hv.cell 0 rfl, hv.cell 1 rfl, ⟨z, hF.blk hz (by have := hz.ne (h.node s hs) (by decide); simpa using this)⟩, fun j hj => ?_⟩
  by_cases hjs : j = s
  · subst hjs
    rw [if_pos rfl]
    unfold nodeC at hb
    exact ⟨hb.cell 15 rfl, hb.cell 10 rfl⟩
  · rw [if_neg (by omega)]
    have hn := hF.blk (h.node j hj) (by simpa using hinj j hj hjs)
    unfold nodeC at hn
    exact ⟨hn.cell 15 rfl, hn.cell 10 rfl⟩
end Go.Proofs.YbulkdnmcFmt
