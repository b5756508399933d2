/- Rows that are filled from the front ('Pre'); what a frame says (plain). -/
import Derived.Test.YbulkdnmcFmtFmt
import Derived.Laws.MakeOwn
import Derived.Laws.CopyRow
namespace Go.Proofs.YbulkdnmcFmt
open Go.RowKit
set_option linter.unusedSimpArgs false
set_option linter.unusedVariables false

/-- n cells: the first p of them f's, the rest z's. -/
def Pre (n p : Nat) (f z : Nat → Value) : List Value := (List.range n).map fun m => if m < p then f m else z m

theorem Pre.length (n p : Nat) (f z : Nat → Value) : (Pre n p f z).length = n := by simp [Pre]
theorem Pre.get (n p : Nat) (f z : Nat → Value) {m : Nat} (h : m < n) : (Pre n p f z)[m]? = some (if m < p then f m else z m) := by simp [Pre, h]
theorem Pre.done {n p : Nat} {f z : Nat → Value} {m : Nat} (h : m < n) (hp : m < p) : (Pre n p f z)[m]? = some (f m) := by rw [Pre.get n p f z h, if_pos hp]
theorem Pre.set (n p : Nat) (f z : Nat → Value) : (Pre n p f z).set p (f p) = Pre n (p + 1) f z := by
  apply List.ext_getElem?
  intro i
  by_cases hi : i < n
  · rw [Pre.get n (p + 1) f z hi]
    by_cases h : i = p
    · subst h
      rw [List.getElem?_set_self (by rw [Pre.length]; exact hi), if_pos (by omega)]
    · rw [List.getElem?_set_ne (by omega), Pre.get n p f z hi]
      by_cases h2 : i < p
      · rw [if_pos h2, if_pos (by omega)]
      · rw [if_neg h2, if_neg (by omega)]
  · rw [List.getElem?_eq_none (by rw [List.length_set, Pre.length]; omega), List.getElem?_eq_none (by rw [Pre.length]; omega)]
theorem Pre.row (n p q : Nat) (f z : Nat → Value) (h : p + q ≤ n) : (Pre n p f z).take p ++ (List.range q).map (fun j => f (p + j)) ++ (Pre n p f z).drop (p + q) = Pre n (p + q) f z := by
  apply List.ext_getElem?
  intro i
  have hl : ((Pre n p f z).take p).length = p := by rw [List.length_take, Pre.length]; omega
  by_cases h1 : i < p
  · rw [List.append_assoc, List.getElem?_append_left (by omega), List.getElem?_take, if_pos h1, Pre.done (by omega) h1, Pre.done (by omega) (by omega)]
  · by_cases h2 : i < p + q
    · rw [List.append_assoc, List.getElem?_append_right (by omega), hl, List.getElem?_append_left (by simp; omega), Pre.done (by omega) h2]
      rw [List.getElem?_map, List.getElem?_range (by omega), Option.map_some, show p + (i - p) = i by omega]
    · rw [List.getElem?_append_right (by simp [hl]; omega)]
      simp only [List.length_append, hl, List.length_map, List.length_range, List.getElem?_drop]
      rw [show p + q + (i - (p + q)) = i by omega]
      by_cases h3 : i < n
      · rw [Pre.get _ _ _ _ h3, Pre.get _ _ _ _ h3, if_neg h1, if_neg h2]
      · rw [List.getElem?_eq_none (by rw [Pre.length]; omega), List.getElem?_eq_none (by rw [Pre.length]; omega)]

theorem Blk.step {w : World} {b n p : Nat} {f z : Nat → Value} {t : TypeId} (h : Blk w b (Pre n p f z) t) : Blk (w.setCell ⟨b, p, none⟩ (f p)) b (Pre n (p + 1) f z) t := by
  have := h.setCell p (f p)
  rw [Pre.set] at this
  exact this
theorem Blk.pre {w : World} {b n p : Nat} {f z : Nat → Value} {t : TypeId} (h : Blk w b (Pre n p f z) t) {m : Nat} (hm : m < n) : w.cell? ⟨b, m, none⟩ = some (if m < p then f m else z m) := h.cell m (Pre.get n p f z hm)
theorem Blk.preOk {w : World} {b n p : Nat} {f z : Nat → Value} {t : TypeId} (h : Blk w b (Pre n p f z) t) {m : Nat} (hm : m < n) (hp : m < p) : w.cell? ⟨b, m, none⟩ = some (f m) := h.cell m (Pre.done hm hp)

/-- make: a new row, nothing of it filled. -/
theorem mkAny (t e : TypeId) (sz by8 : Nat) (ht : Ybaf.prog.underlying t = some (.slice e)) (hinfo : (Ybaf.prog.info? e).map (fun i => (i.size, i.bytes, i.zero.isSome)) = some (sz, by8, true)) (c : Nat) (hb : by8 * c ≤ 281474976710656) (hc : c ≤ 4611686018427387904) :
    ∃ (X : Obj) (z : Nat → Value), (∀ w, (Instr.makeSlice t (.int .i64 c) (.int .i64 c)).run Ybaf.prog w = .ok (.slice (some ⟨w.heap.size, 0, none⟩) c c) (w.alloc X)) ∧ ∀ (w : World) (f : Nat → Value), Blk (w.alloc X) w.heap.size (Pre (c * sz) 0 f z) e := by
  obtain ⟨i, hi, hx⟩ := Option.map_eq_some_iff.1 hinfo
  simp only [Prod.mk.injEq] at hx
  obtain ⟨h1, h2, h3⟩ := hx
  obtain ⟨z, hz⟩ := Option.isSome_iff_exists.1 h3
  refine ⟨.cells (madeCells z.cells (c * sz)) e, fun m => z.cells[m % z.cells.size]!, fun w => ?_, fun w f => ?_⟩
  · have hb' : (by8 : Int) * (c : Int) ≤ 281474976710656 := by
      rw [← Int.natCast_mul]
      omega
    have h := run_make (P := Ybaf.prog) w t e i z ht hi hz .i64 .i64 (c : Int) (c : Int) (by omega) (by omega) (by rw [h2]; exact hb') (by omega)
    rw [h1, Int.toNat_natCast] at h
    exact h
  · have h := Blk.new w (madeCells z.cells (c * sz)) e
    refine h.congr ?_
    simp [madeCells, Pre]

/-! ### a frame -/
def bt (F : List UInt8) (i : Nat) : UInt8 := F.getD i 0
def klen (F : List UInt8) : Nat := be32 (bt F 0) (bt F 1) (bt F 2) (bt F 3)
def cnt (F : List UInt8) : Nat := be16 (bt F (4 + klen F)) (bt F (5 + klen F))
def sgn (F : List UInt8) (i : Nat) : Nat := be16 (bt F (6 + klen F + 66 * i)) (bt F (6 + klen F + 66 * i + 1))
def sgb (F : List UInt8) (i j : Nat) : UInt8 := bt F (6 + klen F + 66 * i + 2 + j)
def OkF (F : List UInt8) : Prop := 4 ≤ F.length ∧ klen F + 2 ≤ F.length - 4 ∧ 0 < klen F ∧ klen F ≤ 65536 ∧ F.length - (6 + klen F) = cnt F * 66

theorem bt_lt (F : List UInt8) (i : Nat) : (bt F i).toNat < 256 := (bt F i).toNat_lt
theorem be16_lt (x y : UInt8) : be16 x y < 65536 := by have := x.toNat_lt; have := y.toNat_lt; unfold be16; omega
theorem be32_lt (x y z u : UInt8) : be32 x y z u < 4294967296 := by have := x.toNat_lt; have := y.toNat_lt; have := z.toNat_lt; have := u.toNat_lt; unfold be32; omega
theorem sgn_lt (F : List UInt8) (i : Nat) : sgn F i < 65536 := be16_lt _ _
theorem cnt_lt (F : List UInt8) : cnt F < 65536 := be16_lt _ _
theorem klen_lt (F : List UInt8) : klen F < 4294967296 := be32_lt _ _ _ _

theorem Sl.bt {w : World} {db off : Nat} {a : Option Addr} {n c : Nat} {l : List UInt8} (h : Sl w db off a n c l) (i : Nat) (hi : i < n) : w.cell? ⟨db, off + i, none⟩ = some (.int .u8 (bt l i).toNat) := by
  have hl := h.len
  rw [h.cell i (by omega)]
  simp [YbulkdnmcFmt.bt, (by omega : i < l.length)]
end Go.Proofs.YbulkdnmcFmt
