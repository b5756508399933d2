/- Law A: the plain side: what the two readers read (Lib.uvarintDec), that what was written is read back; slices of bytes ('Sl'). -/
import Derived.Test.YbulkdnmqBase
import Derived.Laws.BytesArg
import Derived.Lib.Varint
import Derived.Lib.Zigzag
import Derived.Lib.VarintDec
namespace Go.Proofs.Ybulkdnmq
open Go.RowKit
set_option linter.unusedSimpArgs false
set_option linter.unusedVariables false

/-! ### plain -/

theorem from_le : ∀ (l : List UInt8) (i acc : Nat), (Lib.uvarintFrom i acc l).2 ≤ (i : Int) + l.length
  | [], i, acc => by simp [Lib.uvarintFrom]
  | b :: r, i, acc => by
    have h := from_le r (i + 1) (acc + b.toNat % 128 * 2 ^ (7 * i))
    simp only [Lib.uvarintFrom, List.length_cons]
    split
    · simp; omega
    · split
      · split <;> simp <;> omega
      · omega
theorem dec_le (l : List UInt8) : (Lib.uvarintDec l).2 ≤ l.length := by
  have := from_le l 0 0
  unfold Lib.uvarintDec
  omega
theorem from_zero : ∀ (l : List UInt8) (i acc : Nat), (Lib.uvarintFrom i acc l).2 ≤ 0 → (Lib.uvarintFrom i acc l).1 = 0
  | [], i, acc, h => by simp [Lib.uvarintFrom]
  | b :: r, i, acc, h => by
    have h2 := from_zero r (i + 1) (acc + b.toNat % 128 * 2 ^ (7 * i))
    simp only [Lib.uvarintFrom] at h ⊢
    split
    · rfl
    · rename_i h1
      rw [if_neg h1] at h
      split
      · rename_i h3
        rw [if_pos h3] at h
        split
        · rfl
        · rename_i h4
          rw [if_neg h4] at h
          simp at h; omega
      · rename_i h3
        rw [if_neg h3] at h
        exact h2 h

/-- What is left, or none: a field was cut short. -/
abbrev St := Option (List UInt8)

def rdStr : St → List UInt8 × St
  | none => ([], none)
  | some l => if (Lib.uvarintDec l).2 ≤ 0 then ([], none)
      else if l.length - (Lib.uvarintDec l).2.toNat < (Lib.uvarintDec l).1 then ([], none)
      else ((l.drop (Lib.uvarintDec l).2.toNat).take (Lib.uvarintDec l).1, some (l.drop ((Lib.uvarintDec l).2.toNat + (Lib.uvarintDec l).1)))
def rdInt : St → Int × St
  | none => (0, none)
  | some l => if (Lib.uvarintDec l).2 ≤ 0 then (0, none) else (Lib.unzigzag (Lib.uvarintDec l).1, some (l.drop (Lib.uvarintDec l).2.toNat))

theorem from_back : ∀ (k : Nat) (x i acc : Nat) (r : List UInt8), x < 128 ^ (k + 1) → i + k ≤ 9 → (x < 2 ^ (64 - 7 * i)) →
    Lib.uvarintFrom i acc (Lib.uvarint x ++ r) = (acc + x * 2 ^ (7 * i), ((i + (Lib.uvarint x).length : Nat) : Int))
  | 0, x, i, acc, r, h, hi, hx => by
    have h' : x < 128 := by simpa using h
    have e : x.toUInt8.toNat = x := by simp; omega
    rw [Lib.uvarint_small h']
    simp only [List.cons_append, List.nil_append, Lib.uvarintFrom, e, List.length_singleton]
    rw [if_neg (by omega), if_pos h', if_neg ?_]
    · simp
    · rintro ⟨rfl, h1⟩
      simp at hx; omega
  | k + 1, x, i, acc, r, h, hi, hx => by
    by_cases h' : x < 128
    · have e : x.toUInt8.toNat = x := by simp; omega
      rw [Lib.uvarint_small h']
      simp only [List.cons_append, List.nil_append, Lib.uvarintFrom, e, List.length_singleton]
      rw [if_neg (by omega), if_pos h', if_neg (by omega)]
      simp
    · have e : (x % 128 + 128).toUInt8.toNat = x % 128 + 128 := by simp; omega
      rw [Lib.uvarint_big (by omega)]
      have hp : 2 ^ (64 - 7 * i) = 2 ^ (64 - 7 * (i + 1)) * 128 := by
        rw [show 64 - 7 * i = (64 - 7 * (i + 1)) + 7 by omega, Nat.pow_add]
      have ih := from_back k (x / 128) (i + 1) (acc + x % 128 * 2 ^ (7 * i)) r (by rw [Nat.pow_succ] at h; exact Nat.div_lt_of_lt_mul (by rw [Nat.mul_comm]; exact h)) (by omega)
        (Nat.div_lt_of_lt_mul (by rw [Nat.mul_comm, ← hp]; exact hx))
      simp only [List.cons_append, Lib.uvarintFrom, e, List.length_cons]
      rw [if_neg (by omega), if_neg (by omega), show (x % 128 + 128) % 128 = x % 128 by omega, ih]
      have e7 : 2 ^ (7 * (i + 1)) = 2 ^ (7 * i) * 128 := by rw [show 7 * (i + 1) = 7 * i + 7 by omega, Nat.pow_add]
      have em : acc + x % 128 * 2 ^ (7 * i) + x / 128 * 2 ^ (7 * (i + 1)) = acc + x * 2 ^ (7 * i) := by
        rw [e7]
        have hd : x = x % 128 + x / 128 * 128 := by omega
        generalize 2 ^ (7 * i) = q
        conv => rhs; rw [hd]
        rw [Nat.add_mul, Nat.mul_assoc, Nat.mul_comm 128 q, Nat.add_assoc]
      rw [em]
      congr 1
      omega
theorem dec_back (x : Nat) (hx : x < 18446744073709551616) (r : List UInt8) : Lib.uvarintDec (Lib.uvarint x ++ r) = (x, ((Lib.uvarint x).length : Int)) := by
  have h := from_back 9 x 0 0 r (Nat.lt_of_lt_of_le hx (by decide)) (by omega) (Nat.lt_of_lt_of_le hx (by decide))
  simpa [Lib.uvarintDec] using h

theorem rdStr_back (s r : List UInt8) (hs : s.length < 18446744073709551616) : rdStr (some (Lib.uvarint s.length ++ s ++ r)) = (s, some r) := by
  have h := dec_back s.length hs (s ++ r)
  rw [← List.append_assoc] at h
  have hp := Lib.uvarint_pos s.length
  simp only [rdStr, h, Int.toNat_natCast]
  rw [if_neg (by omega), if_neg (by simp only [List.length_append]; omega)]
  simp [List.append_assoc, List.drop_append]
theorem unzigzag_zigzag (x : Int) : Lib.unzigzag (Lib.zigzag x) = x := by
  unfold Lib.zigzag Lib.unzigzag
  split <;> split <;> omega
theorem rdInt_back (x : Int) (r : List UInt8) (h0 : -9223372036854775808 ≤ x) (h1 : x ≤ 9223372036854775807) : rdInt (some (Lib.uvarint (Lib.zigzag x) ++ r)) = (x, some r) := by
  have h := dec_back (Lib.zigzag x) (Lib.zigzag_lt h0 h1) r
  have hp := Lib.uvarint_pos (Lib.zigzag x)
  simp only [rdInt, h, Int.toNat_natCast]
  rw [if_neg (by omega), unzigzag_zigzag]
  simp

/-! ### slices -/
structure Sl (w : World) (db off : Nat) (a : Option Addr) (n c : Nat) (l : List UInt8) : Prop where
  len : l.length = n
  le : n ≤ c
  addr : 0 < n → a = some ⟨db, off, none⟩
  cell : ∀ j (hj : j < l.length), w.cell? ⟨db, off + j, none⟩ = some (.int .u8 (l[j]).toNat)

def cut (a : Option Addr) (lo c : Nat) : Option Addr := if c = lo then a else a.map (·.add lo)

theorem Sl.nil (w : World) (db off : Nat) : Sl w db off none 0 0 [] := ⟨rfl, Nat.le_refl _, by omega, fun j hj => by simp at hj⟩
theorem Sl.tail {w : World} {db off : Nat} {a : Option Addr} {n c : Nat} {l : List UInt8} (h : Sl w db off a n c l) (lo : Nat) (hlo : lo ≤ n) :
    Sl w db (off + lo) (cut a lo c) (n - lo) (c - lo) (l.drop lo) := by
  refine ⟨by simp [h.len], by have := h.le; omega, fun h0 => ?_, fun j hj => ?_⟩
  · have := h.le
    unfold cut
    rw [if_neg (by omega), h.addr (by omega)]
    simp [Addr.add_mid']
  · rw [List.length_drop] at hj
    rw [List.getElem_drop, Nat.add_assoc]
    exact h.cell (lo + j) (by omega)
theorem Sl.sub {w : World} {db off : Nat} {a : Option Addr} {n c : Nat} {l : List UInt8} (h : Sl w db off a n c l) (lo m : Nat) (hlo : lo + m ≤ n) :
    Sl w db (off + lo) (cut a lo c) m (c - lo) ((l.drop lo).take m) := by
  have k := h.tail lo (by omega)
  refine ⟨by simp [h.len]; omega, by have := h.le; omega, fun h0 => k.addr (by omega), fun j hj => ?_⟩
  rw [List.length_take] at hj
  rw [List.getElem_take]
  exact k.cell j (by omega)
theorem Sl.fr {own : List Nat} {w w' : World} (hF : Fr own w w') {db off : Nat} {a : Option Addr} {n c : Nat} {l : List UInt8} (h : Sl w db off a n c l) (hn : db ∉ own) : Sl w' db off a n c l := by
  refine ⟨h.len, h.le, h.addr, fun j hj => ?_⟩
  have := h.cell j hj
  rw [hF.cell (p := ⟨db, off + j, none⟩) ?_ hn]
  · exact this
  · simp only [World.cell?] at this
    rcases Nat.lt_or_ge db w.heap.size with hlt | hge
    · exact hlt
    · rw [Array.getElem?_eq_none hge] at this; simp at this
theorem Sl.drewN {w : World} {db off : Nat} {a : Option Addr} {n c : Nat} {l : List UInt8} (h : Sl w db off a n c l) (q : Nat) : Sl (w.drewN q) db off a n c l := h.fr ((Fr.refl [] w).drewN q) (by simp)

theorem run_tail (w : World) (a : Option Addr) (n c lo : Nat) (h : lo ≤ n) : (Instr.slice 22 (.slice a n c) (some (.int .i64 lo)) none none).run Yba.prog w = .ok (.slice (cut a lo c) (n - lo) (c - lo)) w := by
  rw [run_slice_l w 22 a n c (by kernel_rfl) .i64 (lo : Int) (by omega) (by omega)]
  simp [go_sem, cut]
theorem run_sub (w : World) (a : Option Addr) (n c lo m : Nat) (h : lo + m ≤ c) : (Instr.slice 22 (.slice a n c) (some (.int .i64 lo)) (some (.int .i64 ((lo + m : Nat) : Int))) none).run Yba.prog w = .ok (.slice (cut a lo c) m (c - lo)) w := by
  rw [run_slice_lh w 22 a n c (by kernel_rfl) .i64 .i64 (lo : Int) ((lo + m : Nat) : Int) (by omega) (by omega) (by omega)]
  simp [go_sem, cut]
  omega

theorem run_str {w : World} {db off : Nat} {a : Option Addr} {n c : Nat} {l : List UInt8} (h : Sl w db off a n c l) : (convert 22 9 (.slice a n c)).run Yba.prog w = .ok (.string ⟨l.toArray⟩) w := by
  rcases Nat.eq_zero_or_pos n with h0 | h0
  · obtain rfl := List.eq_nil_of_length_eq_zero (h.len.trans h0)
    subst h0
    cases a with
    | none => rw [run_convert_bytes_nil w 22 5 Yba.underlying22 Yba.underlying5 0 c 9 Yba.underlying9]; rfl
    | some x =>
      have hl : (loadCells x 0).run Yba.prog w = .ok (([] : List Int).map (Value.int .u8)).toArray w := by simpa using run_loadCells_list (P := Yba.prog) w x [] (by simp)
      rw [run_convert_bytes_string w 22 9 5 _ 0 c Yba.underlying22 Yba.underlying5 Yba.underlying9, run_bytesToString w x 0 c [] hl]; rfl
  · rw [h.addr h0]
    have e := run_convert_bytes_arg w 22 5 Yba.underlying22 Yba.underlying5 db off n c (l.map fun b => (b.toNat : Int)) (by simp [h.len])
      (fun i hi => by
        have hi' : i < l.length := by rw [h.len]; exact hi
        have := h.cell i hi'
        rw [this]
        simp [hi']) 9 Yba.underlying9
    have e2 : strOfNums (l.map fun b => (b.toNat : Int)) = ⟨l.toArray⟩ := by
      unfold strOfNums
      simp [List.map_map, Function.comp_def]
    rw [e, e2]

end Go.Proofs.Ybulkdnmq
