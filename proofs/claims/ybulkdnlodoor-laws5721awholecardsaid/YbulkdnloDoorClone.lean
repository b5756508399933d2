/- slices.Clone (function 5), bytes.Equal (function 9). -/
import Derived.Test.YbulkdnloDoorIn
import Derived.Laws.BytesArg
namespace Go.Proofs.YbulkdnloDoor
open Go.RowKit
set_option linter.unusedSimpArgs false

/-- 'string(v)' gives just these bytes. -/
def Str (w : World) (v : Value) (zs : List Int) : Prop := (convert 22 9 v).run Ybad.prog w = .ok (.string (strOfNums zs)) w

theorem str_zero (x : Option Addr) (c : Nat) (w : World) : Str w (.slice x 0 c) [] := by
  unfold Str
  cases x with
  | none => rw [run_convert_bytes_nil w 22 5 Ybad.underlying22 Ybad.underlying5 0 c 9 Ybad.underlying9]; rfl
  | some x =>
    have hl : (loadCells x 0).run Ybad.prog w = .ok (([] : List Int).map (Value.int .u8)).toArray w := by simpa using run_loadCells_list (P := Ybad.prog) w x [] (by simp)
    rw [run_convert_bytes_string w 22 9 5 _ 0 c Ybad.underlying22 Ybad.underlying5 Ybad.underlying9, run_bytesToString w x 0 c [] hl]; rfl
theorem str_of {w : World} {a0 : Option Addr} {len cap db off : Nat} {zs : List Int} (ha : 0 < len → a0 = some ⟨db, off, none⟩) (hz : zs.length = len) (hd : ∀ i, i < len → w.cell? ⟨db, off + i, none⟩ = some (.int .u8 (zs.getD i 0))) : Str w (.slice a0 len cap) zs := by
  rcases Nat.eq_zero_or_pos len with h0 | h0
  · subst h0
    obtain rfl := List.eq_nil_of_length_eq_zero hz
    exact str_zero _ _ _
  · rw [ha h0]
    exact run_convert_bytes_arg w 22 5 Ybad.underlying22 Ybad.underlying5 db off len cap zs hz hd 9 Ybad.underlying9

/-- bytes.Equal at two slices that hold the same bytes. -/
theorem bytesEqual_same (v1 v2 : Value) (zs : List Int) (w : World) (h1 : Str w v1 zs) (h2 : Str w v2 zs) :
    Calls Ybad.prog 9 #[v1, v2] w fun e w' => e = .returned (.bool true) ∧ w' = w := by
  unfold Str at h1 h2
  go_enter Ybad.func9, Ybad.ntmps9
  go_wp2
  go_ret
  exact ⟨by simp, rfl⟩

theorem build0 (w : World) : (Instr.buildSlice 22 0 #[]).run Ybad.prog w = .ok (.slice (some ⟨w.heap.size, 0, none⟩) 0 0) (w.alloc (.cells #[] 5)) := by kernel_rfl
theorem some_ne_nil (x : Addr) (n c : Nat) (w : World) : (binOp .eql 22 (.slice (some x) n c) (.slice none 0 0)).run Ybad.prog w = .ok (.bool false) w := by kernel_rfl
theorem nil_eq_nil (w : World) : (binOp .eql 22 (.slice none 0 0) (.slice none 0 0)).run Ybad.prog w = .ok (.bool true) w := by kernel_rfl

/-- The clone: it reads as the bytes did, in every world that keeps its block. -/
def Copied (w : World) (v : Value) (zs : List Int) : Prop := ∃ own : List Nat, (∀ b ∈ own, b < w.heap.size) ∧ ∀ (own' : List Nat) (w' : World), Fr own' w w' → (∀ b ∈ own, b ∉ own') → Str w' v zs

set_option maxHeartbeats 800000 in
theorem clone_any (a0 : Option Addr) (len cap db off : Nat) (zs : List Int) (w : World) (ha : 0 < len → a0 = some ⟨db, off, none⟩) (hn : a0 = none → len = 0 ∧ cap = 0) (hz : zs.length = len) (hd : ∀ i, i < len → w.cell? ⟨db, off + i, none⟩ = some (.int .u8 (zs.getD i 0))) (hm : len ≤ 1048576) :
    Calls Ybad.prog 5 #[.slice a0 len cap] w fun e w' => ∃ v, e = .returned v ∧ Hid (Fr [] w w' ∧ ∃ own : List Nat, (∀ b ∈ own, w.heap.size ≤ b ∧ b < w'.heap.size) ∧ ∀ (own' : List Nat) (w2 : World), Fr own' w' w2 → (∀ b ∈ own, b ∉ own') → Str w2 v zs) := by
  cases a0 with
  | none =>
    obtain ⟨rfl, rfl⟩ := hn rfl
    obtain rfl := List.eq_nil_of_length_eq_zero hz
    have hq := nil_eq_nil
    go_enter Ybad.func5, Ybad.ntmps5
    go_wp2
    go_ret
    exact ⟨_, rfl, Fr.refl _ _, [], by simp, fun _ w2 _ _ => str_zero _ _ _⟩
  | some x =>
    have hq := some_ne_nil x len cap
    have hb := build0
    obtain ⟨i, hi, hzz⟩ := Option.map_eq_some_iff.1 Ybad.info5
    simp only [Prod.mk.injEq] at hzz
    obtain ⟨hz0, hs0, hb0⟩ := hzz
    have hown : (w.alloc (.cells #[] 5)).ownsRow w.heap.size 5 1 (.slice (some ⟨w.heap.size, 0, none⟩) 0 0) 0 [] :=
      ⟨rfl, Or.inr ⟨w.heap.size, 0, #[], rfl, Nat.le_refl _, (MapKept.heap_alloc w _).1, Nat.le_refl _, by decide, rfl, rfl⟩⟩
    have hsrc : ∀ (j : Nat) (u : Value), (bv zs)[j]? = some u → (w.alloc (.cells #[] 5)).cell? (x.add j) = some u := fun j u hu => by
      have hj : j < (bv zs).length := (List.getElem?_eq_some_iff.1 hu).1
      rw [bv_length] at hj
      rw [bv_get hj] at hu
      have hx := Option.some.inj (ha (by omega))
      rw [hx, Addr.add_mid', ← hu]
      exact ((Fr.refl [] w).alloc _).dat (by simp) hd j (by omega)
    have hnl : (bv zs).length = len * 1 := by rw [bv_length]; omega
    go_enter Ybad.func5, Ybad.ntmps5
    go_wp2_with (at_builtin; refine wpList_append_own _ rfl _ _ _ rfl w.heap.size 5 i (.int .u8 0) 1 1 Ybad.underlying22 hi hz0 hs0 hb0 rfl (by omega) (.slice (some ⟨w.heap.size, 0, none⟩) 0 0) 0 [] rfl hown x len cap (bv zs) rfl hnl hsrc (bv_one _) (by unfold maxLen; omega) (by omega) (by simp) ?_; intro v' w' hrow hgrow hnil)
    have hF : Fr [w.heap.size] (w.alloc (.cells #[] 5)) w' := ⟨hgrow.os, hgrow.tape, hgrow.output, hgrow.size, fun k hk hn => hgrow.block k hk (fun e => hn (by simp [Value.ownBlock] at e; simp [e]))⟩
    have hF0 : Fr [] w w' := Fr.drop (((Fr.refl [w.heap.size] w).alloc _).trans hF) (by simp)
    obtain ⟨hl, hv | ⟨g, cp, cur, hv, hg, hh, hle, hcm, hsz, htk⟩⟩ := hrow
    · exfalso
      have := hnil.1 hv.1
      simp at this
    have hglt : g < w'.heap.size := (Array.getElem?_eq_some_iff.1 hh).1
    have hfin : ∀ (own' : List Nat) (w2 : World), Fr own' w' w2 → (∀ b ∈ [g], b ∉ own') → Str w2 v' zs := by
      intro own' w2 hF2 hno
      have hh2 := (hF2.block g hglt (hno g (by simp))).trans hh
      rw [hv]
      refine str_of (db := g) (off := 0) (fun _ => rfl) (by omega) ?_
      intro j hj
      have hjz : j < zs.length := by omega
      have h1 := bv_get hjz
      have h2 : cur.toList[j]? = some (.int .u8 (zs.getD j 0)) := by
        have h3 : (cur.toList.take ((0 + len) * 1))[j]? = some (.int .u8 (zs.getD j 0)) := by rw [htk]; simpa using h1
        rw [List.getElem?_take] at h3
        rw [if_pos (by omega)] at h3
        exact h3
      simp only [World.cell?, hh2, Nat.zero_add]
      simpa using h2
    clear hd hown hgrow hnil hh htk hsz
    go_wp2
    go_ret
    exact ⟨v', rfl, hF0, [g], by simp; omega, hfin⟩
end Go.Proofs.YbulkdnloDoor
