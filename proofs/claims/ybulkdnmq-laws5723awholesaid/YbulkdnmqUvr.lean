/- Law A: encoding/binary's Uvarint (34) and Varint (24) over this program. -/
import Derived.Test.YbulkdnmqRd
namespace Go.Proofs.Ybulkdnmq
open Go.RowKit
set_option linter.unusedSimpArgs false
set_option linter.unusedVariables false
set_option maxHeartbeats 8000000 in
set_option maxRecDepth 100000 in
/-- encoding/binary.Uvarint (34). -/
theorem uvarint_any {w : World} {db off : Nat} {a : Option Addr} {n c : Nat} {l : List UInt8} (h : Sl w db off a n c l) (hm : n ≤ 140737488355328) :
    Calls Yba.prog 34 #[.slice a n c] w fun e w' => e = .returned (.tuple #[.int .u64 (Lib.uvarintDec l).1, .int .i64 (Lib.uvarintDec l).2]) ∧ w' = w := by
  obtain ⟨⟨m, r⟩, hmr⟩ : ∃ x, Lib.uvarintDec l = x := ⟨_, rfl⟩
  rw [hmr]
  have hlen := h.len
  go_enter Yba.func34, Yba.ntmps34
  go_wp2
  go_loop [4, 5, 10] (fun vx vs vi => ∃ k acc : Nat, vi = .int .i64 k ∧ vs = .int .u64 ((7 * k : Nat) : Int) ∧ vx = .int .u64 acc ∧ k ≤ 10 ∧ k ≤ n ∧ acc < 2 ^ (7 * k) ∧ acc < 2 ^ 64 ∧ (m, r) = Lib.uvarintFrom k acc (l.drop k))
    (fun _ _ vi => n - (intOf vi).toNat)
  case atStart => exact ⟨0, 0, rfl, rfl, rfl, by omega, by omega, by decide, by decide, hmr.symm⟩
  case round =>
    clear hmr
    obtain ⟨k, acc, rfl, rfl, rfl, hk10, hkn, hacc, hacc2, hdec⟩ := hrel
    by_cases hk : k < n
    · have hc := h.cell k (by omega)
      have hka := h.addr (by omega)
      have hdrop : l.drop k = l[k]'(by omega) :: l.drop (k + 1) := List.drop_eq_getElem_cons (by omega)
      rw [hdrop] at hdec
      generalize l[k]'(by omega) = b at hc hdec
      have hb256 : b.toNat < 256 := b.toNat_lt
      subst hka
      clear hdrop h
      by_cases h10 : k = 10
      · subst h10
        have hF : Lib.uvarintFrom 10 acc (b :: l.drop (10 + 1)) = (0, -11) := by simp [Lib.uvarintFrom]
        rw [hF] at hdec
        obtain ⟨rfl, rfl⟩ := Prod.mk.inj hdec
        clear hdec hF
        go_wp2
        go_ret2
        exact ⟨rfl, rfl⟩
      · have b0 : ((k : Int) == 10) = false := by simp; omega
        by_cases hb : b.toNat < 128
        · have b1 : ((b.toNat : Int) < 128) := by omega
          by_cases h9 : k = 9 ∧ 1 < b.toNat
          · have hF : Lib.uvarintFrom k acc (b :: l.drop (k + 1)) = (0, -10) := by obtain ⟨rfl, h1⟩ := h9; simp [Lib.uvarintFrom, hb, h1]
            rw [hF] at hdec
            obtain ⟨rfl, rfl⟩ := Prod.mk.inj hdec
            have b2 : decide ((b.toNat : Int) > 1) = true := by simp; omega
            obtain ⟨rfl, _⟩ := h9
            clear hdec hF
            go_wp2
            go_ret2
            exact ⟨rfl, rfl⟩
          · obtain ⟨hor, hn⟩ := or_last k acc b (by omega) hacc hb h9 (l.drop (k + 1))
            rw [← hdec] at hor hn
            simp only at hor hn
            subst hn
            by_cases hk9 : k = 9
            · have b2 : decide ((b.toNat : Int) > 1) = false := by simp; omega
              have b4 : ((k : Int) == 9) = true := by simp; omega
              clear h9 hdec hk9 h10
              go_wp2
              go_ret2
              exact ⟨rfl, rfl⟩
            · have b4 : ((k : Int) == 9) = false := by simp; omega
              clear h9 hdec hk9 h10
              go_wp2
              go_ret2
              exact ⟨rfl, rfl⟩
        · obtain ⟨a2, hor, ha1, ha2, hF⟩ := or_step k acc b (by omega) hacc hb (l.drop (k + 1))
          have b1 : ¬ ((b.toNat : Int) < 128) := by omega
          have hk9 : k < 10 := by omega
          clear h10
          go_wp2
          refine ⟨⟨k + 1, a2, ?_, ?_, rfl, by omega, by omega, ha2, ha1, hdec.trans hF⟩, by simp [intOf]; omega⟩
          · simp
          · first | rfl | (congr 1; omega)
    · have hF : Lib.uvarintFrom k acc (l.drop k) = (0, 0) := by rw [List.drop_eq_nil_of_le (by omega)]; rfl
      rw [hF] at hdec
      obtain ⟨rfl, rfl⟩ := Prod.mk.inj hdec
      go_wp2
      go_ret2
      exact ⟨rfl, rfl⟩

set_option maxHeartbeats 8000000 in
set_option maxRecDepth 100000 in
/-- encoding/binary.Varint (24). -/
theorem varint_any {w : World} {db off : Nat} {a : Option Addr} {n c : Nat} {l : List UInt8} (h : Sl w db off a n c l) (hm : n ≤ 140737488355328) :
    Calls Yba.prog 24 #[.slice a n c] w fun e w' => e = .returned (.tuple #[.int .i64 (Lib.unzigzag (Lib.uvarintDec l).1), .int .i64 (Lib.uvarintDec l).2]) ∧ w' = w := by
  have hU := uvarint_any h hm
  have hu := Lib.uvarintDec_lt l
  obtain ⟨⟨u, r⟩, hd⟩ : ∃ x, Lib.uvarintDec l = x := ⟨_, rfl⟩
  rw [hd] at hU hu ⊢
  simp only at hU hu ⊢
  have hand := Lib.u64_and1 (u : Int) (by omega) (by omega)
  by_cases hodd : u % 2 = 0
  · have hand0 : bits .and .u64 (u : Int) 1 = 0 := by rw [hand]; omega
    have hz : Lib.unzigzag u = (u : Int) / 2 := by simp [Lib.unzigzag, hodd]
    rw [hz]
    clear hand hodd
    go_enter Yba.func24, Yba.ntmps24
    go_wp2_with fail
    refine hU.mono ?_
    rintro e w1 ⟨rfl, rfl⟩
    go_wp2
    go_ret2
    exact ⟨rfl, rfl⟩
  · have hand1 : bits .and .u64 (u : Int) 1 = 1 := by rw [hand]; omega
    have hnot : bits .xor .i64 (-1) ((u : Int) / 2) = -((u : Int) / 2) - 1 := by
      have h3 := Lib.i64_not (u / 2) (by omega)
      rw [show (((u / 2 : Nat) : Int)) = (u : Int) / 2 by omega] at h3
      exact h3
    have hz : Lib.unzigzag u = -((u : Int) / 2) - 1 := by simp [Lib.unzigzag, hodd]
    rw [hz]
    clear hand hodd
    go_enter Yba.func24, Yba.ntmps24
    go_wp2_with fail
    refine hU.mono ?_
    rintro e w1 ⟨rfl, rfl⟩
    go_wp2
    go_ret2
    exact ⟨rfl, rfl⟩
end Go.Proofs.Ybulkdnmq
