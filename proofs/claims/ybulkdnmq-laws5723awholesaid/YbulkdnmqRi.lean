/- Law A: the model reader's in (10); zzs5723aeq (11). -/
import Derived.Test.YbulkdnmqRd
namespace Go.Proofs.Ybulkdnmq
open Go.RowKit
set_option linter.unusedSimpArgs false
set_option linter.unusedVariables false

set_option maxHeartbeats 8000000 in
set_option maxRecDepth 100000 in
theorem rd_int (r : Nat) (ka : Option Addr) (kn kc kb : Nat) (zs : List UInt8) (st : St) (w : World) (hr : RdSt w r ka kn kc zs st) (hs : Sl w kb 0 ka kn kc zs) (hm : kn ≤ 140737488355328) :
    Calls Yba.prog 10 #[.pointer (some ⟨r, 0, none⟩)] w fun e w' => e = .returned (.int .i64 (rdInt st).1) ∧ Hid (Fr [r] w w' ∧ RdSt w' r ka kn kc zs (rdInt st).2) := by
  cases st with
  | none =>
    obtain ⟨pos, hp, hr⟩ := hr
    go_enter Yba.func10, Yba.ntmps10
    go_wp2_with fail
    refine (uv_failed r pos _ w hr).mono ?_
    rintro e w1 ⟨rfl, rfl⟩
    go_wp2
    go_ret
    exact ⟨rfl, Fr.refl _ _, pos, hp, hr⟩
  | some l =>
    obtain ⟨pos, hp, rfl, hr⟩ := hr
    have hlen := hs.len
    obtain ⟨⟨u, n⟩, hmn⟩ : ∃ x, Lib.uvarintDec (zs.drop pos) = x := ⟨_, rfl⟩
    have hle := dec_le (zs.drop pos)
    have hlt := Lib.uvarintDec_lt (zs.drop pos)
    rw [hmn] at hle hlt
    simp only [List.length_drop] at hle hlt
    have hval : rdInt (some (zs.drop pos)) = if n ≤ 0 then (0, none) else (Lib.unzigzag u, some ((zs.drop pos).drop n.toNat)) := by simp only [rdInt, hmn]
    by_cases hn : n ≤ 0
    · rw [hval, if_pos hn]
      have hd0 : decide (0 < n) = false := by simp; omega
      have hd1 : n.toNat = 0 := by omega
      go_enter Yba.func10, Yba.ntmps10
      go_wp2_with fail
      refine (uv r pos ka kn kc kb zs u n w hr hs hp hm hmn).mono ?_
      rintro e w1 ⟨rfl, hF, hr1⟩
      rw [hd0] at hr1 ⊢
      rw [hd1] at hr1
      clear hr hmn hval
      go_wp2
      go_ret
      exact ⟨rfl, hF, pos, hp, hr1⟩
    · have hd0 : decide (0 < n) = true := by simp; omega
      obtain ⟨k, rfl⟩ : ∃ k : Nat, n = k := ⟨n.toNat, by omega⟩
      rw [if_neg hn] at hval
      simp only [Int.toNat_natCast, List.drop_drop] at hval
      have hand := Lib.u64_and1 (u : Int) (by omega) (by omega)
      rw [hval]
      by_cases hodd : u % 2 = 0
      · have hand0 : bits .and .u64 (u : Int) 1 = 0 := by rw [hand]; omega
        have hz : Lib.unzigzag u = (u : Int) / 2 := by simp [Lib.unzigzag, hodd]
        rw [hz]
        clear hand hodd
        go_enter Yba.func10, Yba.ntmps10
        go_wp2_with fail
        refine (uv r pos ka kn kc kb zs u k w hr hs hp hm hmn).mono ?_
        rintro e w1 ⟨rfl, hF, hr1⟩
        rw [hd0] at hr1 ⊢
        rw [Int.toNat_natCast] at hr1
        clear hr hmn hval hd0 hn
        go_wp2
        go_ret
        exact ⟨rfl, hF, pos + k, by omega, rfl, hr1⟩
      · have hand1 : bits .and .u64 (u : Int) 1 = 1 := by rw [hand]; omega
        have hnot : bits .xor .i64 (-1) ((u : Int) / 2) = -((u : Int) / 2) - 1 := by
          have h3 := Lib.i64_not (u / 2) (by omega)
          rw [show (((u / 2 : Nat) : Int)) = (u : Int) / 2 by omega] at h3
          exact h3
        have hz : Lib.unzigzag u = -((u : Int) / 2) - 1 := by simp [Lib.unzigzag, hodd]
        rw [hz]
        clear hand hodd
        go_enter Yba.func10, Yba.ntmps10
        go_wp2_with fail
        refine (uv r pos ka kn kc kb zs u k w hr hs hp hm hmn).mono ?_
        rintro e w1 ⟨rfl, hF, hr1⟩
        rw [hd0] at hr1 ⊢
        rw [Int.toNat_natCast] at hr1
        clear hr hmn hval hd0 hn
        go_wp2
        go_ret
        exact ⟨rfl, hF, pos + k, by omega, rfl, hr1⟩

set_option maxHeartbeats 8000000 in
set_option maxRecDepth 100000 in
/-- Two slices with the same bytes. -/
theorem eq_same (db off db2 off2 : Nat) (a a2 : Option Addr) (n c c2 : Nat) (l : List UInt8) (w : World) (h1 : Sl w db off a n c l) (h2 : Sl w db2 off2 a2 n c2 l) (hm : n ≤ 140737488355328) :
    Calls Yba.prog 11 #[.slice a n c, .slice a2 n c2] w fun e w' => e = .returned (.bool true) ∧ ∃ q, w' = w.drewN q := by
  have hlen := h1.len
  go_enter Yba.func11, Yba.ntmps11
  go_wp2
  go_loopw [5] (fun vi wr => ∃ k q : Nat, vi = .int .i64 k ∧ wr = w.drewN q ∧ k ≤ n)
    (fun vi _ => n - (intOf vi).toNat)
  case atStart => exact ⟨0, 0, rfl, rfl, by omega⟩
  case round =>
    obtain ⟨k, q, rfl, rfl, hk⟩ := hrel
    by_cases hkn : k < n
    · have c1 := h1.cell k (by omega)
      have c2 := h2.cell k (by omega)
      have e1 := h1.addr (by omega)
      have e2 := h2.addr (by omega)
      generalize l[k]'(by omega) = b at c1 c2
      clear h1 h2
      subst e1 e2
      go_wp2
      go_quiet (fail)
      go_wp2
      go_roundw
      case rel => exact ⟨k + 1, _, by simp, rfl, by omega⟩
      case measure => simp [intOf]; omega
    · go_wp2
      go_ret
      exact ⟨rfl, q, rfl⟩
end Go.Proofs.Ybulkdnmq
