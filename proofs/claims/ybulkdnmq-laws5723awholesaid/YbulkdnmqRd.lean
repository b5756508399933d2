/- Law A: the model reader: uv (19), str (9), in (10); zzs5723aeq (11). -/
import Derived.Test.YbulkdnmqVar
import Derived.Lib.VarintBits
import Derived.Lib.Walk
import Derived.Deep.QuietTactic
import Derived.BigQuiet
namespace Go.Proofs.Ybulkdnmq
open Go.RowKit
set_option linter.unusedSimpArgs false
set_option linter.unusedVariables false

theorem or_sum (k acc m : Nat) (hacc : acc < 2 ^ (7 * k)) (hk : k < 10) (hm : m * 2 ^ (7 * k) < 2 ^ 64) : bits .or .u64 (acc : Int) (IntKind.u64.wrap ((m : Int) * 2 ^ (7 * k))) = ((acc + m * 2 ^ (7 * k) : Nat) : Int) := by
  have e : ((m : Int) * 2 ^ (7 * k)) = ((m * 2 ^ (7 * k) : Nat) : Int) := by simp
  have hp : 2 ^ (7 * k) ≤ 2 ^ 64 := Nat.pow_le_pow_right (by decide) (by omega)
  have h64 : (2 : Nat) ^ 64 = 18446744073709551616 := by decide
  rw [e, u64_wrap_id _ (by omega) (by omega)]
  rw [bits_join_low .u64 64 (by decide) wraps_u64 (7 * k) (acc : Int) _ (by omega) (by exact_mod_cast hacc) (by exact_mod_cast (Nat.lt_of_lt_of_le hacc hp)) (by omega) (by
    have := Nat.mul_mod_left m (2 ^ (7 * k))
    exact_mod_cast this) (by exact_mod_cast hm)]
  omega

theorem or_step (k acc : Nat) (b : UInt8) (hk : k < 10) (hacc : acc < 2 ^ (7 * k)) (hb : ¬ b.toNat < 128) (r : List UInt8) :
    ∃ a2 : Nat, bits .or .u64 (acc : Int) (IntKind.u64.wrap (IntKind.u64.wrap (bits .and .u8 (b.toNat : Int) 127) * 2 ^ (7 * k))) = (a2 : Int) ∧ a2 < 2 ^ 64 ∧ a2 < 2 ^ (7 * (k + 1)) ∧
      Lib.uvarintFrom k acc (b :: r) = Lib.uvarintFrom (k + 1) a2 r := by
  have hb256 : b.toNat < 256 := b.toNat_lt
  have h64 : (2 : Nat) ^ 64 = 18446744073709551616 := by decide
  have e1 : IntKind.u64.wrap (bits .and .u8 (b.toNat : Int) 127) = ((b.toNat % 128 : Nat) : Int) := by
    rw [u8_and127 _ (by omega) (by omega), u64_wrap_id _ (by omega) (by omega)]; omega
  rw [e1]
  have hF : Lib.uvarintFrom k acc (b :: r) = Lib.uvarintFrom (k + 1) (acc + b.toNat % 128 * 2 ^ (7 * k)) r := by
    simp only [Lib.uvarintFrom]
    rw [if_neg (by omega), if_neg hb]
  by_cases h9 : k = 9
  · subst h9
    refine ⟨_, (Int.toNat_of_nonneg (bits_lo_u64 _ _ _)).symm, ?_, ?_, ?_⟩
    · have := bits_hi_u64 .or (acc : Int) (IntKind.u64.wrap (((b.toNat % 128 : Nat) : Int) * 2 ^ (7 * 9)))
      have h0 := bits_lo_u64 .or (acc : Int) (IntKind.u64.wrap (((b.toNat % 128 : Nat) : Int) * 2 ^ (7 * 9)))
      omega
    · have := bits_hi_u64 .or (acc : Int) (IntKind.u64.wrap (((b.toNat % 128 : Nat) : Int) * 2 ^ (7 * 9)))
      have h0 := bits_lo_u64 .or (acc : Int) (IntKind.u64.wrap (((b.toNat % 128 : Nat) : Int) * 2 ^ (7 * 9)))
      have h70 : (2 : Nat) ^ (7 * (9 + 1)) = 1180591620717411303424 := by decide
      omega
    · rw [hF]; exact Lib.uvarintFrom_ten _ _ _
  · have hq : 2 ^ (7 * (k + 1)) = 2 ^ (7 * k) * 128 := by rw [show 7 * (k + 1) = 7 * k + 7 by omega, Nat.pow_add]
    have hq2 : 2 ^ (7 * (k + 1)) ≤ 2 ^ 63 := Nat.pow_le_pow_right (by decide) (by omega)
    have h63 : (2 : Nat) ^ 63 = 9223372036854775808 := by decide
    have hx : b.toNat % 128 * 2 ^ (7 * k) ≤ 127 * 2 ^ (7 * k) := Nat.mul_le_mul_right _ (by omega)
    refine ⟨_, or_sum k acc (b.toNat % 128) hacc hk (by omega), by omega, by omega, hF⟩
theorem or_last (k acc : Nat) (b : UInt8) (hk : k < 10) (hacc : acc < 2 ^ (7 * k)) (hb : b.toNat < 128) (h9 : ¬ (k = 9 ∧ 1 < b.toNat)) (r : List UInt8) :
    bits .or .u64 (acc : Int) (IntKind.u64.wrap ((b.toNat : Int) * 2 ^ (7 * k))) = (((Lib.uvarintFrom k acc (b :: r)).1 : Nat) : Int) ∧ (Lib.uvarintFrom k acc (b :: r)).2 = ((k + 1 : Nat) : Int) := by
  have h64 : (2 : Nat) ^ 64 = 18446744073709551616 := by decide
  have hF : Lib.uvarintFrom k acc (b :: r) = (acc + b.toNat * 2 ^ (7 * k), (k : Int) + 1) := by
    simp only [Lib.uvarintFrom]
    rw [if_neg (by omega), if_pos hb, if_neg h9]
  rw [hF]
  refine ⟨or_sum k acc b.toNat hacc hk ?_, by simp⟩
  by_cases h : k = 9
  · subst h
    have h63 : (2 : Nat) ^ (7 * 9) = 9223372036854775808 := by decide
    omega
  · have hq2 : 2 ^ (7 * k) ≤ 2 ^ 56 := Nat.pow_le_pow_right (by decide) (by omega)
    have h56 : (2 : Nat) ^ 56 = 72057594037927936 := by decide
    have hx : b.toNat * 2 ^ (7 * k) ≤ 127 * 2 ^ (7 * k) := Nat.mul_le_mul_right _ (by omega)
    omega

set_option maxHeartbeats 8000000 in
set_option maxRecDepth 100000 in
theorem uv (r pos : Nat) (ka : Option Addr) (kn kc kb : Nat) (zs : List UInt8) (m : Nat) (n : Int) (w : World) (hr : Blk w r [.slice ka kn kc, .int .i64 pos, .bool false] 51) (hs : Sl w kb 0 ka kn kc zs) (hp : pos ≤ kn) (hm : kn ≤ 140737488355328)
    (hmn : Lib.uvarintDec (zs.drop pos) = (m, n)) :
    Calls Yba.prog 19 #[.pointer (some ⟨r, 0, none⟩)] w fun e w' => e = .returned (.tuple #[.int .u64 m, .bool (decide (0 < n))]) ∧
      Fr [r] w w' ∧ Blk w' r [.slice ka kn kc, .int .i64 ((pos + n.toNat : Nat) : Int), .bool (!decide (0 < n))] 51 := by
  have z0 := hr.cell 0 rfl
  have z1 := hr.cell 1 rfl
  have z2 := hr.cell 2 rfl
  have v1 := hr.frozen 1
  have v2 := hr.frozen 2
  go_enter Yba.func19, Yba.ntmps19
  go_wp2
  go_loopw [4, 5] (fun vx vi wr => ∃ k acc q : Nat, vi = .int .i64 k ∧ vx = .int .u64 acc ∧ wr = w.drewN q ∧ k ≤ 10 ∧ pos + k ≤ kn ∧ acc < 2 ^ (7 * k) ∧ acc < 2 ^ 64 ∧ (m, n) = Lib.uvarintFrom k acc (zs.drop (pos + k)))
    (fun _ vi _ => 20 - (intOf vi).toNat)
  case atStart => exact ⟨0, 0, 0, rfl, rfl, rfl, by omega, by omega, by decide, by decide, hmn.symm⟩
  case round =>
    clear hmn
    obtain ⟨k, acc, q, rfl, rfl, rfl, hk10, hkn, hacc, hacc2, hdec⟩ := hrel
    have hl := hs.len
    by_cases hk : pos + k < kn ∧ k < 10
    · obtain ⟨hk1, hk2⟩ := hk
      have t1 : decide ((pos : Int) + (k : Int) < (kn : Int)) = true := by simp; omega
      have t2 : decide ((k : Int) < 10) = true := by simp; omega
      have hc := hs.cell (pos + k) (by omega)
      have hka := hs.addr (by omega)
      have hdrop : zs.drop (pos + k) = zs[pos + k]'(by omega) :: zs.drop (pos + k + 1) := List.drop_eq_getElem_cons (by omega)
      rw [hdrop] at hdec
      generalize zs[pos + k]'(by omega) = b at hc hdec
      have hb256 : b.toNat < 256 := b.toNat_lt
      rw [Nat.zero_add] at hc
      subst hka
      clear hdrop hs
      by_cases hb : b.toNat < 128
      · have b1 : ((b.toNat : Int) < 128) := by omega
        by_cases h9 : k = 9 ∧ 1 < b.toNat
        · have hF : Lib.uvarintFrom k acc (b :: zs.drop (pos + k + 1)) = (0, -10) := by obtain ⟨rfl, h1⟩ := h9; simp [Lib.uvarintFrom, hb, h1]
          rw [hF] at hdec
          obtain ⟨rfl, rfl⟩ := Prod.mk.inj hdec
          have b2 : decide ((b.toNat : Int) > 1) = true := by simp; omega
          have b4 : ((k : Int) == 9) = true := by simp; omega
          clear h9 hdec hF
          go_wp2
          go_quiet (fail)
          go_wp2
          go_quiet (fail)
          go_wp2
          go_ret2
          exact ⟨rfl, ((Fr.refl _ _).drewN _).setCell (by simp) _, (((hr.drewN _).setCell 2 _).congr rfl)⟩
        · obtain ⟨hor, hn⟩ := or_last k acc b hk2 hacc hb h9 (zs.drop (pos + k + 1))
          rw [← hdec] at hor hn
          simp only at hor hn
          subst hn
          by_cases hk9 : k = 9
          · have b2 : decide ((b.toNat : Int) > 1) = false := by simp; omega
            have b4 : ((k : Int) == 9) = true := by simp; omega
            clear h9 hdec hk9
            go_wp2
            go_quiet (fail)
            go_wp2
            go_quiet (fail)
            go_wp2
            go_ret2
            have hd : decide (0 < ((k + 1 : Nat) : Int)) = true := by simp
            rw [hd]
            refine ⟨rfl, ((Fr.refl _ _).drewN _).setCell (by simp) _, ((hr.drewN _).setCell 1 _).congr ?_⟩
            simp
          · have b4 : ((k : Int) == 9) = false := by simp; omega
            clear h9 hdec hk9
            go_wp2
            go_quiet (fail)
            go_wp2
            go_quiet (fail)
            go_wp2
            go_ret2
            have hd : decide (0 < ((k + 1 : Nat) : Int)) = true := by simp
            rw [hd]
            refine ⟨rfl, ((Fr.refl _ _).drewN _).setCell (by simp) _, ((hr.drewN _).setCell 1 _).congr ?_⟩
            simp
      · obtain ⟨a2, hor, ha1, ha2, hF⟩ := or_step k acc b hk2 hacc hb (zs.drop (pos + k + 1))
        have b1 : ¬ ((b.toNat : Int) < 128) := by omega
        go_wp2
        go_quiet (fail)
        go_wp2
        go_quiet (fail)
        go_wp2
        go_roundw
        case rel =>
          exact ⟨k + 1, a2, _, by simp, rfl, rfl, by omega, by omega, ha2, ha1, hdec.trans hF⟩
        case measure => simp [intOf]; omega
    · have hF : ∃ n' : Int, n' ≤ 0 ∧ Lib.uvarintFrom k acc (zs.drop (pos + k)) = (0, n') := by
        rcases Nat.lt_or_ge (pos + k) kn with h1 | h1
        · obtain rfl : k = 10 := by omega
          have hdrop : zs.drop (pos + 10) = zs[pos + 10]'(by omega) :: zs.drop (pos + 10 + 1) := List.drop_eq_getElem_cons (by omega)
          rw [hdrop]
          exact ⟨-11, by decide, by simp [Lib.uvarintFrom]⟩
        · exact ⟨0, by decide, by rw [List.drop_eq_nil_of_le (by omega)]; rfl⟩
      obtain ⟨n', hn0, hF⟩ := hF
      rw [hF] at hdec
      obtain ⟨rfl, rfl⟩ := Prod.mk.inj hdec
      have hd0 : decide (0 < n) = false := by simp; omega
      have hd1 : n.toNat = 0 := by omega
      clear hF hdec
      rcases Nat.lt_or_ge (pos + k) kn with h1 | h1
      · have t1 : decide ((pos : Int) + (k : Int) < (kn : Int)) = true := by simp; omega
        have t2 : decide ((k : Int) < 10) = false := by simp; omega
        clear hk
        go_wp2
        go_quiet (fail)
        go_wp2
        go_ret2
        rw [hd0, hd1]
        exact ⟨rfl, ((Fr.refl _ _).drewN _).setCell (by simp) _, ((hr.drewN _).setCell 2 _).congr rfl⟩
      · have t1 : decide ((pos : Int) + (k : Int) < (kn : Int)) = false := by simp; omega
        clear hk
        go_wp2
        go_quiet (fail)
        go_wp2
        go_ret2
        rw [hd0, hd1]
        exact ⟨rfl, ((Fr.refl _ _).drewN _).setCell (by simp) _, ((hr.drewN _).setCell 2 _).congr rfl⟩

/-- A reader that has failed. -/
theorem uv_failed (r pos : Nat) (kv : Value) (w : World) (hr : Blk w r [kv, .int .i64 pos, .bool true] 51) :
    Calls Yba.prog 19 #[.pointer (some ⟨r, 0, none⟩)] w fun e w' => e = .returned (.tuple #[.int .u64 0, .bool false]) ∧ w' = w := by
  have z2 := hr.cell 2 rfl
  go_enter Yba.func19, Yba.ntmps19
  go_wp2
  go_ret2
  exact ⟨rfl, rfl⟩

def RdSt (w : World) (r : Nat) (ka : Option Addr) (kn kc : Nat) (zs : List UInt8) : St → Prop
  | some l => ∃ pos : Nat, pos ≤ kn ∧ l = zs.drop pos ∧ Blk w r [.slice ka kn kc, .int .i64 pos, .bool false] 51
  | none => ∃ pos : Nat, pos ≤ kn ∧ Blk w r [.slice ka kn kc, .int .i64 pos, .bool true] 51

set_option maxHeartbeats 8000000 in
set_option maxRecDepth 100000 in
theorem rd_str (r : Nat) (ka : Option Addr) (kn kc kb : Nat) (zs : List UInt8) (st : St) (w : World) (hr : RdSt w r ka kn kc zs st) (hs : Sl w kb 0 ka kn kc zs) (hne : kb ≠ r) (hm : kn ≤ 140737488355328) :
    Calls Yba.prog 9 #[.pointer (some ⟨r, 0, none⟩)] w fun e w' => e = .returned (.string ⟨(rdStr st).1.toArray⟩) ∧ Hid (Fr [r] w w' ∧ RdSt w' r ka kn kc zs (rdStr st).2) := by
  cases st with
  | none =>
    obtain ⟨pos, hp, hr⟩ := hr
    go_enter Yba.func9, Yba.ntmps9
    go_wp2_with fail
    refine (uv_failed r pos _ w hr).mono ?_
    rintro e w1 ⟨rfl, rfl⟩
    go_wp2
    go_ret
    exact ⟨rfl, Fr.refl _ _, pos, hp, hr⟩
  | some l =>
    obtain ⟨pos, hp, rfl, hr⟩ := hr
    have hlen := hs.len
    obtain ⟨⟨m, n⟩, hmn⟩ : ∃ x, Lib.uvarintDec (zs.drop pos) = x := ⟨_, rfl⟩
    have hle := dec_le (zs.drop pos)
    have hlt := Lib.uvarintDec_lt (zs.drop pos)
    rw [hmn] at hle hlt
    simp only [List.length_drop] at hle hlt
    have hval : rdStr (some (zs.drop pos)) = if n ≤ 0 then ([], none) else if (zs.drop pos).length - n.toNat < m then ([], none) else (((zs.drop pos).drop n.toNat).take m, some ((zs.drop pos).drop (n.toNat + m))) := by simp only [rdStr, hmn]
    by_cases hn : n ≤ 0
    · rw [hval, if_pos hn]
      have hd0 : decide (0 < n) = false := by simp; omega
      have hd1 : n.toNat = 0 := by omega
      go_enter Yba.func9, Yba.ntmps9
      go_wp2_with fail
      refine (uv r pos ka kn kc kb zs m n w hr hs hp hm hmn).mono ?_
      rintro e w1 ⟨rfl, hF, hr1⟩
      rw [hd0] at hr1 ⊢
      rw [hd1] at hr1
      clear hr hmn hval
      go_wp2
      go_ret
      exact ⟨rfl, hF, pos, hp, hr1⟩
    · have hd0 : decide (0 < n) = true := by simp; omega
      obtain ⟨k, rfl⟩ : ∃ k : Nat, n = k := ⟨n.toNat, by omega⟩
      rw [if_neg hn] at hval
      simp only [Int.toNat_natCast, List.length_drop, List.drop_drop] at hval
      rw [show zs.length - pos - k = kn - (pos + k) by omega, show pos + (k + m) = pos + k + m by omega] at hval
      obtain ⟨p, hpe⟩ : ∃ p, p = pos + k := ⟨_, rfl⟩
      rw [← hpe] at hval
      have hpk : p ≤ kn := by omega
      have hcv : IntKind.u64.wrap ((kn : Int) - (p : Int)) = ((kn - p : Nat) : Int) := by rw [IntKind.wrap_u64]; omega
      by_cases hg : kn - p < m
      · have hg' : decide (kn - p < m) = true := by simp; omega
        rw [hval, if_pos hg]
        go_enter Yba.func9, Yba.ntmps9
        go_wp2_with fail
        refine (uv r pos ka kn kc kb zs m k w hr hs hp hm hmn).mono ?_
        rintro e w1 ⟨rfl, hF, hr1⟩
        rw [hd0] at hr1 ⊢
        rw [Int.toNat_natCast, ← hpe] at hr1
        have z0 := hr1.cell 0 rfl
        have z1 := hr1.cell 1 rfl
        have z2 := hr1.cell 2 rfl
        have v1 := hr1.frozen 1
        have v2 := hr1.frozen 2
        clear hg hr hmn hval hn hd0 hle hs hpe
        go_wp2
        go_quiet (fail)
        go_wp2
        go_ret
        exact ⟨rfl, (hF.drewN _).setCell (by simp) _, p, hpk, ((hr1.drewN _).setCell 2 _).congr rfl⟩
      · rw [hval, if_neg hg]
        have hg' : decide (kn - p < m) = false := by simp; omega
        have hmk : p + m ≤ kn := by omega
        have hkc := hs.le
        have hcm : IntKind.i64.wrap (m : Int) = (m : Int) := by rw [IntKind.wrap_i64]; omega
        go_enter Yba.func9, Yba.ntmps9
        go_wp2_with fail
        refine (uv r pos ka kn kc kb zs m k w hr hs hp hm hmn).mono ?_
        rintro e w1 ⟨rfl, hF, hr1⟩
        have hs1 := hs.fr hF (by simpa using hne)
        rw [hd0] at hr1 ⊢
        rw [Int.toNat_natCast, ← hpe] at hr1
        have z0 := hr1.cell 0 rfl
        have z1 := hr1.cell 1 rfl
        have v1 := hr1.frozen 1
        have hsub : ∀ q, (Instr.slice 22 (.slice ka kn kc) (some (.int .i64 (p : Int))) (some (.int .i64 ((p : Int) + (m : Int)))) none).run Yba.prog q = .ok (.slice (cut ka p kc) m (kc - p)) q := fun q => run_sub _ ka kn kc p m (by omega)
        have hwm : IntKind.i64.wrap ((p : Int) + (m : Int)) = (p : Int) + (m : Int) := by rw [IntKind.wrap_i64]; omega
        have hstr : ∀ q, (convert 22 9 (.slice (cut ka p kc) m (kc - p))).run Yba.prog (w1.drewN q) = .ok (.string ⟨((zs.drop p).take m).toArray⟩) (w1.drewN q) := fun q => run_str ((hs1.drewN q).sub p m hmk)
        clear hg hr hmn hval hn hd0 hle hs hpe hs1
        go_wp2
        go_quiet (fail)
        go_wp2
        go_quiet (fail)
        go_wp2
        go_ret
        refine ⟨rfl, (hF.drewN _).setCell (by simp) _, p + m, hmk, rfl, ((hr1.drewN _).setCell 1 _).congr ?_⟩
        simp
end Go.Proofs.Ybulkdnmq
