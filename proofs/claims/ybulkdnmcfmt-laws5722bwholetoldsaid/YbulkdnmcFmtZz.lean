/- zzs5722bdecode (6). -/
import Derived.Test.YbulkdnmcFmtPre
import Derived.Deep.RegionHeld3
namespace Go.Proofs.YbulkdnmcFmt
open Go.RowKit
set_option linter.unusedSimpArgs false
set_option linter.unusedVariables false

theorem info3 : (Ybaf.prog.info? 3).map (fun i => (i.zero, i.size, i.bytes)) = some (some (.int .i64 0), 1, 8) := by kernel_rfl

/-- What the law's own decoder answers. -/
def zzF (F : List UInt8) (m : Nat) : Value := .int .i64 (sgn F m)
def zzG (F : List UInt8) (m : Nat) : Value := .int .u8 (sgb F (m / 64) (m % 64)).toNat

theorem or64 (i : Nat) (x y : Int) (hx0 : 0 ≤ x) (hx : x % 2 ^ i = 0) (hx1 : x < 18446744073709551616) (hy0 : 0 ≤ y) (hy : y < 2 ^ i) (hy1 : y < 18446744073709551616) : bits .or .u64 x y = x + y := by
  exact bits_join .u64 64 (by decide) wraps_u64 i x y hx0 hx (by simpa using hx1) hy0 hy (by simpa using hy1)

theorem or16i (x y : UInt8) : bits .or .i64 ((x.toNat : Int) * 256) (y.toNat : Int) = ((be16 x y : Nat) : Int) := by
  have hx := x.toNat_lt
  have hy := y.toNat_lt
  have h62 : (2 : Int) ^ 62 = 4611686018427387904 := by decide
  rw [bits_join .i64 62 (by decide) (fun n h0 h1 => by rw [IntKind.wrap_i64]; omega) 8 _ _ (by omega) (by omega) (by omega) (by omega) (by omega) (by omega)]
  unfold be16
  omega

set_option maxRecDepth 100000 in
set_option maxHeartbeats 4000000 in
theorem zz6_bad (fb fo : Nat) (fa : Option Addr) (fn fc : Nat) (F : List UInt8) (w : World) (hs : Sl w fb fo fa fn fc F) (hm : fn ≤ 140737488355328) (hbad : ¬ OkF F) :
    Calls Ybaf.prog 6 #[.slice fa fn fc] w fun e w' => e = .returned (.tuple #[.slice none 0 0, .slice none 0 0, .slice none 0 0, .bool false]) ∧ ∃ q, w' = w.drewN q := by
  have hl := hs.len
  by_cases h4 : fn < 4
  · have t0 : decide ((fn : Int) < 4) = true := by simp; omega
    clear hs hbad
    go_enter Ybaf.func6, Ybaf.ntmps6
    go_wp2
    exact bodyPost_ret (v := .tuple #[.slice none 0 0, .slice none 0 0, .slice none 0 0, .bool false]) (by simp [results, Ybaf.results6, go_sem]) rfl ⟨rfl, 0, rfl⟩
  · have t0 : decide ((fn : Int) < 4) = false := by simp; omega
    have c0 := hs.bt 0 (by omega)
    have c1 := hs.bt 1 (by omega)
    have c2 := hs.bt 2 (by omega)
    have c3 := hs.bt 3 (by omega)
    have l0 := bt_lt F 0
    have l1 := bt_lt F 1
    have l2 := bt_lt F 2
    have l3 := bt_lt F 3
    have hfa := hs.addr (by omega)
    obtain ⟨k, hk⟩ : ∃ k, k = klen F := ⟨_, rfl⟩
    have hkl : k < 4294967296 := hk ▸ klen_lt F
    subst hfa
    rw [Nat.add_zero] at c0
    have o1 := or64 24 (((bt F 0).toNat : Int) * 16777216) (((bt F 1).toNat : Int) * 65536) (by omega) (by omega) (by omega) (by omega) (by omega) (by omega)
    have o2 := or64 16 (((bt F 0).toNat : Int) * 16777216 + ((bt F 1).toNat : Int) * 65536) (((bt F 2).toNat : Int) * 256) (by omega) (by omega) (by omega) (by omega) (by omega) (by omega)
    have o3 : bits .or .u64 (((bt F 0).toNat : Int) * 16777216 + ((bt F 1).toNat : Int) * 65536 + ((bt F 2).toNat : Int) * 256) (((bt F 3).toNat : Int)) = (k : Int) := by
      rw [or64 8 _ _ (by omega) (by omega) (by omega) (by omega) (by omega) (by omega), hk]
      unfold klen be32
      omega
    by_cases h5 : fn - 4 < k + 2
    · have t1 : decide (((fn : Int) - 4) < (k : Int) + 2) = true := by simp; omega
      clear hs hbad hk
      go_enter Ybaf.func6, Ybaf.ntmps6
      go_wp2
      go_quiet (fail)
      go_wp2
      exact bodyPost_ret (v := .tuple #[.slice none 0 0, .slice none 0 0, .slice none 0 0, .bool false]) (by simp [results, Ybaf.results6, go_sem]) rfl ⟨rfl, _, rfl⟩
    · have t1 : decide (((fn : Int) - 4) < (k : Int) + 2) = false := by simp; omega
      by_cases h6 : k = 0 ∨ 65536 < k
      · rcases h6 with h6 | h6
        · have t2 : ((k : Int) == 0) = true := by simp; omega
          clear hs hbad hk h6
          go_enter Ybaf.func6, Ybaf.ntmps6
          go_wp2
          go_quiet (fail)
          go_wp2
          exact bodyPost_ret (v := .tuple #[.slice none 0 0, .slice none 0 0, .slice none 0 0, .bool false]) (by simp [results, Ybaf.results6, go_sem]) rfl ⟨rfl, _, rfl⟩
        · have t2 : ((k : Int) == 0) = false := by simp; omega
          have t3 : decide ((65536 : Int) < (k : Int)) = true := by simp; omega
          have t4 : ¬ k = 0 := by omega
          clear hs hbad hk
          go_enter Ybaf.func6, Ybaf.ntmps6
          go_wp2
          go_quiet (fail)
          go_wp2
          exact bodyPost_ret (v := .tuple #[.slice none 0 0, .slice none 0 0, .slice none 0 0, .bool false]) (by simp [results, Ybaf.results6, go_sem]) rfl ⟨rfl, _, rfl⟩
      · have t2 : ((k : Int) == 0) = false := by simp; omega
        have t3 : decide ((65536 : Int) < (k : Int)) = false := by simp; omega
        have t4 : ¬ k = 0 := by omega
        have c4 := hs.bt (4 + k) (by omega)
        have c5 := hs.bt (5 + k) (by omega)
        have l4 := bt_lt F (4 + k)
        have l5 := bt_lt F (5 + k)
        have hfc := hs.le
        obtain ⟨c, hc⟩ : ∃ c, c = cnt F := ⟨_, rfl⟩
        have hcl : c < 65536 := hc ▸ cnt_lt F
        have o4 : bits .or .i64 (((bt F (4 + k)).toNat : Int) * 256) (((bt F (5 + k)).toNat : Int)) = (c : Int) := by
          rw [or16i, hc]
          unfold cnt
          rw [← hk]
        have hne : ¬ fn - (6 + k) = c * 66 := fun h => hbad ⟨by omega, by rw [← hk]; omega, by rw [← hk]; omega, by rw [← hk]; omega, by rw [← hk, ← hc, hl]; exact h⟩
        have t5 : (((fn - (6 + k) : Nat) : Int) != (c : Int) * 66) = true := by simp; omega
        have w4 : IntKind.i64.wrap (4 + (k : Int)) = ((4 + k : Nat) : Int) := by rw [IntKind.wrap_i64]; omega
        have w5 : IntKind.i64.wrap (5 + (k : Int)) = ((5 + k : Nat) : Int) := by rw [IntKind.wrap_i64]; omega
        have w6 : IntKind.i64.wrap (6 + (k : Int)) = ((6 + k : Nat) : Int) := by rw [IntKind.wrap_i64]; omega
        have hsub : ∀ q, (Instr.slice 23 (.slice (some ⟨fb, fo, none⟩) fn fc) (some (.int .i64 4)) (some (.int .i64 (4 + (k : Int)))) none).run Ybaf.prog q = .ok (.slice (cut (some ⟨fb, fo, none⟩) 4 fc) k (fc - 4)) q := fun q => run_sub _ _ fn fc 4 k (by omega)
        have htl : ∀ q, (Instr.slice 23 (.slice (some ⟨fb, fo, none⟩) fn fc) (some (.int .i64 (6 + (k : Int)))) none none).run Ybaf.prog q = .ok (.slice (cut (some ⟨fb, fo, none⟩) (6 + k) fc) (fn - (6 + k)) (fc - (6 + k))) q := fun q => run_tail _ _ fn fc (6 + k) (by omega)
        clear hs hbad hne w4 w5 w6 hk hc
        go_enter Ybaf.func6, Ybaf.ntmps6
        go_wp2
        go_quiet (fail)
        go_wp2
        go_quiet (fail)
        go_wp2
        exact bodyPost_ret (v := .tuple #[.slice none 0 0, .slice none 0 0, .slice none 0 0, .bool false]) (by simp [results, Ybaf.results6, go_sem]) rfl ⟨rfl, _, rfl⟩
end Go.Proofs.YbulkdnmcFmt
