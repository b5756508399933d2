/- DecodeChain (17), the refusing half. -/
import Derived.Test.YbulkdnmcFmtZo
namespace Go.Proofs.YbulkdnmcFmt
open Go.RowKit Go.Extern.Stop Go.Stop Go.Extern
set_option linter.unusedSimpArgs false
set_option linter.unusedVariables false

theorem run_tailK (kk : IntKind) (w : World) (a : Option Addr) (n c lo : Nat) (h : lo ≤ n) : (Instr.slice 23 (.slice a n c) (some (.int kk lo)) none none).run Ybaf.prog w = .ok (.slice (cut a lo c) (n - lo) (c - lo)) w := by
  rw [run_slice_l w 23 a n c (by kernel_rfl) kk (lo : Int) (by omega) (by omega)]
  simp [go_sem, cut]
theorem run_headK (kk : IntKind) (w : World) (a : Option Addr) (n c k : Nat) (h : k ≤ c) : (Instr.slice 23 (.slice a n c) none (some (.int kk k)) (some (.int kk k))).run Ybaf.prog w = .ok (.slice (cut a 0 k) k k) w := by
  rw [run_slice_hm w 23 a n c (by kernel_rfl) kk kk (k : Int) (k : Int) (by omega) (by omega) (by omega)]
  simp [go_sem, cut]

set_option maxRecDepth 100000 in
set_option maxHeartbeats 4000000 in
theorem dc17_bad (I : Interp) (fb fo : Nat) (fa : Option Addr) (fn fc : Nat) (F : List UInt8) (w : World) (hI : I.answers w.tape) (hS : Sen w) (hs : Sl w fb fo fa fn fc F) (hm : fn ≤ 140737488355328) (hbad : ¬ OkF F) :
    Calls Ybaf.prog 17 #[.slice fa fn fc] w fun e w' => ∃ er p, e = .returned (.tuple #[.pointer none, .iface er (.pointer (some ⟨p, 0, none⟩))]) ∧ Hid (Fr [] w w') := by
  have hl := hs.len
  by_cases h4 : fn < 4
  · have t0 : decide ((fn : Int) < 4) = true := by simp; omega
    obtain ⟨X, hX⟩ : ∃ X, X = Obj.cells #[.iface 3 (.int .i64 fn)] 20 := ⟨_, rfl⟩
    have hF0 : Fr [] w (w.alloc X) := (Fr.refl _ _).alloc _
    have hb : Blk (w.alloc X) w.heap.size [.iface 3 (.int .i64 fn)] 20 := by rw [hX]; exact Blk.new _ _ _
    have hE := errorf0 I w.heap.size fn (w.alloc X) hI (hb.cell 0 rfl)
    rw [hX] at hE
    clear hs hbad hb
    go_enter Ybaf.func17, Ybaf.ntmps17
    go_wp2_with fail
    refine hE.mono ?_
    rintro e w1 ⟨p, rfl, hF1⟩
    rw [← hX] at hF1
    clear hE hX
    go_wp2
    go_ret2
    exact ⟨_, p, rfl, hF0.trans hF1⟩
  · have t0 : decide ((fn : Int) < 4) = false := by simp; omega
    have hfa := hs.addr (by omega)
    subst hfa
    have c0 := hs.bt 0 (by omega)
    have c1 := hs.bt 1 (by omega)
    have c2 := hs.bt 2 (by omega)
    have c3 := hs.bt 3 (by omega)
    rw [Nat.add_zero] at c0
    have hU := uint32_20 fb fo fn fc _ _ _ _ w (by omega) c0 c1 c2 c3
    rw [show be32 (bt F 0) (bt F 1) (bt F 2) (bt F 3) = klen F from rfl] at hU
    obtain ⟨k, hk⟩ : ∃ k, k = klen F := ⟨_, rfl⟩
    have hkl : k < 4294967296 := hk ▸ klen_lt F
    rw [← hk] at hU
    have hfc := hs.le
    have ht4 : ∀ q, (Instr.slice 23 (.slice (some ⟨fb, fo, none⟩) fn fc) (some (.int .i64 4)) none none).run Ybaf.prog q = .ok (.slice (cut (some ⟨fb, fo, none⟩) 4 fc) (fn - 4) (fc - 4)) q := fun q => run_tailK .i64 q _ fn fc 4 (by omega)
    have hcv : IntKind.u64.wrap (((fn - 4 : Nat) : Int)) = ((fn - 4 : Nat) : Int) := by rw [IntKind.wrap_u64]; omega
    have HK : Hid (k = klen F) := hk
    clear hk c0 c1 c2 c3
    by_cases h5 : fn - 4 < k + 2
    · have t1 : decide (((fn - 4 : Nat) : Int) < (k : Int) + 2) = true := by simp; omega
      clear hs hbad
      go_enter Ybaf.func17, Ybaf.ntmps17
      go_wp2_with fail
      refine hU.mono ?_
      rintro e w1 ⟨rfl, hF1⟩
      have hI1 : I.answers w1.tape := by rw [hF1.tape]; exact hI
      obtain ⟨X, hX⟩ : ∃ X, X = Obj.cells #[.iface 3 (.int .i64 fn)] 20 := ⟨_, rfl⟩
      have hF0 : Fr [] w1 (w1.alloc X) := (Fr.refl _ _).alloc _
      have hb : Blk (w1.alloc X) w1.heap.size [.iface 3 (.int .i64 fn)] 20 := by rw [hX]; exact Blk.new _ _ _
      have hE := errorf1 I w1.heap.size fn (w1.alloc X) hI1 (hb.cell 0 rfl)
      rw [hX] at hE
      clear hU hb
      go_wp2_with fail
      refine hE.mono ?_
      rintro e w2 ⟨p, rfl, hF2⟩
      rw [← hX] at hF2
      clear hE hX
      go_wp2
      go_ret2
      exact ⟨_, p, rfl, (hF1.trans hF0).trans hF2⟩
    · have t1 : decide (((fn - 4 : Nat) : Int) < (k : Int) + 2) = false := by simp; omega
      obtain ⟨ra, hra⟩ : ∃ ra, ra = cut (some ⟨fb, fo, none⟩) 4 fc := ⟨_, rfl⟩
      have hrs := hs.tail 4 (by omega)
      rw [← hra] at ht4 hrs
      have hhd : ∀ q, (Instr.slice 23 (.slice ra (fn - 4) (fc - 4)) none (some (.int .u32 (k : Int))) (some (.int .u32 (k : Int)))).run Ybaf.prog q = .ok (.slice (cut ra 0 k) k k) q := fun q => run_headK .u32 q _ _ _ k (by omega)
      obtain ⟨va, hva⟩ : ∃ va, va = cut ra 0 k := ⟨_, rfl⟩
      rw [← hva] at hhd
      clear hva hra
      by_cases h6 : k = 0 ∨ 65536 < k
      · go_enter Ybaf.func17, Ybaf.ntmps17
        go_wp2_with fail
        refine hU.mono ?_
        rintro e w1 ⟨rfl, hF1⟩
        obtain ⟨X, hX⟩ : ∃ X, X = Obj.cells #[.slice va k k, .slice none 0 0] 79 := ⟨_, rfl⟩
        have hF0 : Fr [] w1 (w1.alloc X) := (Fr.refl _ _).alloc _
        have hI1 : I.answers (w1.alloc X).tape := by rw [hF0.tape, hF1.tape]; exact hI
        have hE := checkBad I va k k (w1.alloc X) hI1 ((hS.fr hF1).fr hF0) h6
        rw [hX] at hE
        clear hU hs hbad h6
        go_wp2_with fail
        refine hE.mono ?_
        rintro e w2 ⟨p, rfl, hF2⟩
        rw [← hX] at hF2
        clear hE hX
        go_wp2
        go_ret2
        exact ⟨_, p, rfl, (hF1.trans hF0).trans hF2⟩
      · have hrs2 := hrs.tail k (by omega)
        have ha2 := hrs2.addr (by omega)
        have htk : ∀ q, (Instr.slice 23 (.slice ra (fn - 4) (fc - 4)) (some (.int .u32 (k : Int))) none none).run Ybaf.prog q = .ok (.slice (some ⟨fb, fo + 4 + k, none⟩) (fn - 4 - k) (fc - 4 - k)) q := fun q => by rw [← ha2]; exact run_tailK .u32 q _ _ _ k (by omega)
        obtain ⟨c, hc⟩ : ∃ c, c = cnt F := ⟨_, rfl⟩
        have hcl : c < 65536 := hc ▸ cnt_lt F
        have hne : ¬ fn - (6 + k) = c * 66 := fun h => by
          have hk : k = klen F := HK
          exact hbad ⟨by omega, by rw [← hk]; omega, by rw [← hk]; omega, by rw [← hk]; omega, by rw [← hk, ← hc, hl]; exact h⟩
        have ht2 : ∀ q, (Instr.slice 23 (.slice (some ⟨fb, fo + 4 + k, none⟩) (fn - 4 - k) (fc - 4 - k)) (some (.int .i64 2)) none none).run Ybaf.prog q = .ok (.slice (cut (some ⟨fb, fo + 4 + k, none⟩) 2 (fc - 4 - k)) (fn - 4 - k - 2) (fc - 4 - k - 2)) q := fun q => run_tailK .i64 q _ _ _ 2 (by omega)
        obtain ⟨qa, hqa⟩ : ∃ qa, qa = cut (some ⟨fb, fo + 4 + k, none⟩) 2 (fc - 4 - k) := ⟨_, rfl⟩
        rw [← hqa] at ht2
        obtain ⟨m, hm2⟩ : ∃ m, m = fn - 4 - k - 2 := ⟨_, rfl⟩
        rw [← hm2] at ht2
        have t5 : ((m : Int) != (c : Int) * 66) = true := by simp; omega
        have hmb : m ≤ 140737488355328 := by omega
        have HC : Hid (be16 (bt F (4 + k)) (bt F (4 + k + 1)) = c) := by
          have hk : k = klen F := HK
          show _ = _
          rw [hc]; unfold cnt; rw [← hk, show 5 + k = 4 + k + 1 by omega]
        have HB : Hid (2 ≤ fn - 4 - k) := by show _ ≤ _; omega
        have hck := fun v => checkOk va k k v (by omega) (by omega)
        go_enter Ybaf.func17, Ybaf.ntmps17
        go_wp2_with fail
        refine hU.mono ?_
        rintro e w1 ⟨rfl, hF1⟩
        obtain ⟨X, hX⟩ : ∃ X, X = Obj.cells #[.slice va k k, .slice none 0 0] 79 := ⟨_, rfl⟩
        have hF0 : Fr [] w (w1.alloc X) := hF1.alloc _
        have hsx := hs.fr hF0 (by simp)
        have c4 := hsx.bt (4 + k) (by omega)
        have c5 := hsx.bt (4 + k + 1) (by omega)
        rw [show fo + (4 + k) = fo + 4 + k by omega] at c4
        rw [show fo + (4 + k + 1) = fo + 4 + k + 1 by omega] at c5
        have hU2 := uint16_22 fb (fo + 4 + k) (fn - 4 - k) (fc - 4 - k) _ _ (w1.alloc X) HB c4 c5
        rw [show be16 (bt F (4 + k)) (bt F (4 + k + 1)) = c from HC] at hU2
        rw [hX] at hU2
        clear hU hs hbad hc hqa hm2 hne c4 c5 hsx hrs hrs2 ha2 h6 h5
        go_wp2_with fail
        refine (hck _).mono ?_
        rintro e w2 ⟨rfl, rfl⟩
        go_wp2_with fail
        refine hU2.mono ?_
        rintro e w2 ⟨rfl, hF2⟩
        rw [← hX] at hF2
        have hF3 := hF0.trans hF2
        have hI1 : I.answers w2.tape := by rw [hF3.tape]; exact hI
        obtain ⟨Y, hY⟩ : ∃ Y, Y = Obj.cells #[.iface 3 (.int .i64 m), .iface 3 (.int .i64 c), .iface 3 (.int .i64 66)] 20 := ⟨_, rfl⟩
        have hF4 : Fr [] w2 (w2.alloc Y) := (Fr.refl _ _).alloc _
        have hb : Blk (w2.alloc Y) w2.heap.size [.iface 3 (.int .i64 m), .iface 3 (.int .i64 c), .iface 3 (.int .i64 66)] 20 := by rw [hY]; exact Blk.new _ _ _
        have hE := errorf2 I w2.heap.size m c 66 (w2.alloc Y) hI1 (hb.cell 0 rfl) (hb.cell 1 rfl) (hb.cell 2 rfl)
        rw [hY] at hE
        clear hU2 hb hX hck
        go_wp2_with fail
        refine hE.mono ?_
        rintro e w4 ⟨p, rfl, hF5⟩
        rw [← hY] at hF5
        clear hE hY
        go_wp2
        go_ret2
        exact ⟨_, p, rfl, (hF3.trans hF4).trans hF5⟩
end Go.Proofs.YbulkdnmcFmt
