/- The walk of LawS5721ASeq (function 4). -/
import Derived.Test.YbulkdnloDoorIn
namespace Go.Proofs.YbulkdnloDoor
open Go.RowKit
set_option linter.unusedSimpArgs false
set_option linter.unusedVariables false

set_option maxRecDepth 100000 in
set_option maxHeartbeats 4000000 in
theorem seq_fail (a0 : Option Addr) (len cap db off : Nat) (zs : List Int) (aE aU : Addr) (ch : Int) (w : World) (hin : In w a0 len cap db off zs aE aU) (hc0 : 0 ≤ ch) (hc1 : ch < 256) (hlen : len ≤ 1048576) :
    Calls Ybad.prog 4 #[.slice a0 len cap, .int .u8 ch, .bool true] w fun e w' => e = .returned (.bool true) ∧ Below w.heap.size w w' := by
  have t1 : decide ((1048576 : Int) < (len : Int)) = false := by simp; omega
  have g0 := hin.g0
  have l0 : 0 < w.heap.size := World.block_lt_of_cell? w _ g0
  obtain ⟨c, hcc⟩ : ∃ c : Nat, 1 + ch % 13 = (c : Int) := ⟨(1 + ch % 13).toNat, by omega⟩
  have hcl : 1 ≤ c := by omega
  have hcu : c ≤ 13 := by omega
  obtain ⟨full, hfull⟩ : ∃ full : Nat, len / 12 = full := ⟨_, rfl⟩
  obtain ⟨rem, hrem⟩ : ∃ rem : Nat, len % 12 = rem := ⟨_, rfl⟩
  have hf1 : (len : Int) / 12 = (full : Int) := by omega
  have HF : Hid (len / 12 = full) := hfull
  have HR : Hid (len % 12 = rem) := hrem
  clear hfull hrem
  obtain ⟨b0, hb0⟩ : ∃ b0, w.heap.size = b0 := ⟨_, rfl⟩
  have l0' : 0 < b0 := by omega
  go_enter Ybad.func4, Ybad.ntmps4
  go_wp2_with (first | (go_at_call 7; refine (newReader_any (b0 + 1) _).mono ?_; rintro e w1 ⟨rfl, HN⟩; have hsz : w1.heap.size = b0 + 4 := by (have := HN.out.2.1; rw [this]; simp [hb0])) | (go_at_call 6; refine (errNew_any _ _).mono ?_; rintro e w' ⟨rfl, rfl⟩))
  refine at_world (p := fun w2 => Code.wp _ _ _ _ w2) (F := fun w2 => Laid (cfg b0 db off len cap c a0 zs ⟨b0, 0, none⟩) w w2 aE aU 0 0 false (List.replicate 12 (.int .u8 0))) ?_ ?_
  · exact laid_of hin hlen c hcl hcu _ _ _ ((Fr.refl _ _).alloc _) b0 (Nat.le_of_eq hb0) (by rw [← hb0]; exact Blk.new _ _ _) (by simp [hb0]) _ (Or.inl rfl) w1 HN 0 0 false (List.replicate 12 (.int .u8 0))
  clear HN hsz
  clear w1
  rintro W ⟨ok, hbel, hst, hdat, hsen, hH⟩
  obtain ⟨C, HC⟩ : ∃ C, Hid (C = cfg b0 db off len cap c a0 zs ⟨b0, 0, none⟩) := ⟨_, rfl⟩
  rw [← HC.out] at ok hst hdat hsen hH
  have eH : C.H = b0 + 4 := by rw [HC.out]; rfl
  have HCl : Hid (C.len = len) := by rw [HC.out]; rfl
  have HCz : Hid (C.zs = zs) := by rw [HC.out]; rfl
  have HCd : Hid (C.db = db ∧ C.off = off) := by rw [HC.out]; exact ⟨rfl, rfl⟩
  have hnx : ∀ (q : Nat) (key off' : Int) (kb : Bool) (bs : List Value) (wr : World), C.St wr q → Fr C.own W wr → Blk wr C.H (headCells C.R key off' kb bs) 39 → bs.length = 12 → q ≤ C.len → _ := fun q key off' kb bs wr h1 h2 h3 h4 h5 => next_any C ok (by rw [HCz.out]; exact hin.zb) q key off' kb bs aE aU hin.ne wr h1 (hdat.fr ok h2) (hsen.fr h2) h3 h4 h5
  have HNX := hnx
  clear hnx
  simp only [eH] at HNX
  go_loopw [14] (fun kk wr => ∃ k : Nat, k ≤ full ∧ kk = .int .i64 k ∧ Hid (Fr C.own W wr ∧ C.St wr (12 * k) ∧ ∃ key off' kb bs, Blk wr C.H (headCells C.R key off' kb bs) 39 ∧ bs.length = 12)) (fun kk _ => full - (intOf kk).toNat)
  case atStart => exact ⟨0, by omega, rfl, Fr.refl _ _, hst, _, _, _, _, hH, by simp⟩
  case round =>
    obtain ⟨k, hk, rfl, HI⟩ := hrel
    obtain ⟨hF, hS, key, off', kb, bs, hHk, hbl⟩ := HI
    by_cases hlt : k < full
    · have h12 : 12 * k + 12 ≤ len := by have := HF.out; omega
      have ha0 := hin.a0_eq (by omega)
      subst ha0
      have t2 : decide ((k : Int) < (full : Int)) = true := by simp; omega
      have HNk := HNX (12 * k) key off' kb bs wr hS hF (by rw [← eH]; exact hHk) hbl (by rw [HCl.out]; omega)
      clear HNX
      go_wp2_with fail
      refine HNk.mono ?_
      rintro e w2 ⟨er, rfl, hF2, hor⟩
      rcases hor with ⟨_, rfl, hS2, hH2⟩ | ⟨i, hi, hqi, _⟩
      rotate_left
      · exfalso
        have := HCl.out
        omega
      have hFW2 : Fr C.own W w2 := hF.trans hF2
      have hD2 := hdat.fr ok hFW2
      have hBy : By w2 db (off + 12 * k) (fun i => C.zs.getD (12 * k + i) 0) := by
        intro i hi
        have := hD2 (12 * k + i) (by rw [HCl.out]; omega)
        rw [HCd.out.1, HCd.out.2, ← Nat.add_assoc] at this
        exact this
      have hld := law_decode db (off + 12 * k) 12 (cap - 12 * k) (fun i => C.zs.getD (12 * k + i) 0) (fun i => by rw [HCz.out]; exact hin.zb _)
      obtain ⟨f, hf⟩ : ∃ f, (fun i => C.zs.getD (12 * k + i) 0) = f := ⟨_, rfl⟩
      rw [hf] at hBy hld hH2
      clear hf
      have k1 := hH2.cell 1 rfl
      have k2 := hH2.cell 2 rfl
      have k3 := hH2.cell 3 rfl
      obtain ⟨p, hp⟩ : ∃ p, p = 12 * k := ⟨_, rfl⟩
      rw [← hp] at hld hBy
      have HP : Hid (p = 12 * k) := hp
      have hp1 : 12 * (k : Int) = (p : Int) := by omega
      have hp2 : ((p : Int) + 12).toNat - p = 12 := by omega
      have hp3 : ¬ (cap = p) := by have := hin.cap_le; omega
      have i1 : (0 : Int) ≤ (p : Int) := by omega
      have i2 : (p : Int) + 12 ≤ (cap : Int) := by have := hin.cap_le; omega
      have i4 : (p : Int) ≤ (p : Int) + 12 := by omega
      have i3 : (k : Int) ≤ 100000 := by omega
      have r1 : IntKind.i64.wrap (p : Int) = (p : Int) := by rw [IntKind.wrap_i64]; omega
      have r2 : IntKind.i64.wrap ((p : Int) + 12) = (p : Int) + 12 := by rw [IntKind.wrap_i64]; omega
      have hH2c : Hid (Blk w2 (b0 + 4) (headCells C.R (recKey f) (recOff f) true (bv ((C.zs.drop (12 * k)).take 12))) 39) := hH2
      clear hp hH2
      go_wp2
      go_region_held3 (fun w' => w'.cell? ⟨b0 + 4, 1, none⟩ = some (.int .u32 (recKey f)) ∧ w'.cell? ⟨b0 + 4, 2, none⟩ = some (.int .u64 (recOff f)) ∧ w'.cell? ⟨b0 + 4, 3, none⟩ = some (.bool true)) (first | go_keep | (simp [*, go_sem]; done))
        (first | (go_at_call 10; refine (hld _ (by exact hBy) (by omega)).mono ?_; rintro e w3 ⟨rfl, hF3⟩; have hH3 := hF3.blk (hH2c.out.drew) (by simp); have k1' := hH3.cell 1 rfl; have k2' := hH3.cell 2 rfl; have k3' := hH3.cell 3 rfl))
      go_wp2
      go_roundw
      case rel =>
        refine ⟨k + 1, by omega, by go_num, hFW2.trans ((Fr.refl _ _).drew.trans (hF3.mono (by simp))), ?_, _, _, _, _, by rw [eH]; exact hH3, ?_⟩
        · rw [show 12 * (k + 1) = 12 * k + 12 by omega]
          exact hS2.fr ((Fr.refl [] _).drew.trans hF3) (by simp) (by simp) (by simp)
        · rw [bv_length]; simp; rw [HCz.out, hin.zlen]; omega
      case measure => simp [intOf]; omega
    · have hkf : k = full := by omega
      subst hkf
      have t2 : decide ((k : Int) < (k : Int)) = false := by simp
      have HNk := HNX (12 * k) key off' kb bs wr hS hF (by rw [← eH]; exact hHk) hbl (by rw [HCl.out]; have := HF.out; omega)
      clear HNX
      rw [eH] at hHk
      have k3 := hHk.cell 3 rfl
      go_wp2_with fail
      refine HNk.mono ?_
      rintro e w2 ⟨er, rfl, hF2, hor⟩
      rcases hor with ⟨h12, _⟩ | ⟨i, hi, hqi, rfl, hS2, hH2⟩
      · exfalso
        have := HCl.out
        have := HF.out
        omega
      have hlE : aE.block < b0 := by obtain ⟨cE, tE, bE⟩ := hin.bE; have := bE.lt; omega
      have hne : C.ae ≠ aE := by
        intro h
        have e1 : C.ae = ⟨b0, 0, none⟩ := by rw [HC.out]; rfl
        rw [e1] at h
        rw [← h] at hlE
        exact Nat.lt_irrefl _ hlE
      have hnE : nextErr i C.ae aE aU = .iface 45 (.pointer (some ⟨b0, 0, none⟩)) := by
        have e1 : C.ae = ⟨b0, 0, none⟩ := by rw [HC.out]; rfl
        rw [nextErr, if_neg (fun h => hne h.2), lastErr, if_neg hne, e1]
        simp
      rw [if_neg (fun h => hne h.2)] at hH2
      rw [hnE]
      have hFW2 : Fr C.own W w2 := hF.trans hF2
      obtain ⟨cA, tA, bA⟩ := (hsen.fr hFW2).bA
      have eA : C.ae = ⟨b0, 0, none⟩ := by rw [HC.out]; rfl
      rw [eA] at bA
      have heq := eq_errs w2 ⟨b0, 0, none⟩ ⟨b0, 0, none⟩ bA bA
      rw [decide_eq_true rfl] at heq
      have k3' := hH2.cell 3 rfl
      clear hnE eA
      go_wp2
      go_ret
      refine ⟨by simp, hbel.trans (hFW2.below hbel.size ?_)⟩
      intro x hx
      rw [HC.out] at hx
      simp [Cfg.own, cfg] at hx
      omega
set_option maxRecDepth 100000 in
set_option maxHeartbeats 4000000 in
theorem seq_eof (a0 : Option Addr) (len cap db off : Nat) (zs : List Int) (aE aU : Addr) (ch : Int) (w : World) (hin : In w a0 len cap db off zs aE aU) (hc0 : 0 ≤ ch) (hc1 : ch < 256) (hlen : len ≤ 1048576) :
    Calls Ybad.prog 4 #[.slice a0 len cap, .int .u8 ch, .bool false] w fun e w' => e = .returned (.bool true) ∧ Below w.heap.size w w' := by
  have t1 : decide ((1048576 : Int) < (len : Int)) = false := by simp; omega
  have g0 := hin.g0
  have l0 : 0 < w.heap.size := World.block_lt_of_cell? w _ g0
  obtain ⟨c, hcc⟩ : ∃ c : Nat, 1 + ch % 13 = (c : Int) := ⟨(1 + ch % 13).toNat, by omega⟩
  have hcl : 1 ≤ c := by omega
  have hcu : c ≤ 13 := by omega
  obtain ⟨full, hfull⟩ : ∃ full : Nat, len / 12 = full := ⟨_, rfl⟩
  obtain ⟨rem, hrem⟩ : ∃ rem : Nat, len % 12 = rem := ⟨_, rfl⟩
  have hf1 : (len : Int) / 12 = (full : Int) := by omega
  have HF : Hid (len / 12 = full) := hfull
  have HR : Hid (len % 12 = rem) := hrem
  clear hfull hrem
  obtain ⟨b0, hb0⟩ : ∃ b0, w.heap.size = b0 := ⟨_, rfl⟩
  have l0' : 0 < b0 := by omega
  go_enter Ybad.func4, Ybad.ntmps4
  go_wp2_with (first | (go_at_call 7; refine (newReader_any (b0 + 1) _).mono ?_; rintro e w1 ⟨rfl, HN⟩; have hsz : w1.heap.size = b0 + 4 := by (have := HN.out.2.1; rw [this]; simp [hb0])) | (go_at_call 6; refine (errNew_any _ _).mono ?_; rintro e w' ⟨rfl, rfl⟩))
  refine at_world (p := fun w2 => Code.wp _ _ _ _ w2) (F := fun w2 => Laid (cfg b0 db off len cap c a0 zs aE) w w2 aE aU 0 0 false (List.replicate 12 (.int .u8 0))) ?_ ?_
  · exact laid_of hin hlen c hcl hcu _ _ _ ((Fr.refl _ _).alloc _) b0 (Nat.le_of_eq hb0) (by rw [← hb0]; exact Blk.new _ _ _) (by simp [hb0]) _ (Or.inr rfl) w1 HN 0 0 false (List.replicate 12 (.int .u8 0))
  clear HN hsz
  clear w1
  rintro W ⟨ok, hbel, hst, hdat, hsen, hH⟩
  obtain ⟨C, HC⟩ : ∃ C, Hid (C = cfg b0 db off len cap c a0 zs aE) := ⟨_, rfl⟩
  rw [← HC.out] at ok hst hdat hsen hH
  have eH : C.H = b0 + 4 := by rw [HC.out]; rfl
  have HCl : Hid (C.len = len) := by rw [HC.out]; rfl
  have HCz : Hid (C.zs = zs) := by rw [HC.out]; rfl
  have HCd : Hid (C.db = db ∧ C.off = off) := by rw [HC.out]; exact ⟨rfl, rfl⟩
  have hnx : ∀ (q : Nat) (key off' : Int) (kb : Bool) (bs : List Value) (wr : World), C.St wr q → Fr C.own W wr → Blk wr C.H (headCells C.R key off' kb bs) 39 → bs.length = 12 → q ≤ C.len → _ := fun q key off' kb bs wr h1 h2 h3 h4 h5 => next_any C ok (by rw [HCz.out]; exact hin.zb) q key off' kb bs aE aU hin.ne wr h1 (hdat.fr ok h2) (hsen.fr h2) h3 h4 h5
  have HNX := hnx
  clear hnx
  simp only [eH] at HNX
  go_loopw [14] (fun kk wr => ∃ k : Nat, k ≤ full ∧ kk = .int .i64 k ∧ Hid (Fr C.own W wr ∧ C.St wr (12 * k) ∧ ∃ key off' kb bs, Blk wr C.H (headCells C.R key off' kb bs) 39 ∧ bs.length = 12)) (fun kk _ => full - (intOf kk).toNat)
  case atStart => exact ⟨0, by omega, rfl, Fr.refl _ _, hst, _, _, _, _, hH, by simp⟩
  case round =>
    obtain ⟨k, hk, rfl, HI⟩ := hrel
    obtain ⟨hF, hS, key, off', kb, bs, hHk, hbl⟩ := HI
    by_cases hlt : k < full
    · have h12 : 12 * k + 12 ≤ len := by have := HF.out; omega
      have ha0 := hin.a0_eq (by omega)
      subst ha0
      have t2 : decide ((k : Int) < (full : Int)) = true := by simp; omega
      have HNk := HNX (12 * k) key off' kb bs wr hS hF (by rw [← eH]; exact hHk) hbl (by rw [HCl.out]; omega)
      clear HNX
      go_wp2_with fail
      refine HNk.mono ?_
      rintro e w2 ⟨er, rfl, hF2, hor⟩
      rcases hor with ⟨_, rfl, hS2, hH2⟩ | ⟨i, hi, hqi, _⟩
      rotate_left
      · exfalso
        have := HCl.out
        omega
      have hFW2 : Fr C.own W w2 := hF.trans hF2
      have hD2 := hdat.fr ok hFW2
      have hBy : By w2 db (off + 12 * k) (fun i => C.zs.getD (12 * k + i) 0) := by
        intro i hi
        have := hD2 (12 * k + i) (by rw [HCl.out]; omega)
        rw [HCd.out.1, HCd.out.2, ← Nat.add_assoc] at this
        exact this
      have hld := law_decode db (off + 12 * k) 12 (cap - 12 * k) (fun i => C.zs.getD (12 * k + i) 0) (fun i => by rw [HCz.out]; exact hin.zb _)
      obtain ⟨f, hf⟩ : ∃ f, (fun i => C.zs.getD (12 * k + i) 0) = f := ⟨_, rfl⟩
      rw [hf] at hBy hld hH2
      clear hf
      have k1 := hH2.cell 1 rfl
      have k2 := hH2.cell 2 rfl
      have k3 := hH2.cell 3 rfl
      obtain ⟨p, hp⟩ : ∃ p, p = 12 * k := ⟨_, rfl⟩
      rw [← hp] at hld hBy
      have HP : Hid (p = 12 * k) := hp
      have hp1 : 12 * (k : Int) = (p : Int) := by omega
      have hp2 : ((p : Int) + 12).toNat - p = 12 := by omega
      have hp3 : ¬ (cap = p) := by have := hin.cap_le; omega
      have i1 : (0 : Int) ≤ (p : Int) := by omega
      have i2 : (p : Int) + 12 ≤ (cap : Int) := by have := hin.cap_le; omega
      have i4 : (p : Int) ≤ (p : Int) + 12 := by omega
      have i3 : (k : Int) ≤ 100000 := by omega
      have r1 : IntKind.i64.wrap (p : Int) = (p : Int) := by rw [IntKind.wrap_i64]; omega
      have r2 : IntKind.i64.wrap ((p : Int) + 12) = (p : Int) + 12 := by rw [IntKind.wrap_i64]; omega
      have hH2c : Hid (Blk w2 (b0 + 4) (headCells C.R (recKey f) (recOff f) true (bv ((C.zs.drop (12 * k)).take 12))) 39) := hH2
      clear hp hH2
      go_wp2
      go_region_held3 (fun w' => w'.cell? ⟨b0 + 4, 1, none⟩ = some (.int .u32 (recKey f)) ∧ w'.cell? ⟨b0 + 4, 2, none⟩ = some (.int .u64 (recOff f)) ∧ w'.cell? ⟨b0 + 4, 3, none⟩ = some (.bool true)) (first | go_keep | (simp [*, go_sem]; done))
        (first | (go_at_call 10; refine (hld _ (by exact hBy) (by omega)).mono ?_; rintro e w3 ⟨rfl, hF3⟩; have hH3 := hF3.blk (hH2c.out.drew) (by simp); have k1' := hH3.cell 1 rfl; have k2' := hH3.cell 2 rfl; have k3' := hH3.cell 3 rfl))
      go_wp2
      go_roundw
      case rel =>
        refine ⟨k + 1, by omega, by go_num, hFW2.trans ((Fr.refl _ _).drew.trans (hF3.mono (by simp))), ?_, _, _, _, _, by rw [eH]; exact hH3, ?_⟩
        · rw [show 12 * (k + 1) = 12 * k + 12 by omega]
          exact hS2.fr ((Fr.refl [] _).drew.trans hF3) (by simp) (by simp) (by simp)
        · rw [bv_length]; simp; rw [HCz.out, hin.zlen]; omega
      case measure => simp [intOf]; omega
    · have hkf : k = full := by omega
      subst hkf
      have t2 : decide ((k : Int) < (k : Int)) = false := by simp
      have HNk := HNX (12 * k) key off' kb bs wr hS hF (by rw [← eH]; exact hHk) hbl (by rw [HCl.out]; have := HF.out; omega)
      clear HNX
      rw [eH] at hHk
      have k3 := hHk.cell 3 rfl
      go_wp2_with fail
      refine HNk.mono ?_
      rintro e w2 ⟨er, rfl, hF2, hor⟩
      rcases hor with ⟨h12, _⟩ | ⟨i, hi, hqi, rfl, hS2, hH2⟩
      · exfalso
        have := HCl.out
        have := HF.out
        omega
      have eA : C.ae = aE := by rw [HC.out]; rfl
      rw [eA] at hH2 ⊢
      have hFW2 : Fr C.own W w2 := hF.trans hF2
      have hsen2 := hsen.fr hFW2
      have hFin : Below w.heap.size w w2 := by
        refine hbel.trans (hFW2.below hbel.size ?_)
        intro x hx
        rw [HC.out] at hx
        simp [Cfg.own, cfg] at hx
        omega
      have hil : i = len % 12 := by have := HCl.out; have := HF.out; omega
      by_cases hz : i = 0
      · subst hz
        have t3 : ((len : Int) % 12 == 0) = true := by simp; omega
        have hnE : nextErr 0 aE aE aU = .nilIface := by simp [nextErr]
        rw [hnE]
        have k3' := hH2.cell 3 rfl
        simp only [and_self, if_true] at k3'
        clear hnE eA hil
        go_wp2
        go_ret
        exact ⟨by simp, hFin⟩
      · have t3 : ((len : Int) % 12 == 0) = false := by simp; omega
        have hnE : nextErr i aE aE aU = .iface 45 (.pointer (some aU)) := by simp [nextErr, lastErr, hz]
        rw [hnE]
        rw [if_neg (fun h => hz h.1)] at hH2
        have k3' := hH2.cell 3 rfl
        have g1 := hsen2.g1
        obtain ⟨cU, tU, bU⟩ := hsen2.bU
        have heq := eq_errs w2 aU aU bU bU
        rw [decide_eq_true rfl] at heq
        clear hnE eA hil
        go_wp2
        go_ret
        exact ⟨by simp, hFin⟩

/-- LawS5721ASeq, whatever the input. -/
theorem seq_any (a0 : Option Addr) (len cap db off : Nat) (zs : List Int) (aE aU : Addr) (ch : Int) (fl : Bool) (w : World) (hin : In w a0 len cap db off zs aE aU) (hc0 : 0 ≤ ch) (hc1 : ch < 256) (hm : len ≤ maxLen) :
    Calls Ybad.prog 4 #[.slice a0 len cap, .int .u8 ch, .bool fl] w fun e w' => e = .returned (.bool true) ∧ Below w.heap.size w w' := by
  by_cases hlen : len ≤ 1048576
  · cases fl
    · exact seq_eof a0 len cap db off zs aE aU ch w hin hc0 hc1 hlen
    · exact seq_fail a0 len cap db off zs aE aU ch w hin hc0 hc1 hlen
  · unfold maxLen at hm
    have t1 : decide ((1048576 : Int) < (len : Int)) = true := by simp; omega
    go_enter Ybad.func4, Ybad.ntmps4
    go_wp2
    go_ret
    exact ⟨rfl, Below.refl _ _⟩
end Go.Proofs.YbulkdnloDoor
