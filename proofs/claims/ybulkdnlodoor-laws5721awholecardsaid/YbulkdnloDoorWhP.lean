/- The walk of LawS5721AWhole (function 3), more than twelve bytes. -/
import Derived.Test.YbulkdnloDoorEq
namespace Go.Proofs.YbulkdnloDoor
open Go.RowKit
set_option linter.unusedSimpArgs false
set_option linter.unusedVariables false

set_option maxRecDepth 100000 in
set_option maxHeartbeats 8000000 in
theorem whole_fail_P (a0 : Option Addr) (len cap db off : Nat) (zs : List Int) (aE aU : Addr) (ch ik io : Int) (ok0 : Bool) (j0 j1 j2 j3 j4 j5 j6 j7 j8 j9 j10 j11 : Int) (w : World) (hin : In w a0 len cap db off zs aE aU) (hn0 : a0 = none → len = 0 ∧ cap = 0) (hc0 : 0 ≤ ch) (hc1 : ch < 256) (hlen : len ≤ 1048576) (h12 : 12 < len) :
    Calls Ybad.prog 3 #[.slice a0 len cap, .int .u8 ch, .bool true, .int .u32 ik, .int .u64 io, .bool ok0, .agg #[.int .u8 j0, .int .u8 j1, .int .u8 j2, .int .u8 j3, .int .u8 j4, .int .u8 j5, .int .u8 j6, .int .u8 j7, .int .u8 j8, .int .u8 j9, .int .u8 j10, .int .u8 j11]] w fun e w' => e = .returned (.bool true) ∧ Below w.heap.size w w' := by
  have t1 : decide ((1048576 : Int) < (len : Int)) = false := by simp; omega
  have t2 : decide ((12 : Int) < (len : Int)) = true := by simp; omega
  have l0 : 0 < w.heap.size := World.block_lt_of_cell? w _ hin.g0
  obtain ⟨c, hcc⟩ : ∃ c : Nat, 1 + ch % 13 = (c : Int) := ⟨(1 + ch % 13).toNat, by omega⟩
  have hcl : 1 ≤ c := by omega
  have hcu : c ≤ 13 := by omega
  obtain ⟨b, hb⟩ : ∃ b, w.heap.size = b := ⟨_, rfl⟩
  go_enter Ybad.func3, Ybad.ntmps3
  go_wp2_with fail
  refine (clone_any a0 len cap db off zs _ hin.a0_eq hn0 hin.zlen (((Fr.refl [] w).alloc _).dat (by simp) hin.dat) hlen).mono ?_
  rintro e w1 ⟨v, rfl, HC⟩
  have HF1 : Hid (Fr [] w w1) := ((Fr.refl _ _).alloc _).trans HC.out.1
  have hP1 : Blk w1 b [.int .u8 j0, .int .u8 j1, .int .u8 j2, .int .u8 j3, .int .u8 j4, .int .u8 j5, .int .u8 j6, .int .u8 j7, .int .u8 j8, .int .u8 j9, .int .u8 j10, .int .u8 j11] 25 := by
    have := Blk.new w #[.int .u8 j0, .int .u8 j1, .int .u8 j2, .int .u8 j3, .int .u8 j4, .int .u8 j5, .int .u8 j6, .int .u8 j7, .int .u8 j8, .int .u8 j9, .int .u8 j10, .int .u8 j11] 25
    rw [hb] at this
    exact HC.out.1.blk this (by simp)
  have HV1 : Hid (∃ own : List Nat, (∀ x ∈ own, x < w1.heap.size) ∧ ∀ (own' : List Nat) (w2 : World), Fr own' w1 w2 → (∀ x ∈ own, x ∉ own') → Str w2 v zs) := by
    obtain ⟨_, own, h1, h2⟩ := HC.out
    exact ⟨own, fun x hx => (h1 x hx).2, h2⟩
  clear HC
  have g0 : w1.cell? ⟨0, 0, none⟩ = some (.iface 45 (.pointer (some aE))) := by rw [HF1.out.cell l0 (by simp)]; exact hin.g0
  obtain ⟨b1, hb1⟩ : ∃ b1, w1.heap.size = b1 := ⟨_, rfl⟩
  have l1 : 0 < b1 := by have := HF1.out.size; omega
  have lb : b < b1 := by have := hP1.lt; omega
  go_wp2_with (go_at_call 6; refine (errNew_any _ _).mono ?_; rintro e w' ⟨rfl, rfl⟩)
  refine (newReader_any (b1 + 1) _).mono ?_
  rintro e w2 ⟨rfl, HN⟩
  have hsz : w2.heap.size = b1 + 4 := by
    have := HN.out.2.1
    rw [this]
    simp [hb1]
  have hP2 : Blk w2 b [.int .u8 j0, .int .u8 j1, .int .u8 j2, .int .u8 j3, .int .u8 j4, .int .u8 j5, .int .u8 j6, .int .u8 j7, .int .u8 j8, .int .u8 j9, .int .u8 j10, .int .u8 j11] 25 := HN.out.1.blk ((hP1.alloc _).alloc _) (by simp)
  have c0 := hP2.cell 0 rfl
  have c1 := hP2.cell 1 rfl
  have c2 := hP2.cell 2 rfl
  have c3 := hP2.cell 3 rfl
  have c4 := hP2.cell 4 rfl
  have c5 := hP2.cell 5 rfl
  have c6 := hP2.cell 6 rfl
  have c7 := hP2.cell 7 rfl
  have c8 := hP2.cell 8 rfl
  have c9 := hP2.cell 9 rfl
  have c10 := hP2.cell 10 rfl
  have c11 := hP2.cell 11 rfl
  go_wp2_with fail
  refine at_world (p := fun w3 => Calls _ _ _ w3 _) (F := fun W => Laid (cfg b1 db off len cap c a0 zs ⟨b1, 0, none⟩) w W aE aU ik io ok0 (bv [j0, j1, j2, j3, j4, j5, j6, j7, j8, j9, j10, j11]) ∧ Blk W b (bv [j0, j1, j2, j3, j4, j5, j6, j7, j8, j9, j10, j11]) 25 ∧ Fr [] w1 W) ?_ ?_
  · refine ⟨laid_of hin hlen c hcl hcu _ _ _ (HF1.out.alloc _) b1 (by rw [← hb1]; exact HF1.out.size) (by rw [← hb1]; exact Blk.new _ _ _) (by simp [hb1]) _ (Or.inl rfl) w2 HN ik io ok0 (bv [j0, j1, j2, j3, j4, j5, j6, j7, j8, j9, j10, j11]), hP2.alloc _, ?_⟩
    exact ((((Fr.refl _ _).alloc _).alloc _).trans HN.out.1).alloc _
  clear HN hsz hP2 c0 c1 c2 c3 c4 c5 c6 c7 c8 c9 c10 c11 g0
  clear w2
  rintro W ⟨⟨ok, hbel, hst, hdat, hsen, hH⟩, hPW, hFW⟩
  obtain ⟨C, HC⟩ : ∃ C, Hid (C = cfg b1 db off len cap c a0 zs ⟨b1, 0, none⟩) := ⟨_, rfl⟩
  rw [← HC.out] at ok hst hdat hsen hH
  have eH : C.H = b1 + 4 := by rw [HC.out]; rfl
  have eR : C.R = b1 + 2 := by rw [HC.out]; rfl
  have HCl : Hid (C.len = len) := by rw [HC.out]; rfl
  have HCz : Hid (C.zs = zs) := by rw [HC.out]; rfl
  have HCd : Hid (C.db = db ∧ C.off = off) := by rw [HC.out]; exact ⟨rfl, rfl⟩
  have HCa : Hid (C.ae = ⟨b1, 0, none⟩) := by rw [HC.out]; rfl
  have HCo : Hid (∀ x ∈ C.own, b1 < x) := by
    intro x hx
    rw [HC.out] at hx
    simp [Cfg.own, cfg] at hx
    omega
  have hnx := next_any C ok (by rw [HCz.out]; exact hin.zb) 0 ik io ok0 (bv [j0, j1, j2, j3, j4, j5, j6, j7, j8, j9, j10, j11]) aE aU hin.ne W hst hdat hsen hH (by simp [bv]) (by omega)
  rw [eH] at hnx
  refine hnx.mono ?_
  clear hnx
  rintro e w5 ⟨er, rfl, hF5, hor⟩
  obtain ⟨key', off', k', hH5, HX⟩ : ∃ key' off' k', Blk w5 (b1 + 4) (headCells (b1 + 2) key' off' k' (bv (splice [j0, j1, j2, j3, j4, j5, j6, j7, j8, j9, j10, j11] 0 (zs.take 12)))) 39 ∧
      Hid ((12 ≤ len ∧ er = .nilIface ∧ key' = recKey (fun i => zs.getD i 0) ∧ off' = recOff (fun i => zs.getD i 0) ∧ k' = true) ∨
        (len < 12 ∧ er = nextErr len ⟨b1, 0, none⟩ aE aU ∧ key' = ik ∧ off' = io ∧ k' = if len = 0 ∧ ⟨b1, 0, none⟩ = aE then false else ok0)) := by
    rw [eR, HCz.out, HCl.out, HCa.out] at hor
    have hzl := hin.zlen
    rcases hor with ⟨h1, h2, h3, h4⟩ | ⟨i, h1, h2, h3, h4, h5⟩
    · refine ⟨recKey (fun i => zs.getD i 0), recOff (fun i => zs.getD i 0), true, h4.congr ?_, Or.inl ⟨by omega, h2, rfl, rfl, rfl⟩⟩
      simp only [Nat.zero_add, List.drop_zero]
      congr 2
      rw [splice, List.drop_eq_nil_of_le (by simp; omega)]; simp
    · have hil : i = len := by omega
      subst hil
      omega
  have hD5 := hdat.fr ok hF5
  have hs1 : Str w5 (.slice a0 len cap) zs := by
    refine str_of hin.a0_eq hin.zlen ?_
    intro i hi
    have := hD5 i (by rw [HCl.out]; exact hi)
    rw [HCd.out.1, HCd.out.2, HCz.out] at this
    exact this
  have hs2 : Str w5 v zs := by
    obtain ⟨own, ho1, ho2⟩ := HV1.out
    exact ho2 C.own w5 ((hFW.mono (by simp)).trans hF5) (fun x hx hm => by have h1 := ho1 x hx; have h2 := HCo.out x hm; omega)
  have hP5 : Blk w5 b (bv [j0, j1, j2, j3, j4, j5, j6, j7, j8, j9, j10, j11]) 25 := hF5.blk hPW (fun hm => by have := HCo.out b hm; omega)
  have HB5 : Hid (Below w.heap.size w w5) := hbel.trans (hF5.below hbel.size (fun x hx => by have := HCo.out x hx; omega))
  have hdc : ∀ i, i < len → w5.cell? ⟨db, off + i, none⟩ = some (.int .u8 (zs.getD i 0)) := by
    intro i hi
    have := hD5 i (by rw [HCl.out]; exact hi)
    rw [HCd.out.1, HCd.out.2, HCz.out] at this
    exact this
  have hsen5 := hsen.fr hF5
  have HD5 : Hid (∀ i, i < len → w5.cell? ⟨db, off + i, none⟩ = some (.int .u8 (zs.getD i 0))) := hdc
  clear hor hD5 hdc hPW hFW hst hdat hH hP1
  go_wp2_with fail
  refine (bytesEqual_same _ _ zs w5 hs1 hs2).mono ?_
  rintro e w' ⟨rfl, hw'⟩
  subst hw'
  have hnp := neq_ptr
  have q0 := hH5.cell 0 rfl
  have d0 := hP5.cell 0 rfl
  have d1 := hP5.cell 1 rfl
  have d2 := hP5.cell 2 rfl
  have d3 := hP5.cell 3 rfl
  have d4 := hP5.cell 4 rfl
  have d5 := hP5.cell 5 rfl
  have d6 := hP5.cell 6 rfl
  have d7 := hP5.cell 7 rfl
  have d8 := hP5.cell 8 rfl
  have d9 := hP5.cell 9 rfl
  have d10 := hP5.cell 10 rfl
  have d11 := hP5.cell 11 rfl
  obtain ⟨b5, hb5⟩ : ∃ b5, w'.heap.size = b5 := ⟨_, rfl⟩
  have lb5 : b1 + 4 < b5 := by have := hH5.lt; omega
  have lp5 : b < b5 := by omega
  go_wp2
  refine at_world (p := fun w2 => Code.wp _ _ _ _ w2) (F := fun W6 => Fr [] w' W6 ∧ Blk W6 b5 (bv [j0, j1, j2, j3, j4, j5, j6, j7, j8, j9, j10, j11]) 25) ?_ ?_
  · exact ⟨(Fr.refl _ _).alloc _, by rw [← hb5]; exact Blk.new _ _ _⟩
  clear d0 d1 d2 d3 d4 d5 d6 d7 d8 d9 d10 d11 q0
  rintro W6 ⟨hF6, hW6⟩
  obtain ⟨l0, l1, l2, l3, l4, l5, l6, l7, l8, l9, l10, l11, hls⟩ : ∃ l0 l1 l2 l3 l4 l5 l6 l7 l8 l9 l10 l11 : Int, splice [j0, j1, j2, j3, j4, j5, j6, j7, j8, j9, j10, j11] 0 (zs.take 12) = [l0, l1, l2, l3, l4, l5, l6, l7, l8, l9, l10, l11] := by
    have hl : (splice [j0, j1, j2, j3, j4, j5, j6, j7, j8, j9, j10, j11] 0 (zs.take 12)).length = 12 := by rw [length_splice _ _ _ (by simp; omega)]; rfl
    match splice [j0, j1, j2, j3, j4, j5, j6, j7, j8, j9, j10, j11] 0 (zs.take 12), hl with
    | [a, b, c, d, e, f, g, h, i, j, k, l], _ => exact ⟨a, b, c, d, e, f, g, h, i, j, k, l, rfl⟩
  have HLS : Hid (splice [j0, j1, j2, j3, j4, j5, j6, j7, j8, j9, j10, j11] 0 (zs.take 12) = [l0, l1, l2, l3, l4, l5, l6, l7, l8, l9, l10, l11]) := hls
  rw [hls] at hH5
  clear hls
  have hzl := hin.zlen
  have HZ : Hid (zs.length = len) := hzl
  clear hzl
  go_loopw [25] (fun ii wr => ∃ i : Nat, i ≤ 12 ∧ ii = .int .i64 i ∧ Hid (Fr [b5] W6 wr ∧ Blk wr b5 (bv (splice [j0, j1, j2, j3, j4, j5, j6, j7, j8, j9, j10, j11] 0 (zs.take i))) 25)) (fun ii _ => 12 - (intOf ii).toNat)
  case atStart => exact ⟨0, by omega, rfl, Fr.refl _ _, hW6.congr (by simp [splice])⟩
  case round =>
    obtain ⟨i, hi, rfl, HI⟩ := hrel
    obtain ⟨hFi, hBi⟩ := HI
    by_cases hlt : i < 12
    · have ha0 := hin.a0_eq (by omega)
      subst ha0
      have t3 : decide ((i : Int) < 12) = true := by simp; omega
      have hlb : (bv (splice [j0, j1, j2, j3, j4, j5, j6, j7, j8, j9, j10, j11] 0 (zs.take i))).length = 12 := by rw [bv_length, length_splice _ _ _ (by simp; omega)]; rfl
      obtain ⟨ov, hov⟩ : ∃ ov, (bv (splice [j0, j1, j2, j3, j4, j5, j6, j7, j8, j9, j10, j11] 0 (zs.take i)))[i]? = some ov := ⟨_, List.getElem?_eq_getElem (by omega)⟩
      have x1 := hBi.cell i hov
      have x2 := hBi.frozen i
      have x3 : wr.cell? ⟨db, off + i, none⟩ = some (.int .u8 (zs.getD i 0)) := by
        have hdb : db < w.heap.size := World.block_lt_of_cell? w _ (hin.dat 0 (by omega))
        exact (hFi.dat (by simp; omega) (hF6.dat (by simp) HD5.out)) i (by omega)
      have i0 : (0 : Int) ≤ (i : Int) := by omega
      have i1 : (i : Int) < (len : Int) := by omega
      have i2 : (i : Int) < 12 := by omega
      clear hlb
      go_wp2
      go_roundw
      case rel =>
        refine ⟨i + 1, by omega, by go_num, (hFi.setCell (by simp) _), (hBi.setCell i _).congr ?_⟩
        exact splice_set [j0, j1, j2, j3, j4, j5, j6, j7, j8, j9, j10, j11] zs i (by rw [HZ.out]; omega) (by simp; omega)
      case measure => simp [intOf]; omega
    · have him : i = 12 := by omega
      clear hlt
      rw [him, HLS.out] at hBi
      rw [him]
      clear him hi
      clear i
      have hHi : Blk wr (b1 + 4) (headCells (b1 + 2) key' off' k' (bv [l0, l1, l2, l3, l4, l5, l6, l7, l8, l9, l10, l11])) 39 := hFi.blk (hF6.blk hH5 (by simp)) (by simp; omega)
      have y0 := hBi.cell 0 rfl
      have y1 := hBi.cell 1 rfl
      have y2 := hBi.cell 2 rfl
      have y3 := hBi.cell 3 rfl
      have y4 := hBi.cell 4 rfl
      have y5 := hBi.cell 5 rfl
      have y6 := hBi.cell 6 rfl
      have y7 := hBi.cell 7 rfl
      have y8 := hBi.cell 8 rfl
      have y9 := hBi.cell 9 rfl
      have y10 := hBi.cell 10 rfl
      have y11 := hBi.cell 11 rfl
      have z1 := hHi.cell 1 rfl
      have z2 := hHi.cell 2 rfl
      have z3 := hHi.cell 3 rfl
      have z4 := hHi.cell 4 rfl
      have z5 := hHi.cell 5 rfl
      have z6 := hHi.cell 6 rfl
      have z7 := hHi.cell 7 rfl
      have z8 := hHi.cell 8 rfl
      have z9 := hHi.cell 9 rfl
      have z10 := hHi.cell 10 rfl
      have z11 := hHi.cell 11 rfl
      have z12 := hHi.cell 12 rfl
      have z13 := hHi.cell 13 rfl
      have z14 := hHi.cell 14 rfl
      have z15 := hHi.cell 15 rfl
      have hn12 := neq_same12 l0 l1 l2 l3 l4 l5 l6 l7 l8 l9 l10 l11
      have t4 : decide (12 < 12) = false := by simp
      have HFin : Hid (∀ {w9 : World}, Fr [] wr w9 → Below w.heap.size w w9) := fun {w9} h9 => HB5.out.trans (((((Fr.refl [b5] _).trans (hF6.mono (by simp))).trans hFi).trans (h9.mono (by simp))).below HB5.out.size (by simp; omega))
      clear hBi
      go_wp2
      go_quiet (fail)
      have hHq := hHi.drewN nq
      clear y0 y1 y2 y3 y4 y5 y6 y7 y8 y9 y10 y11 z4 z5 z6 z7 z8 z9 z10 z11 z12 z13 z14 z15 hn12
      obtain ⟨_, rfl, rfl, rfl, rfl⟩ | ⟨hx, _⟩ := HX.out
      rotate_left
      · exfalso; omega
      have ha0 := hin.a0_eq (by omega)
      subst ha0
      have hdb : db < w.heap.size := World.block_lt_of_cell? w _ (hin.dat 0 (by omega))
      have hBy : By wr db off (fun i => zs.getD i 0) := fun i hi => (hFi.dat (by simp; omega) (hF6.dat (by simp) HD5.out)) i (by omega)
      have hld := law_decode db off 12 cap (fun i => zs.getD i 0) hin.zb
      obtain ⟨f, hf⟩ : ∃ f, (fun i => zs.getD i 0) = f := ⟨_, rfl⟩
      rw [hf] at hBy hld hHi hHq z1 z2
      clear hf
      have t5 : decide ((12 : Int) ≤ (len : Int)) = true := by simp; omega
      have i5 : (12 : Int) ≤ (cap : Int) := by have := hin.cap_le; omega
      go_wp2
      go_region_held3 (fun w' => w'.cell? ⟨b1 + 4, 1, none⟩ = some (.int .u32 (recKey f)) ∧ w'.cell? ⟨b1 + 4, 2, none⟩ = some (.int .u64 (recOff f)) ∧ w'.cell? ⟨b1 + 4, 3, none⟩ = some (.bool true)) (first | go_keep | (simp [*, go_sem]; done))
        (first | (go_at_call 10; refine (hld _ (by exact hBy) (by omega)).mono ?_; rintro e w8 ⟨rfl, hF8⟩; have hH8 := hF8.blk (Blk.drew hHq) (by simp); have k1' := hH8.cell 1 rfl; have k2' := hH8.cell 2 rfl; have k3' := hH8.cell 3 rfl))
      go_wp2
      go_ret
      exact ⟨by simp, HFin.out (((Fr.refl [] wr).drewN _).trans ((Fr.refl [] _).drew.trans hF8))⟩

set_option maxRecDepth 100000 in
set_option maxHeartbeats 8000000 in
theorem whole_eof_P (a0 : Option Addr) (len cap db off : Nat) (zs : List Int) (aE aU : Addr) (ch ik io : Int) (ok0 : Bool) (j0 j1 j2 j3 j4 j5 j6 j7 j8 j9 j10 j11 : Int) (w : World) (hin : In w a0 len cap db off zs aE aU) (hn0 : a0 = none → len = 0 ∧ cap = 0) (hc0 : 0 ≤ ch) (hc1 : ch < 256) (hlen : len ≤ 1048576) (h12 : 12 < len) :
    Calls Ybad.prog 3 #[.slice a0 len cap, .int .u8 ch, .bool false, .int .u32 ik, .int .u64 io, .bool ok0, .agg #[.int .u8 j0, .int .u8 j1, .int .u8 j2, .int .u8 j3, .int .u8 j4, .int .u8 j5, .int .u8 j6, .int .u8 j7, .int .u8 j8, .int .u8 j9, .int .u8 j10, .int .u8 j11]] w fun e w' => e = .returned (.bool true) ∧ Below w.heap.size w w' := by
  have t1 : decide ((1048576 : Int) < (len : Int)) = false := by simp; omega
  have t2 : decide ((12 : Int) < (len : Int)) = true := by simp; omega
  have l0 : 0 < w.heap.size := World.block_lt_of_cell? w _ hin.g0
  obtain ⟨c, hcc⟩ : ∃ c : Nat, 1 + ch % 13 = (c : Int) := ⟨(1 + ch % 13).toNat, by omega⟩
  have hcl : 1 ≤ c := by omega
  have hcu : c ≤ 13 := by omega
  obtain ⟨b, hb⟩ : ∃ b, w.heap.size = b := ⟨_, rfl⟩
  go_enter Ybad.func3, Ybad.ntmps3
  go_wp2_with fail
  refine (clone_any a0 len cap db off zs _ hin.a0_eq hn0 hin.zlen (((Fr.refl [] w).alloc _).dat (by simp) hin.dat) hlen).mono ?_
  rintro e w1 ⟨v, rfl, HC⟩
  have HF1 : Hid (Fr [] w w1) := ((Fr.refl _ _).alloc _).trans HC.out.1
  have hP1 : Blk w1 b [.int .u8 j0, .int .u8 j1, .int .u8 j2, .int .u8 j3, .int .u8 j4, .int .u8 j5, .int .u8 j6, .int .u8 j7, .int .u8 j8, .int .u8 j9, .int .u8 j10, .int .u8 j11] 25 := by
    have := Blk.new w #[.int .u8 j0, .int .u8 j1, .int .u8 j2, .int .u8 j3, .int .u8 j4, .int .u8 j5, .int .u8 j6, .int .u8 j7, .int .u8 j8, .int .u8 j9, .int .u8 j10, .int .u8 j11] 25
    rw [hb] at this
    exact HC.out.1.blk this (by simp)
  have HV1 : Hid (∃ own : List Nat, (∀ x ∈ own, x < w1.heap.size) ∧ ∀ (own' : List Nat) (w2 : World), Fr own' w1 w2 → (∀ x ∈ own, x ∉ own') → Str w2 v zs) := by
    obtain ⟨_, own, h1, h2⟩ := HC.out
    exact ⟨own, fun x hx => (h1 x hx).2, h2⟩
  clear HC
  have g0 : w1.cell? ⟨0, 0, none⟩ = some (.iface 45 (.pointer (some aE))) := by rw [HF1.out.cell l0 (by simp)]; exact hin.g0
  obtain ⟨b1, hb1⟩ : ∃ b1, w1.heap.size = b1 := ⟨_, rfl⟩
  have l1 : 0 < b1 := by have := HF1.out.size; omega
  have lb : b < b1 := by have := hP1.lt; omega
  go_wp2_with (go_at_call 6; refine (errNew_any _ _).mono ?_; rintro e w' ⟨rfl, rfl⟩)
  refine (newReader_any (b1 + 1) _).mono ?_
  rintro e w2 ⟨rfl, HN⟩
  have hsz : w2.heap.size = b1 + 4 := by
    have := HN.out.2.1
    rw [this]
    simp [hb1]
  have hP2 : Blk w2 b [.int .u8 j0, .int .u8 j1, .int .u8 j2, .int .u8 j3, .int .u8 j4, .int .u8 j5, .int .u8 j6, .int .u8 j7, .int .u8 j8, .int .u8 j9, .int .u8 j10, .int .u8 j11] 25 := HN.out.1.blk ((hP1.alloc _).alloc _) (by simp)
  have c0 := hP2.cell 0 rfl
  have c1 := hP2.cell 1 rfl
  have c2 := hP2.cell 2 rfl
  have c3 := hP2.cell 3 rfl
  have c4 := hP2.cell 4 rfl
  have c5 := hP2.cell 5 rfl
  have c6 := hP2.cell 6 rfl
  have c7 := hP2.cell 7 rfl
  have c8 := hP2.cell 8 rfl
  have c9 := hP2.cell 9 rfl
  have c10 := hP2.cell 10 rfl
  have c11 := hP2.cell 11 rfl
  go_wp2_with fail
  refine at_world (p := fun w3 => Calls _ _ _ w3 _) (F := fun W => Laid (cfg b1 db off len cap c a0 zs aE) w W aE aU ik io ok0 (bv [j0, j1, j2, j3, j4, j5, j6, j7, j8, j9, j10, j11]) ∧ Blk W b (bv [j0, j1, j2, j3, j4, j5, j6, j7, j8, j9, j10, j11]) 25 ∧ Fr [] w1 W) ?_ ?_
  · refine ⟨laid_of hin hlen c hcl hcu _ _ _ (HF1.out.alloc _) b1 (by rw [← hb1]; exact HF1.out.size) (by rw [← hb1]; exact Blk.new _ _ _) (by simp [hb1]) _ (Or.inr rfl) w2 HN ik io ok0 (bv [j0, j1, j2, j3, j4, j5, j6, j7, j8, j9, j10, j11]), hP2.alloc _, ?_⟩
    exact ((((Fr.refl _ _).alloc _).alloc _).trans HN.out.1).alloc _
  clear HN hsz hP2 c0 c1 c2 c3 c4 c5 c6 c7 c8 c9 c10 c11 g0
  clear w2
  rintro W ⟨⟨ok, hbel, hst, hdat, hsen, hH⟩, hPW, hFW⟩
  obtain ⟨C, HC⟩ : ∃ C, Hid (C = cfg b1 db off len cap c a0 zs aE) := ⟨_, rfl⟩
  rw [← HC.out] at ok hst hdat hsen hH
  have eH : C.H = b1 + 4 := by rw [HC.out]; rfl
  have eR : C.R = b1 + 2 := by rw [HC.out]; rfl
  have HCl : Hid (C.len = len) := by rw [HC.out]; rfl
  have HCz : Hid (C.zs = zs) := by rw [HC.out]; rfl
  have HCd : Hid (C.db = db ∧ C.off = off) := by rw [HC.out]; exact ⟨rfl, rfl⟩
  have HCa : Hid (C.ae = aE) := by rw [HC.out]; rfl
  have HCo : Hid (∀ x ∈ C.own, b1 < x) := by
    intro x hx
    rw [HC.out] at hx
    simp [Cfg.own, cfg] at hx
    omega
  have hnx := next_any C ok (by rw [HCz.out]; exact hin.zb) 0 ik io ok0 (bv [j0, j1, j2, j3, j4, j5, j6, j7, j8, j9, j10, j11]) aE aU hin.ne W hst hdat hsen hH (by simp [bv]) (by omega)
  rw [eH] at hnx
  refine hnx.mono ?_
  clear hnx
  rintro e w5 ⟨er, rfl, hF5, hor⟩
  obtain ⟨key', off', k', hH5, HX⟩ : ∃ key' off' k', Blk w5 (b1 + 4) (headCells (b1 + 2) key' off' k' (bv (splice [j0, j1, j2, j3, j4, j5, j6, j7, j8, j9, j10, j11] 0 (zs.take 12)))) 39 ∧
      Hid ((12 ≤ len ∧ er = .nilIface ∧ key' = recKey (fun i => zs.getD i 0) ∧ off' = recOff (fun i => zs.getD i 0) ∧ k' = true) ∨
        (len < 12 ∧ er = nextErr len aE aE aU ∧ key' = ik ∧ off' = io ∧ k' = if len = 0 ∧ aE = aE then false else ok0)) := by
    rw [eR, HCz.out, HCl.out, HCa.out] at hor
    have hzl := hin.zlen
    rcases hor with ⟨h1, h2, h3, h4⟩ | ⟨i, h1, h2, h3, h4, h5⟩
    · refine ⟨recKey (fun i => zs.getD i 0), recOff (fun i => zs.getD i 0), true, h4.congr ?_, Or.inl ⟨by omega, h2, rfl, rfl, rfl⟩⟩
      simp only [Nat.zero_add, List.drop_zero]
      congr 2
      rw [splice, List.drop_eq_nil_of_le (by simp; omega)]; simp
    · have hil : i = len := by omega
      subst hil
      omega
  have hD5 := hdat.fr ok hF5
  have hs1 : Str w5 (.slice a0 len cap) zs := by
    refine str_of hin.a0_eq hin.zlen ?_
    intro i hi
    have := hD5 i (by rw [HCl.out]; exact hi)
    rw [HCd.out.1, HCd.out.2, HCz.out] at this
    exact this
  have hs2 : Str w5 v zs := by
    obtain ⟨own, ho1, ho2⟩ := HV1.out
    exact ho2 C.own w5 ((hFW.mono (by simp)).trans hF5) (fun x hx hm => by have h1 := ho1 x hx; have h2 := HCo.out x hm; omega)
  have hP5 : Blk w5 b (bv [j0, j1, j2, j3, j4, j5, j6, j7, j8, j9, j10, j11]) 25 := hF5.blk hPW (fun hm => by have := HCo.out b hm; omega)
  have HB5 : Hid (Below w.heap.size w w5) := hbel.trans (hF5.below hbel.size (fun x hx => by have := HCo.out x hx; omega))
  have hdc : ∀ i, i < len → w5.cell? ⟨db, off + i, none⟩ = some (.int .u8 (zs.getD i 0)) := by
    intro i hi
    have := hD5 i (by rw [HCl.out]; exact hi)
    rw [HCd.out.1, HCd.out.2, HCz.out] at this
    exact this
  have hsen5 := hsen.fr hF5
  have HD5 : Hid (∀ i, i < len → w5.cell? ⟨db, off + i, none⟩ = some (.int .u8 (zs.getD i 0))) := hdc
  clear hor hD5 hdc hPW hFW hst hdat hH hP1
  go_wp2_with fail
  refine (bytesEqual_same _ _ zs w5 hs1 hs2).mono ?_
  rintro e w' ⟨rfl, hw'⟩
  subst hw'
  have hnp := neq_ptr
  have q0 := hH5.cell 0 rfl
  have d0 := hP5.cell 0 rfl
  have d1 := hP5.cell 1 rfl
  have d2 := hP5.cell 2 rfl
  have d3 := hP5.cell 3 rfl
  have d4 := hP5.cell 4 rfl
  have d5 := hP5.cell 5 rfl
  have d6 := hP5.cell 6 rfl
  have d7 := hP5.cell 7 rfl
  have d8 := hP5.cell 8 rfl
  have d9 := hP5.cell 9 rfl
  have d10 := hP5.cell 10 rfl
  have d11 := hP5.cell 11 rfl
  obtain ⟨b5, hb5⟩ : ∃ b5, w'.heap.size = b5 := ⟨_, rfl⟩
  have lb5 : b1 + 4 < b5 := by have := hH5.lt; omega
  have lp5 : b < b5 := by omega
  go_wp2
  refine at_world (p := fun w2 => Code.wp _ _ _ _ w2) (F := fun W6 => Fr [] w' W6 ∧ Blk W6 b5 (bv [j0, j1, j2, j3, j4, j5, j6, j7, j8, j9, j10, j11]) 25) ?_ ?_
  · exact ⟨(Fr.refl _ _).alloc _, by rw [← hb5]; exact Blk.new _ _ _⟩
  clear d0 d1 d2 d3 d4 d5 d6 d7 d8 d9 d10 d11 q0
  rintro W6 ⟨hF6, hW6⟩
  obtain ⟨l0, l1, l2, l3, l4, l5, l6, l7, l8, l9, l10, l11, hls⟩ : ∃ l0 l1 l2 l3 l4 l5 l6 l7 l8 l9 l10 l11 : Int, splice [j0, j1, j2, j3, j4, j5, j6, j7, j8, j9, j10, j11] 0 (zs.take 12) = [l0, l1, l2, l3, l4, l5, l6, l7, l8, l9, l10, l11] := by
    have hl : (splice [j0, j1, j2, j3, j4, j5, j6, j7, j8, j9, j10, j11] 0 (zs.take 12)).length = 12 := by rw [length_splice _ _ _ (by simp; omega)]; rfl
    match splice [j0, j1, j2, j3, j4, j5, j6, j7, j8, j9, j10, j11] 0 (zs.take 12), hl with
    | [a, b, c, d, e, f, g, h, i, j, k, l], _ => exact ⟨a, b, c, d, e, f, g, h, i, j, k, l, rfl⟩
  have HLS : Hid (splice [j0, j1, j2, j3, j4, j5, j6, j7, j8, j9, j10, j11] 0 (zs.take 12) = [l0, l1, l2, l3, l4, l5, l6, l7, l8, l9, l10, l11]) := hls
  rw [hls] at hH5
  clear hls
  have hzl := hin.zlen
  have HZ : Hid (zs.length = len) := hzl
  clear hzl
  go_loopw [25] (fun ii wr => ∃ i : Nat, i ≤ 12 ∧ ii = .int .i64 i ∧ Hid (Fr [b5] W6 wr ∧ Blk wr b5 (bv (splice [j0, j1, j2, j3, j4, j5, j6, j7, j8, j9, j10, j11] 0 (zs.take i))) 25)) (fun ii _ => 12 - (intOf ii).toNat)
  case atStart => exact ⟨0, by omega, rfl, Fr.refl _ _, hW6.congr (by simp [splice])⟩
  case round =>
    obtain ⟨i, hi, rfl, HI⟩ := hrel
    obtain ⟨hFi, hBi⟩ := HI
    by_cases hlt : i < 12
    · have ha0 := hin.a0_eq (by omega)
      subst ha0
      have t3 : decide ((i : Int) < 12) = true := by simp; omega
      have hlb : (bv (splice [j0, j1, j2, j3, j4, j5, j6, j7, j8, j9, j10, j11] 0 (zs.take i))).length = 12 := by rw [bv_length, length_splice _ _ _ (by simp; omega)]; rfl
      obtain ⟨ov, hov⟩ : ∃ ov, (bv (splice [j0, j1, j2, j3, j4, j5, j6, j7, j8, j9, j10, j11] 0 (zs.take i)))[i]? = some ov := ⟨_, List.getElem?_eq_getElem (by omega)⟩
      have x1 := hBi.cell i hov
      have x2 := hBi.frozen i
      have x3 : wr.cell? ⟨db, off + i, none⟩ = some (.int .u8 (zs.getD i 0)) := by
        have hdb : db < w.heap.size := World.block_lt_of_cell? w _ (hin.dat 0 (by omega))
        exact (hFi.dat (by simp; omega) (hF6.dat (by simp) HD5.out)) i (by omega)
      have i0 : (0 : Int) ≤ (i : Int) := by omega
      have i1 : (i : Int) < (len : Int) := by omega
      have i2 : (i : Int) < 12 := by omega
      clear hlb
      go_wp2
      go_roundw
      case rel =>
        refine ⟨i + 1, by omega, by go_num, (hFi.setCell (by simp) _), (hBi.setCell i _).congr ?_⟩
        exact splice_set [j0, j1, j2, j3, j4, j5, j6, j7, j8, j9, j10, j11] zs i (by rw [HZ.out]; omega) (by simp; omega)
      case measure => simp [intOf]; omega
    · have him : i = 12 := by omega
      clear hlt
      rw [him, HLS.out] at hBi
      rw [him]
      clear him hi
      clear i
      have hHi : Blk wr (b1 + 4) (headCells (b1 + 2) key' off' k' (bv [l0, l1, l2, l3, l4, l5, l6, l7, l8, l9, l10, l11])) 39 := hFi.blk (hF6.blk hH5 (by simp)) (by simp; omega)
      have y0 := hBi.cell 0 rfl
      have y1 := hBi.cell 1 rfl
      have y2 := hBi.cell 2 rfl
      have y3 := hBi.cell 3 rfl
      have y4 := hBi.cell 4 rfl
      have y5 := hBi.cell 5 rfl
      have y6 := hBi.cell 6 rfl
      have y7 := hBi.cell 7 rfl
      have y8 := hBi.cell 8 rfl
      have y9 := hBi.cell 9 rfl
      have y10 := hBi.cell 10 rfl
      have y11 := hBi.cell 11 rfl
      have z1 := hHi.cell 1 rfl
      have z2 := hHi.cell 2 rfl
      have z3 := hHi.cell 3 rfl
      have z4 := hHi.cell 4 rfl
      have z5 := hHi.cell 5 rfl
      have z6 := hHi.cell 6 rfl
      have z7 := hHi.cell 7 rfl
      have z8 := hHi.cell 8 rfl
      have z9 := hHi.cell 9 rfl
      have z10 := hHi.cell 10 rfl
      have z11 := hHi.cell 11 rfl
      have z12 := hHi.cell 12 rfl
      have z13 := hHi.cell 13 rfl
      have z14 := hHi.cell 14 rfl
      have z15 := hHi.cell 15 rfl
      have hn12 := neq_same12 l0 l1 l2 l3 l4 l5 l6 l7 l8 l9 l10 l11
      have t4 : decide (12 < 12) = false := by simp
      have HFin : Hid (∀ {w9 : World}, Fr [] wr w9 → Below w.heap.size w w9) := fun {w9} h9 => HB5.out.trans (((((Fr.refl [b5] _).trans (hF6.mono (by simp))).trans hFi).trans (h9.mono (by simp))).below HB5.out.size (by simp; omega))
      clear hBi
      go_wp2
      go_quiet (fail)
      have hHq := hHi.drewN nq
      clear y0 y1 y2 y3 y4 y5 y6 y7 y8 y9 y10 y11 z4 z5 z6 z7 z8 z9 z10 z11 z12 z13 z14 z15 hn12
      obtain ⟨_, rfl, rfl, rfl, rfl⟩ | ⟨hx, _⟩ := HX.out
      rotate_left
      · exfalso; omega
      have ha0 := hin.a0_eq (by omega)
      subst ha0
      have hdb : db < w.heap.size := World.block_lt_of_cell? w _ (hin.dat 0 (by omega))
      have hBy : By wr db off (fun i => zs.getD i 0) := fun i hi => (hFi.dat (by simp; omega) (hF6.dat (by simp) HD5.out)) i (by omega)
      have hld := law_decode db off 12 cap (fun i => zs.getD i 0) hin.zb
      obtain ⟨f, hf⟩ : ∃ f, (fun i => zs.getD i 0) = f := ⟨_, rfl⟩
      rw [hf] at hBy hld hHi hHq z1 z2
      clear hf
      have t5 : decide ((12 : Int) ≤ (len : Int)) = true := by simp; omega
      have i5 : (12 : Int) ≤ (cap : Int) := by have := hin.cap_le; omega
      go_wp2
      go_region_held3 (fun w' => w'.cell? ⟨b1 + 4, 1, none⟩ = some (.int .u32 (recKey f)) ∧ w'.cell? ⟨b1 + 4, 2, none⟩ = some (.int .u64 (recOff f)) ∧ w'.cell? ⟨b1 + 4, 3, none⟩ = some (.bool true)) (first | go_keep | (simp [*, go_sem]; done))
        (first | (go_at_call 10; refine (hld _ (by exact hBy) (by omega)).mono ?_; rintro e w8 ⟨rfl, hF8⟩; have hH8 := hF8.blk (Blk.drew hHq) (by simp); have k1' := hH8.cell 1 rfl; have k2' := hH8.cell 2 rfl; have k3' := hH8.cell 3 rfl))
      go_wp2
      go_ret
      exact ⟨by simp, HFin.out (((Fr.refl [] wr).drewN _).trans ((Fr.refl [] _).drew.trans hF8))⟩

end Go.Proofs.YbulkdnloDoor
