/- (*bufio.Reader).Read (function 34): the buffer is empty, the source is not. -/
import Derived.Test.YbulkdnloDoorBuf
namespace Go.Proofs.YbulkdnloDoor
open Go.RowKit
set_option linter.unusedSimpArgs false

set_option maxRecDepth 100000 in
set_option maxHeartbeats 4000000 in
/-- the buffer is empty, the source is not: it is filled, then k of its bytes go to p. -/
theorem buf_fill (S R B H db off : Nat) (len cap pos c : Nat) (ae : Addr) (r : Nat) (lb ls : Int) (bcs hcs : List Value) (zs : List Int) (m o q k j : Nat) (w : World)
    (hS : Blk w S [.slice (some ⟨db, off, none⟩) len cap, .int .i64 pos, .int .i64 c, .iface 45 (.pointer (some ae))] 32) (hp : pos < len) (hlen : len ≤ 1048576) (hcap : len ≤ cap)
    (hc1 : 1 ≤ c) (hc2 : c ≤ 13) (hq : q = min c (len - pos)) (hzs : zs.length = len) (hdat : ∀ i, i < len → w.cell? ⟨db, off + i, none⟩ = some (.int .u8 (zs.getD i 0)))
    (hR : Blk w R [.slice (some ⟨B, 0, none⟩) 4096 4096, .iface 30 (.pointer (some ⟨S, 0, none⟩)), .int .i64 r, .int .i64 r, .nilIface, .int .i64 lb, .int .i64 ls] 56)
    (hB : Blk w B bcs 5) (hbl : bcs.length = 4096) (hH : Blk w H hcs 39) (hfit : o + m ≤ hcs.length)
    (hm1 : 1 ≤ m) (hm2 : m ≤ 12) (hk : k = min q m) (hj : k = j + 1)
    (hSR : S ≠ R) (hSB : S ≠ B) (hSH : S ≠ H) (hRB : R ≠ B) (hRH : R ≠ H) (hBH : B ≠ H) (hdR : db ≠ R) :
    Calls Ybad.prog 34 #[.pointer (some ⟨R, 0, none⟩), .slice (some ⟨H, o, none⟩) m m] w fun e w' => e = .returned (.tuple #[.int .i64 k, .nilIface]) ∧
      Fr [S, R, B, H] w w' ∧ Blk w' S [.slice (some ⟨db, off, none⟩) len cap, .int .i64 ((pos + q : Nat)), .int .i64 c, .iface 45 (.pointer (some ae))] 32 ∧
      (∃ lb' ls' : Int, Blk w' R [.slice (some ⟨B, 0, none⟩) 4096 4096, .iface 30 (.pointer (some ⟨S, 0, none⟩)), .int .i64 k, .int .i64 q, .nilIface, .int .i64 lb', .int .i64 ls'] 56) ∧
      Blk w' B (splice bcs 0 (bv ((zs.drop pos).take q))) 5 ∧ Blk w' H (splice hcs o (bv ((zs.drop pos).take k))) 39 := by
  have c0 := hR.cell 0 rfl
  have c1 := hR.cell 1 rfl
  have c2 := hR.cell 2 rfl
  have c3 := hR.cell 3 rfl
  have c4 := hR.cell 4 rfl
  have f2 := hR.frozen 2
  have f3 := hR.frozen 3
  have f4 := hR.frozen 4
  have t1 : ((m : Int) == 0) = false := by simp; omega
  have t2 : ((r : Int) == (r : Int)) = true := by simp
  have t3 : decide ((4096 : Int) ≤ (m : Int)) = false := by simp; omega
  have t4 : ((q : Int) == 0) = false := by simp; omega
  have t5 : decide ((q : Int) < 0) = false := by simp
  have hna := nil_ahead
  have hmr := method_read
  have hq1 : q ≤ 13 := by omega
  have hq2 : pos + q ≤ len := by omega
  have hkm : k ≤ m := by omega
  have hkq : k ≤ q := by omega
  have HQ : Hid (q = min c (len - pos)) := hq
  have HK : Hid (k = min q m) := hk
  have HJ : Hid (k = j + 1) := hj
  have HL : Hid (bcs.length = 4096) := hbl
  have HZ : Hid (zs.length = len) := hzs
  have HD : Hid (∀ i, i < len → w.cell? ⟨db, off + i, none⟩ = some (.int .u8 (zs.getD i 0))) := hdat
  clear hq hk hj hbl hzs hdat
  go_enter Ybad.func34, Ybad.ntmps34
  go_wp2
  go_quiet (fail)
  go_wp2
  refine at_world (p := fun w2 => Code.wp _ _ _ _ w2) (F := fun w2 => Fr [S, R, B, H] w w2 ∧ Blk w2 S [.slice (some ⟨db, off, none⟩) len cap, .int .i64 pos, .int .i64 c, .iface 45 (.pointer (some ae))] 32 ∧
    Blk w2 R [.slice (some ⟨B, 0, none⟩) 4096 4096, .iface 30 (.pointer (some ⟨S, 0, none⟩)), .int .i64 0, .int .i64 0, .nilIface, .int .i64 lb, .int .i64 ls] 56 ∧
    Blk w2 B bcs 5 ∧ Blk w2 H hcs 39 ∧ Hid (∀ i, i < len → w2.cell? ⟨db, off + i, none⟩ = some (.int .u8 (zs.getD i 0)))) ?_ ?_
  · refine ⟨((((Fr.refl _ _).drewN _).setCell (by simp) _).setCell (by simp) _), ((hS.drewN _).setCell_ne hSR _).setCell_ne hSR _, (((hR.drewN _).setCell 2 _).setCell 3 _).congr (by simp),
      ((hB.drewN _).setCell_ne (Ne.symm hRB) _).setCell_ne (Ne.symm hRB) _, ((hH.drewN _).setCell_ne (Ne.symm hRH) _).setCell_ne (Ne.symm hRH) _, ?_⟩
    exact ((((Fr.refl [R] w).drewN _).setCell (by simp) _).setCell (by simp) _).dat (by simpa using hdR) HD.out
  rintro w2 ⟨hF2, hS2, hR2, hB2, hH2, hD2⟩
  have x0 := hR2.cell 0 rfl
  have x1 := hR2.cell 1 rfl
  have x4 := hR2.cell 4 rfl
  have y4 := hR2.frozen 4
  clear c0 c1 c2 c3 c4 f2 f3 f4
  go_region_held3 (fun w' => w'.cell? ⟨R, 0, none⟩ = some (.slice (some ⟨B, 0, none⟩) 4096 4096) ∧ w'.cell? ⟨R, 1, none⟩ = some (.iface 30 (.pointer (some ⟨S, 0, none⟩)))) (simp [*, go_sem])
    (first | (go_at_call 33; refine (src_hit S B db off len cap pos c (.iface 45 (.pointer (some ae))) bcs zs q _ hS2.drew hp hlen hcap hc1 hc2 HQ.out HZ.out hD2.out hB2.drew HL.out hSB).mono ?_; rintro e w3 ⟨rfl, hF3, hS3, hB3⟩; have hR3 := hF3.blk hR2.drew (by simp [Ne.symm hSR, hRB]); have hH3 := hF3.blk hH2.drew (by simp [Ne.symm hSH, Ne.symm hBH]); have z0 := hR3.cell 0 rfl; have z1 := hR3.cell 1 rfl; have z3 := hR3.cell 3 rfl; have z4 := hR3.cell 4 rfl; have v4 := hR3.frozen 4; have v3 := hR3.frozen 3))
  go_wp2
  refine at_world (p := fun w2 => Code.wp _ _ _ _ w2) (F := fun w4 => Fr [S, R, B, H] w w4 ∧ Blk w4 S [.slice (some ⟨db, off, none⟩) len cap, .int .i64 ((pos + q : Nat)), .int .i64 c, .iface 45 (.pointer (some ae))] 32 ∧
    Blk w4 R [.slice (some ⟨B, 0, none⟩) 4096 4096, .iface 30 (.pointer (some ⟨S, 0, none⟩)), .int .i64 0, .int .i64 q, .nilIface, .int .i64 lb, .int .i64 ls] 56 ∧
    Blk w4 B (splice bcs 0 (bv ((zs.drop pos).take q))) 5 ∧ Blk w4 H hcs 39) ?_ ?_
  · exact ⟨(((hF2.trans (Fr.refl _ _).drew).trans (hF3.mono (by simp))).setCell (by simp) _).setCell (by simp) _, (hS3.setCell_ne hSR _).setCell_ne hSR _, ((hR3.setCell 4 _).setCell 3 _).congr (by simp),
      (hB3.setCell_ne (Ne.symm hRB) _).setCell_ne (Ne.symm hRB) _, (hH3.setCell_ne (Ne.symm hRH) _).setCell_ne (Ne.symm hRH) _⟩
  clear z0 z1 z3 z4 v4 v3 hF3 hS3 hB3 hR3 hH3 x0 x1 x4 y4 hF2 hS2 hR2 hB2 hH2 hD2
  rintro w4 ⟨hF4, hS4, hR4, hB4, hH4⟩
  have hcl : (bv ((zs.drop pos).take k)).length = k := by have := HZ.out; simp [bv]; omega
  have hql : (bv ((zs.drop pos).take q)).length = q := by have := HZ.out; simp [bv]; omega
  have hjq : (splice bcs 0 (bv ((zs.drop pos).take q)))[j]? = some (.int .u8 (zs.getD (pos + j) 0)) := by
    have := HZ.out; have := HJ.out; have := HQ.out
    have hjl : j < ((zs.drop pos).take q).length := by simp; omega
    rw [splice, List.take_zero, List.nil_append, List.getElem?_append_left (by rw [bv_length]; exact hjl), bv_get hjl]
    simp [List.getD, show j < q by omega]
  have hpre : ∀ (i : Nat) (v : Value), (bv ((zs.drop pos).take k))[i]? = some v → (splice bcs 0 (bv ((zs.drop pos).take q)))[i]? = some v := by
    intro i v hv
    have hi : i < (bv ((zs.drop pos).take k)).length := (List.getElem?_eq_some_iff.1 hv).1
    rw [hcl] at hi
    rw [splice, List.take_zero, List.nil_append, List.getElem?_append_left (by rw [hql]; omega)]
    simpa [bv, List.getElem?_take, hi, show i < q by omega] using hv
  obtain ⟨w5, HW⟩ : ∃ w5, Hid (w5 = w4.setRow H (splice hcs o (bv ((zs.drop pos).take k))).toArray) := ⟨_, rfl⟩
  have hcp : ∀ n, Sem.run Ybad.prog (Builtin.copy_ #[22, 22] 3 #[.slice (some ⟨H, o, none⟩) m m, .slice (some ⟨B, 0, none⟩) q 4096]) (w4.drewN n) =
      .ok (.int .i64 k) (w5.drewN n) := by
    intro n
    have := run_copy_row (P := Ybad.prog) (w4.drewN n) 22 22 3 5 H o m m ⟨B, 0, none⟩ q 4096 hcs.toArray 39 (bv ((zs.drop pos).take k)) Ybad.underlying22 Ybad.size5 hH4 (by rw [hcl]; exact HK.out) (fun j v hv => by
      rw [Addr.add_mid']
      refine (hB4.drewN n).cell _ ?_
      rw [Nat.zero_add]; exact hpre j v hv) (by rw [hcl]; simp; omega) (bv_one _)
    rw [this, hcl, HW.out]; simp [splice, goInt, hcl]; rfl
  have hcp1 : Sem.run Ybad.prog (Builtin.copy_ #[22, 22] 3 #[.slice (some ⟨H, o, none⟩) m m, .slice (some ⟨B, 0, none⟩) q 4096]) w4.drew = .ok (.int .i64 k) w5.drew := hcp 1
  have hS5 := hS4.setRow_ne hSH (splice hcs o (bv ((zs.drop pos).take k))).toArray
  have hR5 := hR4.setRow_ne hRH (splice hcs o (bv ((zs.drop pos).take k))).toArray
  have hB5 := hB4.setRow_ne hBH (splice hcs o (bv ((zs.drop pos).take k))).toArray
  have hH5 := hH4.setRow (splice hcs o (bv ((zs.drop pos).take k)))
  have hF5 : Fr [S, R, B, H] w (w4.setRow H (splice hcs o (bv ((zs.drop pos).take k))).toArray) := hF4.setRow (by simp) _
  rw [← HW.out] at hS5 hR5 hB5 hH5 hF5
  have c0 := hR4.cell 0 rfl
  have c2 := hR4.cell 2 rfl
  have c3 := hR4.cell 3 rfl
  have d0 := hR5.cell 0 rfl
  have d2 := hR5.cell 2 rfl
  have d3 := hR5.cell 3 rfl
  have d5 := hR5.cell 5 rfl
  have d6 := hR5.cell 6 rfl
  have g2 := hR5.frozen 2
  have g5 := hR5.frozen 5
  have g6 := hR5.frozen 6
  have e1 := hB5.cell j hjq
  have hkj : (k : Int) = (j : Int) + 1 := by have := HJ.out; omega
  have hj0 : (0 : Int) ≤ (j : Int) := by omega
  have hj2 : (j : Int) < 4096 := by omega
  have hwj : IntKind.i64.wrap (j : Int) = (j : Int) := by rw [IntKind.wrap_i64]; omega
  have i1 : (0 : Int) ≤ (q : Int) := by omega
  have i2 : (q : Int) ≤ 4096 := by omega
  have HCL : Hid ((bv ((zs.drop pos).take k)).length = k) := hcl
  clear hcl hql hjq hpre
  go_region_held3 (fun w' => w'.cell? ⟨R, 0, none⟩ = some (.slice (some ⟨B, 0, none⟩) 4096 4096) ∧ w'.cell? ⟨R, 2, none⟩ = some (.int .i64 0) ∧ w'.cell? ⟨R, 3, none⟩ = some (.int .i64 q)) (go_keep) (fail)
  go_wp2
  go_region_held3 (fun w' => w'.cell? ⟨R, 0, none⟩ = some (.slice (some ⟨B, 0, none⟩) 4096 4096) ∧ w'.cell? ⟨R, 2, none⟩ = some (.int .i64 ((j : Int) + 1)) ∧ w'.cell? ⟨B, j, none⟩ = some (.int .u8 (zs.getD (pos + j) 0))) (simp [*, go_sem]) (fail)
  go_wp2
  go_ret2
  refine ⟨by simp [hkj], ?_, ?_, ⟨wrap64 (zs.getD (pos + j) 0), -1, ?_⟩, ?_, ?_⟩
  · exact ((((hF5.setCell (by simp) _).setCell (by simp) _).setCell (by simp) _).drew).drew
  · exact (((hS5.setCell_ne hSR _).setCell_ne hSR _).setCell_ne hSR _)
  · exact (((hR5.setCell 2 _).setCell 5 _).setCell 6 _).congr (by simp [hkj])
  · exact (((hB5.setCell_ne (Ne.symm hRB) _).setCell_ne (Ne.symm hRB) _).setCell_ne (Ne.symm hRB) _)
  · exact (((hH5.setCell_ne (Ne.symm hRH) _).setCell_ne (Ne.symm hRH) _).setCell_ne (Ne.symm hRH) _)
end Go.Proofs.YbulkdnloDoor
