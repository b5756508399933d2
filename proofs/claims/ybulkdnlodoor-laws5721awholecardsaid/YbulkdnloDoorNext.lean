/- io.ReadFull (function 12), (*runHead).next (function 8). -/
import Derived.Test.YbulkdnloDoorLeast
import Derived.Test.YbulkdnloDoorDec
namespace Go.Proofs.YbulkdnloDoor
open Go.RowKit
set_option linter.unusedSimpArgs false

set_option maxRecDepth 100000 in
set_option maxHeartbeats 4000000 in
theorem readFull_any (C : Cfg) (ok : C.Ok) (q : Nat) (hcs : List Value) (aE aU : Addr) (w : World) (hst : C.St w q) (hdat : C.Dat w) (hsen : C.Sen w aE aU) (hH : Blk w C.H hcs 39) (hlen : hcs.length = 16) (hq : q ≤ C.len) :
    Calls Ybad.prog 12 #[.iface 33 (.pointer (some ⟨C.R, 0, none⟩)), .slice (some ⟨C.H, 4, none⟩) 12 12] w fun e w' => ∃ (i : Nat) (er : Value), e = .returned (.tuple #[.int .i64 i, er]) ∧ Hid (Fr C.own w w' ∧
      C.St w' (q + i) ∧ Blk w' C.H (splice hcs 4 (bv ((C.zs.drop q).take i))) 39 ∧
      ((i = 12 ∧ q + 12 ≤ C.len ∧ er = .nilIface) ∨ (i < 12 ∧ q + i = C.len ∧ er = lastErr i C.ae aE aU))) := by
  have hc := atLeast_any C ok q hcs aE aU w hst hdat hsen hH hlen hq
  go_enter Ybad.func12, Ybad.ntmps12
  go_wp2_with (go_at_call 15; refine hc.mono ?_; rintro e w' ⟨hF, i, hS, hB, ⟨h1, h2, rfl⟩ | ⟨h1, h2, rfl⟩⟩)
  · go_wp2
    go_ret2
    exact ⟨12, _, rfl, hF, by rw [← h1]; exact hS, by rw [← h1]; exact hB, Or.inl ⟨rfl, h2, rfl⟩⟩
  · go_wp2
    go_ret2
    exact ⟨i, _, rfl, hF, hS, hB, Or.inr ⟨h1, h2, rfl⟩⟩

theorem Cfg.Sen.drew {C : Cfg} {w : World} {aE aU : Addr} (h : C.Sen w aE aU) : C.Sen w.drew aE aU := ⟨h.g0, h.g1, h.bE, h.bU, h.bA, h.n0, h.n1, h.nE, h.nU, h.nA⟩

/-- The head's block: where it reads from, its record, whether it has one, its twelve bytes. -/
def headCells (R : Nat) (key off : Int) (k : Bool) (bs : List Value) : List Value := [.pointer (some ⟨R, 0, none⟩), .int .u32 key, .int .u64 off, .bool k] ++ bs
theorem splice_head (R : Nat) (key off : Int) (k : Bool) (bs xs : List Value) : splice (headCells R key off k bs) 4 xs = headCells R key off k (splice bs 0 xs) := by
  have e : (headCells R key off k bs).drop (4 + xs.length) = bs.drop xs.length := by
    rw [← List.drop_drop]; simp [headCells]
  rw [splice, e]; simp [headCells, splice]

/-- What (*runHead).next hands back where fewer than twelve bytes are left. -/
def nextErr (i : Nat) (ae aE aU : Addr) : Value := if i = 0 ∧ ae = aE then .nilIface else lastErr i ae aE aU

set_option maxRecDepth 100000 in
set_option maxHeartbeats 4000000 in
theorem next_any (C : Cfg) (ok : C.Ok) (hzb : ∀ i, 0 ≤ C.zs.getD i 0 ∧ C.zs.getD i 0 < 256) (q : Nat) (key off : Int) (kb : Bool) (bs : List Value) (aE aU : Addr) (hEU : aE ≠ aU) (w : World) (hst : C.St w q) (hdat : C.Dat w) (hsen : C.Sen w aE aU)
    (hH : Blk w C.H (headCells C.R key off kb bs) 39) (hbl : bs.length = 12) (hq : q ≤ C.len) :
    Calls Ybad.prog 8 #[.pointer (some ⟨C.H, 0, none⟩)] w fun e w' => ∃ er : Value, e = .returned er ∧ Hid (Fr C.own w w' ∧
      ((q + 12 ≤ C.len ∧ er = .nilIface ∧ C.St w' (q + 12) ∧ Blk w' C.H (headCells C.R (recKey fun i => C.zs.getD (q + i) 0) (recOff fun i => C.zs.getD (q + i) 0) true (bv ((C.zs.drop q).take 12))) 39) ∨
       ∃ i : Nat, i < 12 ∧ q + i = C.len ∧ er = nextErr i C.ae aE aU ∧ C.St w' (q + i) ∧ Blk w' C.H (headCells C.R key off (if i = 0 ∧ C.ae = aE then false else kb) (splice bs 0 (bv ((C.zs.drop q).take i)))) 39)) := by
  have c0 := hH.cell 0 rfl
  go_enter Ybad.func8, Ybad.ntmps8
  go_wp2
  go_region_held3 (fun w' => w'.cell? ⟨C.H, 0, none⟩ = some (.pointer (some ⟨C.R, 0, none⟩))) (first | go_keep | (simp [*, go_sem]; done))
    (first | (go_at_call 12; refine (readFull_any C ok q (headCells C.R key off kb bs) aE aU _ hst.drew hdat.drew hsen.drew hH.drew (by simp [headCells, hbl]) hq).mono ?_; rintro e w1 ⟨i, er, rfl, HH⟩; have z0 := HH.out.2.2.1.cell 0 rfl))
  obtain ⟨hF1, hS1, hB1, hor⟩ := HH
  rw [splice_head] at hB1
  have hsen1 := (hsen.drew).fr hF1
  have g0 := hsen1.g0
  have g1 := hsen1.g1
  obtain ⟨cE, tE, bE⟩ := hsen1.bE
  obtain ⟨cU, tU, bU⟩ := hsen1.bU
  obtain ⟨cA, tA, bA⟩ := hsen1.bA
  have hFr : Fr C.own w w1 := (Fr.refl _ _).drew.trans hF1
  clear z0 c0 hst hdat hsen hH hF1
  rcases hor with ⟨rfl, h2, rfl⟩ | ⟨hi, h2, rfl⟩
  · -- twelve bytes
    have hzl := ok.zlen
    have hl12 : (bv ((C.zs.drop q).take 12)).length = 12 := by rw [bv_length]; simp; omega
    have hsb : splice bs 0 (bv ((C.zs.drop q).take 12)) = bv ((C.zs.drop q).take 12) := by
      unfold splice
      rw [List.drop_eq_nil_of_le (by omega : bs.length ≤ 0 + (bv ((C.zs.drop q).take 12)).length)]; simp
    rw [hsb] at hB1
    have hBy : By w1 C.H 4 (fun i => C.zs.getD (q + i) 0) := by
      intro i hi
      refine hB1.cell _ ?_
      have hl : i < ((C.zs.drop q).take 12).length := by simp; omega
      rw [headCells, List.getElem?_append_right (by simp)]
      simp only [List.length_cons, List.length_nil, Nat.add_sub_cancel_left]
      rw [bv_get hl]
      simp [List.getD, hi]
    have hdc := decode_rec C.H 4 12 12 _ (fun i => hzb (q + i)) w1 hBy (by omega) (by omega)
    have heq := run_eql_iface_nil_left (P := Ybad.prog) w1 45 (.pointer (some aE)) Ybad.underlying28
    have HZ : Hid (C.zs.length = C.len) := hzl
    clear hzl hsb hl12 hBy
    go_wp2_with (go_at_call 13; refine hdc.mono ?_; rintro e w2 ⟨rfl, hF2⟩; have hB2 := hF2.blk hB1 (by simp); have k1 := hB2.cell 1 rfl; have k2 := hB2.cell 2 rfl; have k3 := hB2.cell 3 rfl; have l1 := hB2.frozen 1; have l2 := hB2.frozen 2; have l3 := hB2.frozen 3)
    go_ret
    have hFF : Fr [C.H] w2 (((w2.setCell ⟨C.H, 1, none⟩ (.int .u32 (recKey fun i => C.zs.getD (q + i) 0))).setCell ⟨C.H, 2, none⟩ (.int .u64 (recOff fun i => C.zs.getD (q + i) 0))).setCell ⟨C.H, 3, none⟩ (.bool true)) :=
      (((Fr.refl _ _).setCell (by simp) _).setCell (by simp) _).setCell (by simp) _
    refine ⟨_, rfl, (hFr.trans (hF2.mono (by simp))).trans (hFF.mono (by simp [Cfg.own])), Or.inl ⟨h2, rfl, (hS1.fr hF2 (by simp) (by simp) (by simp)).fr hFF (by simpa using ok.SH) (by simpa using ok.RH) (by simpa using ok.BH), ?_⟩⟩
    exact (((hB2.setCell 1 _).setCell 2 _).setCell 3 _).congr (by simp [headCells])
  · by_cases hz : i = 0 ∧ C.ae = aE
    · obtain ⟨rfl, hae⟩ := hz
      have hle : lastErr 0 C.ae aE aU = .iface 45 (.pointer (some aE)) := by simp [lastErr, hae]
      have heq := eq_errs w1 aE aE bE bE
      rw [decide_eq_true rfl] at heq
      have k3 := hB1.cell 3 rfl
      have l3 := hB1.frozen 3
      have HA : Hid (C.ae = aE) := hae
      rw [hle]
      clear hae hle
      go_wp2
      go_ret
      have hFF : Fr [C.H] w1 (w1.setCell ⟨C.H, 3, none⟩ (.bool false)) := (Fr.refl _ _).setCell (by simp) _
      refine ⟨_, rfl, hFr.trans (hFF.mono (by simp [Cfg.own])), Or.inr ⟨0, hi, h2, by simp [nextErr, HA.out], hS1.fr hFF (by simpa using ok.SH) (by simpa using ok.RH) (by simpa using ok.BH), ?_⟩⟩
      exact (hB1.setCell 3 _).congr (by simp [headCells, HA.out])
    · obtain ⟨x, hx, hxE, cx, tx, bx⟩ : ∃ x, lastErr i C.ae aE aU = .iface 45 (.pointer (some x)) ∧ x ≠ aE ∧ ∃ cs t, Blk w1 x.block cs t := by
        unfold lastErr
        by_cases h0 : i = 0
        · exact ⟨C.ae, by simp [h0], fun h => hz ⟨h0, h⟩, cA, tA, bA⟩
        · by_cases h1 : C.ae = aE
          · exact ⟨aU, by simp [h0, h1], Ne.symm hEU, cU, tU, bU⟩
          · exact ⟨C.ae, by simp [h0, h1], h1, cA, tA, bA⟩
      have heq := eq_errs w1 x aE bx bE
      rw [decide_eq_false hxE] at heq
      have HX : Hid (lastErr i C.ae aE aU = .iface 45 (.pointer (some x))) := hx
      rw [hx]
      clear hx
      go_wp2
      go_ret
      refine ⟨_, rfl, hFr, Or.inr ⟨i, hi, h2, by rw [nextErr, if_neg hz, HX.out]; rfl, hS1, ?_⟩⟩
      rw [if_neg hz]; exact hB1
end Go.Proofs.YbulkdnloDoor
