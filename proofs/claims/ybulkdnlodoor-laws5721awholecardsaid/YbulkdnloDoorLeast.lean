/- io.ReadAtLeast (function 15). -/
import Derived.Test.YbulkdnloDoorRead
import Derived.LaidEql
namespace Go.Proofs.YbulkdnloDoor
open Go.RowKit
set_option linter.unusedSimpArgs false

theorem nil_ahead2 (a : Addr) (w : World) : (nilAhead 187 33 (.pointer (some a)) "Read").run Ybad.prog w = .ok (some false) w := by kernel_rfl
theorem method_read2 (a : Addr) (w : World) : (method 187 33 (.pointer (some a)) "Read").run Ybad.prog w = .ok (34, .pointer (some a)) w := by kernel_rfl

theorem Cfg.St.drew {C : Cfg} {w : World} {q : Nat} (h : C.St w q) : C.St w.drew q := h
theorem Cfg.Dat.drew {C : Cfg} {w : World} (h : C.Dat w) : C.Dat w.drew := h
theorem splice_more {α : Type} (L : List α) (o : Nat) (xs ys : List α) (h : o + xs.length + ys.length ≤ L.length) : splice (splice L o xs) (o + xs.length) ys = splice L o (xs ++ ys) := by
  have e1 : (splice L o xs).take (o + xs.length) = L.take o ++ xs := by
    unfold splice
    rw [← List.append_assoc, List.take_left' (by simp; omega)]
  have e2 : (splice L o xs).drop (o + xs.length + ys.length) = L.drop (o + xs.length + ys.length) := by
    unfold splice
    rw [← List.drop_drop, ← List.append_assoc, List.drop_left' (by simp; omega), List.drop_drop]
  rw [splice, e1, e2]
  simp [splice, Nat.add_assoc]
theorem piece_more (zs : List Int) (q i k : Nat) : bv ((zs.drop q).take i) ++ bv ((zs.drop (q + i)).take k) = bv ((zs.drop q).take (i + k)) := by
  rw [List.take_add, List.drop_drop]; simp [bv]
theorem splice_nil {α : Type} (L : List α) (o : Nat) : splice L o [] = L := by simp [splice]
theorem read_one (C : Cfg) (ok : C.Ok) (q : Nat) (hcs : List Value) (o m : Nat) (w : World) (hst : C.St w q) (hdat : C.Dat w) (hH : Blk w C.H hcs 39) (hfit : o + m ≤ hcs.length) (hm1 : 1 ≤ m) (hm2 : m ≤ 12) (hq : q ≤ C.len) :
    Calls Ybad.prog 34 #[.pointer (some ⟨C.R, 0, none⟩), .slice (some ⟨C.H, o, none⟩) m m] w fun e w' => ∃ (k : Nat) (er : Value), e = .returned (.tuple #[.int .i64 k, er]) ∧ k ≤ m ∧
      Hid (Fr C.own w w' ∧ C.St w' (q + k) ∧ Blk w' C.H (splice hcs o (bv ((C.zs.drop q).take k))) 39 ∧ q + k ≤ C.len ∧ ((er = .nilIface ∧ 1 ≤ k) ∨ (k = 0 ∧ q = C.len ∧ er = .iface 45 (.pointer (some C.ae))))) := by
  refine (read_any C ok q hcs o m w hst hdat hH hfit hm1 hm2).mono ?_
  rintro e w' ⟨hF, ⟨h1, rfl, h3, h4⟩ | ⟨k, h1, h2, h3, rfl, h5, h6⟩⟩
  · exact ⟨0, _, rfl, by omega, hF, h3, by simpa [splice_nil, bv] using h4, by omega, Or.inr ⟨rfl, h1, rfl⟩⟩
  · exact ⟨k, _, rfl, h2, hF, h5, h6, h3, Or.inl ⟨rfl, h1⟩⟩
/-- Is there no error yet? -/
def live : Value → Nat | .nilIface => 1 | _ => 0

/-- The sentinels io.EOF (block 0) and io.ErrUnexpectedEOF (block 1), and the error with which the source ends. -/
structure Cfg.Sen (C : Cfg) (w : World) (aE aU : Addr) : Prop where
  g0 : w.cell? ⟨0, 0, none⟩ = some (.iface 45 (.pointer (some aE)))
  g1 : w.cell? ⟨1, 0, none⟩ = some (.iface 45 (.pointer (some aU)))
  bE : ∃ cs t, Blk w aE.block cs t
  bU : ∃ cs t, Blk w aU.block cs t
  bA : ∃ cs t, Blk w C.ae.block cs t
  n0 : 0 ∉ C.own
  n1 : 1 ∉ C.own
  nE : aE.block ∉ C.own
  nU : aU.block ∉ C.own
  nA : C.ae.block ∉ C.own

theorem Cfg.Sen.fr {C : Cfg} {w w' : World} {aE aU : Addr} (h : C.Sen w aE aU) (hF : Fr C.own w w') : C.Sen w' aE aU := by
  obtain ⟨c1, t1, h1⟩ := h.bE
  obtain ⟨c2, t2, h2⟩ := h.bU
  obtain ⟨c3, t3, h3⟩ := h.bA
  exact ⟨by rw [hF.cell (World.block_lt_of_cell? w _ h.g0) h.n0]; exact h.g0, by rw [hF.cell (World.block_lt_of_cell? w _ h.g1) h.n1]; exact h.g1,
    ⟨c1, t1, hF.blk h1 h.nE⟩, ⟨c2, t2, hF.blk h2 h.nU⟩, ⟨c3, t3, hF.blk h3 h.nA⟩, h.n0, h.n1, h.nE, h.nU, h.nA⟩

theorem Ybad.comp45 : (Ybad.prog.info? 45).map (·.comparable) = some true := by kernel_rfl
theorem Ybad.size47 : (Ybad.prog.info? 47).map (·.size) = some 1 := by kernel_rfl

/-- '==' between two errors of errors.New. -/
theorem eq_errs (w : World) (a b : Addr) {ca cb : List Value} {ta tb : TypeId} (ha : Blk w a.block ca ta) (hb : Blk w b.block cb tb) :
    (binOp .eql 28 (.iface 45 (.pointer (some a))) (.iface 45 (.pointer (some b)))).run Ybad.prog w = .ok (.bool (decide (a = b))) w := by
  obtain ⟨i, hi, hc⟩ := Option.map_eq_some_iff.1 Ybad.comp45
  obtain ⟨j, hj, hs⟩ := Option.map_eq_some_iff.1 Ybad.size47
  by_cases h : a = b
  · subst h
    rw [run_eql_iface_ptr_same w a Ybad.underlying28 Ybad.underlying45 hi hc hj]; simp
  · rw [run_eql_iface_ptr_other w Ybad.underlying28 Ybad.underlying45 hi hc hj (by omega) h ha hb]; simp [h]

/-- The error that ReadAtLeast hands on, behind i bytes. -/
def lastErr (i : Nat) (ae aE aU : Addr) : Value := if i = 0 then .iface 45 (.pointer (some ae)) else if ae = aE then .iface 45 (.pointer (some aU)) else .iface 45 (.pointer (some ae))

set_option maxRecDepth 100000 in
set_option maxHeartbeats 4000000 in
theorem atLeast_any (C : Cfg) (ok : C.Ok) (q : Nat) (hcs : List Value) (aE aU : Addr) (w : World) (hst : C.St w q) (hdat : C.Dat w) (hsen : C.Sen w aE aU) (hH : Blk w C.H hcs 39) (hlen : hcs.length = 16) (hq : q ≤ C.len) :
    Calls Ybad.prog 15 #[.iface 33 (.pointer (some ⟨C.R, 0, none⟩)), .slice (some ⟨C.H, 4, none⟩) 12 12, .int .i64 12] w fun e w' => Fr C.own w w' ∧ ∃ i : Nat,
      C.St w' (q + i) ∧ Blk w' C.H (splice hcs 4 (bv ((C.zs.drop q).take i))) 39 ∧
      ((i = 12 ∧ q + 12 ≤ C.len ∧ e = .returned (.tuple #[.int .i64 12, .nilIface])) ∨ (i < 12 ∧ q + i = C.len ∧ e = .returned (.tuple #[.int .i64 i, lastErr i C.ae aE aU]))) := by
  have hna := nil_ahead2
  have hmr := method_read2
  go_enter Ybad.func15, Ybad.ntmps15
  go_wp2
  go_loopw [6, 7] (fun n e wr => ∃ i : Nat, i ≤ 12 ∧ n = .int .i64 i ∧ Hid (Fr C.own w wr ∧ C.St wr (q + i) ∧ Blk wr C.H (splice hcs 4 (bv ((C.zs.drop q).take i))) 39 ∧ q + i ≤ C.len) ∧ (e = .nilIface ∨ (e = .iface 45 (.pointer (some C.ae)) ∧ Hid (q + i = C.len) ∧ i < 12)))
    (fun n e _ => 12 - (intOf n).toNat + live e)
  case atStart => exact ⟨0, by omega, rfl, ⟨Fr.refl _ _, hst, by simpa [splice, bv] using hH, by omega⟩, Or.inl rfl⟩
  case round =>
    obtain ⟨i, hi, rfl, HI, he⟩ := hrel
    obtain ⟨hF, hS, hB, hle⟩ := HI
    have hzl := ok.zlen
    have hspl : (splice hcs 4 (bv ((C.zs.drop q).take i))).length = 16 := by rw [length_splice _ _ _ (by rw [bv_length]; simp; omega)]; exact hlen
    have hsen' := hsen.fr hF
    have hdat' := hdat.fr ok hF
    have HZ : Hid (C.zs.length = C.len) := hzl
    have HS : Hid ((splice hcs 4 (bv ((C.zs.drop q).take i))).length = 16) := hspl
    have HD : Hid (C.Dat wr) := hdat'
    have HL : Hid (hcs.length = 16) := hlen
    clear hzl hspl hdat' hlen
    have i0 : (0 : Int) ≤ (i : Int) := by omega
    have i1 : (i : Int) ≤ 12 := by omega
    rcases he with rfl | ⟨rfl, HE, hi2⟩
    · by_cases h12 : i < 12
      · have t1 : decide ((i : Int) < 12) = true := by simp; omega
        have n12 : ¬ (12 = i) := by omega
        go_wp2
        go_region_held3 (fun _ => True) (trivial) (first | (go_at_call 34; refine (read_one C ok (q + i) (splice hcs 4 (bv ((C.zs.drop q).take i))) (4 + i) (12 - i) _ hS.drew (Cfg.Dat.drew HD.out) hB.drew (by have := HS.out; omega) (by omega) (by omega) hle).mono ?_; rintro e w' ⟨k, er, rfl, hkm, HH⟩))
        have hk1 : (k : Int) ≤ 12 := by omega
        go_wp2
        go_roundw
        case rel =>
          obtain ⟨hF', hS', hB', hle', hor⟩ := HH
          have hlen := HL.out
          have hzl := HZ.out
          have hbl : (bv ((C.zs.drop q).take i)).length = i := by rw [bv_length]; simp; omega
          have hsp := splice_more hcs 4 (bv ((C.zs.drop q).take i)) (bv ((C.zs.drop (q + i)).take k)) (by rw [hbl, bv_length]; simp; omega)
          rw [hbl, piece_more] at hsp
          rw [hsp] at hB'
          refine ⟨i + k, by omega, by go_num, ⟨hF.trans ((Fr.refl _ _).drew.trans hF'), by rw [← Nat.add_assoc]; exact hS', hB', by omega⟩, ?_⟩
          rcases hor with ⟨h1, _⟩ | ⟨h1, h2, h3⟩
          · exact Or.inl h1
          · exact Or.inr ⟨h3, (by omega : q + (i + k) = C.len), by omega⟩
        case measure =>
          obtain ⟨_, _, _, _, hor⟩ := HH
          rcases hor with ⟨rfl, h1⟩ | ⟨rfl, h2, rfl⟩
          · simp [intOf, live]; omega
          · simp [intOf, live]
      · have hi12 : i = 12 := by omega
        subst hi12
        go_wp2
        go_ret2
        exact ⟨hF, 12, hS, hB, Or.inl ⟨rfl, hle, rfl⟩⟩
    · by_cases h0 : i = 0
      · subst h0
        go_wp2
        go_ret2
        exact ⟨hF, 0, hS, hB, Or.inr ⟨by omega, HE.out, by simp [lastErr]⟩⟩
      · obtain ⟨cE, tE, bE⟩ := hsen'.bE
        obtain ⟨cA, tA, bA⟩ := hsen'.bA
        have g0 := hsen'.g0
        have g1 := hsen'.g1
        have heq := eq_errs wr C.ae aE bA bE
        have t1 : decide ((i : Int) < 12) = true := by simp; omega
        have t2 : decide ((12 : Int) ≤ (i : Int)) = false := by simp; omega
        have t3 : decide ((0 : Int) < (i : Int)) = true := by simp; omega
        by_cases hae : C.ae = aE
        · rw [decide_eq_true hae] at heq
          have HA : Hid (C.ae = aE) := hae
          clear hae
          go_wp2
          go_ret2
          exact ⟨hF, i, hS, hB, Or.inr ⟨hi2, HE.out, by simp [lastErr, h0, HA.out]⟩⟩
        · rw [decide_eq_false hae] at heq
          go_wp2
          go_ret2
          exact ⟨hF, i, hS, hB, Or.inr ⟨hi2, HE.out, by simp [lastErr, h0, hae]⟩⟩
end Go.Proofs.YbulkdnloDoor
