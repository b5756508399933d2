/- Law A: the decoder: errors.New (7), fail (25), bytes (23), string (17), int (18), decode (8). -/
import Derived.Test.YbulkdnmqUvr
import Derived.Lib.Walk
namespace Go.Proofs.Ybulkdnmq
open Go.RowKit
set_option linter.unusedSimpArgs false
set_option linter.unusedVariables false

def errV : Option Nat → Value
  | none => .nilIface
  | some b => .iface 84 (.pointer (some ⟨b, 0, none⟩))

theorem errNew (s : ByteArray) (w : World) :
    Calls Yba.prog 7 #[.string s] w fun e w' => ∃ S, e = .returned (.iface 84 (.pointer (some ⟨S, 0, none⟩))) ∧ Hid (Fr [] w w' ∧ S = w.heap.size ∧ S < w'.heap.size) := by
  go_enter Yba.func7, Yba.ntmps7
  go_wp2
  go_ret
  exact ⟨_, rfl, (Fr.refl _ _).alloc _, rfl, by simp⟩

set_option maxHeartbeats 8000000 in
set_option maxRecDepth 100000 in
theorem dfail (d : Nat) (bv mv : Value) (er0 : Option Nat) (w : World) (hd : Blk w d [bv, errV er0, mv] 33) :
    Calls Yba.prog 25 #[.pointer (some ⟨d, 0, none⟩)] w fun e w' => e = .returned (.tuple #[]) ∧ Hid (Fr [d] w w' ∧ ∃ er, Blk w' d [.slice none 0 0, errV (some er), mv] 33 ∧ ∀ b, er0 = some b → er = b) := by
  have z0 := hd.cell 0 rfl
  have z1 := hd.cell 1 rfl
  have v0 := hd.frozen 0
  have v1 := hd.frozen 1
  cases er0 with
  | none =>
    simp only [errV] at z1
    go_enter Yba.func25, Yba.ntmps25
    go_wp2_with fail
    refine (errNew _ w).mono ?_
    rintro e w1 ⟨S, rfl, hF, -⟩
    have hd1 := hF.blk hd (by simp)
    clear z0 z1 v0 v1
    have z1 := hd1.cell 1 rfl
    have v1 := hd1.frozen 1
    have z0 := hd1.cell 0 rfl
    have v0 := hd1.frozen 0
    go_wp2
    go_end0
    refine ⟨rfl, ?_, S, ((hd1.setCell 1 _).setCell 0 _).congr rfl, by simp⟩
    exact (((Fr.mono hF (by simp)).setCell (by simp) _).setCell (by simp) _)
  | some b =>
    simp only [errV] at z1
    go_enter Yba.func25, Yba.ntmps25
    go_wp2
    go_end0
    exact ⟨rfl, (Fr.refl _ _).setCell (by simp) _, b, (hd.setCell 0 _).congr rfl, by simp⟩

/-- The decoder over the bytes of block db. -/
def DecSt (w : World) (d db : Nat) (er0 : Option Nat) : St → Prop
  | some l => ∃ a n c off, n ≤ 140737488355328 ∧ Blk w d [.slice a n c, errV er0, .map none] 33 ∧ Sl w db off a n c l
  | none => ∃ er, Blk w d [.slice none 0 0, errV (some er), .map none] 33 ∧ ∀ b, er0 = some b → er = b

set_option maxHeartbeats 8000000 in
set_option maxRecDepth 100000 in
theorem dec_bytes (d db : Nat) (er0 : Option Nat) (st : St) (w : World) (hd : DecSt w d db er0 st) (hne : db ≠ d) :
    Calls Yba.prog 23 #[.pointer (some ⟨d, 0, none⟩)] w fun e w' => ∃ a n c, e = .returned (.slice a n c) ∧ Hid (Fr [d] w w' ∧ DecSt w' d db er0 (rdStr st).2 ∧ ∃ off, Sl w' db off a n c (rdStr st).1) := by
  cases st with
  | none =>
    obtain ⟨er, hb, he⟩ := hd
    have z0 := hb.cell 0 rfl
    have hs0 := Sl.nil w db 0
    go_enter Yba.func23, Yba.ntmps23
    go_wp2_with fail
    refine (uvarint_any hs0 (by omega)).mono ?_
    rintro e w1 ⟨rfl, rfl⟩
    have h1 : Lib.uvarintDec [] = (0, 0) := rfl
    rw [h1]
    go_wp2_with fail
    refine (dfail d _ _ (some er) w1 hb).mono ?_
    rintro e w2 ⟨rfl, hF, er2, hb2, he2⟩
    clear z0 hb
    go_wp2
    go_ret
    obtain rfl := he2 er rfl
    exact ⟨none, 0, 0, rfl, hF, ⟨er2, hb2, he⟩, 0, Sl.nil _ _ _⟩
  | some l =>
    obtain ⟨a, n, c, off, hn, hb, hs⟩ := hd
    have z0 := hb.cell 0 rfl
    have v0 := hb.frozen 0
    have hlen := hs.len
    obtain ⟨⟨m, k⟩, hmn⟩ : ∃ x, Lib.uvarintDec l = x := ⟨_, rfl⟩
    have hle := dec_le l
    have hlt := Lib.uvarintDec_lt l
    rw [hmn] at hle hlt
    simp only at hle hlt
    have hval : rdStr (some l) = if k ≤ 0 then ([], none) else if l.length - k.toNat < m then ([], none) else ((l.drop k.toNat).take m, some (l.drop (k.toNat + m))) := by simp only [rdStr, hmn]
    have hU := uvarint_any hs hn
    rw [hmn] at hU
    simp only at hU
    by_cases hk : k ≤ 0
    · rw [hval, if_pos hk]
      have t1 : decide (k ≤ 0) = true := by simp; omega
      go_enter Yba.func23, Yba.ntmps23
      go_wp2_with fail
      refine hU.mono ?_
      rintro e w1 ⟨rfl, rfl⟩
      go_wp2_with fail
      refine (dfail d _ _ er0 w1 hb).mono ?_
      rintro e w2 ⟨rfl, hF, er2, hb2, he2⟩
      clear z0 v0 hb hs hval hmn
      go_wp2
      go_ret
      exact ⟨none, 0, 0, rfl, hF, ⟨er2, hb2, he2⟩, 0, Sl.nil _ _ _⟩
    · have t1 : decide (k ≤ 0) = false := by simp; omega
      obtain ⟨p, rfl⟩ : ∃ p : Nat, k = p := ⟨k.toNat, by omega⟩
      have hp0 : ¬ p = 0 := by omega
      rw [if_neg hk] at hval
      simp only [Int.toNat_natCast] at hval
      rw [hlen] at hval
      have hcv : IntKind.u64.wrap ((n : Int) - (p : Int)) = ((n - p : Nat) : Int) := by rw [IntKind.wrap_u64]; omega
      clear hmn
      by_cases hg : n - p < m
      · have hg' : decide (n - p < m) = true := by simp; omega
        rw [hval, if_pos hg]
        go_enter Yba.func23, Yba.ntmps23
        go_wp2_with fail
        refine hU.mono ?_
        rintro e w1 ⟨rfl, rfl⟩
        clear hg hk hval
        go_wp2_with fail
        refine (dfail d _ _ er0 w1 hb).mono ?_
        rintro e w2 ⟨rfl, hF, er2, hb2, he2⟩
        clear z0 v0 hb hs
        go_wp2
        go_ret
        exact ⟨none, 0, 0, rfl, hF, ⟨er2, hb2, he2⟩, 0, Sl.nil _ _ _⟩
      · have hg' : decide (n - p < m) = false := by simp; omega
        rw [hval, if_neg hg]
        have hmk : p + m ≤ n := by omega
        have hkc := hs.le
        have hcm : IntKind.i64.wrap (m : Int) = (m : Int) := by rw [IntKind.wrap_i64]; omega
        have hwm : IntKind.i64.wrap ((p : Int) + (m : Int)) = (p : Int) + (m : Int) := by rw [IntKind.wrap_i64]; omega
        have hsub : ∀ q, (Instr.slice 22 (.slice a n c) (some (.int .i64 (p : Int))) (some (.int .i64 ((p : Int) + (m : Int)))) none).run Yba.prog q = .ok (.slice (cut a p c) m (c - p)) q := fun q => run_sub _ a n c p m (by omega)
        have htail : ∀ q, (Instr.slice 22 (.slice a n c) (some (.int .i64 ((p : Int) + (m : Int)))) none none).run Yba.prog q = .ok (.slice (cut a (p + m) c) (n - (p + m)) (c - (p + m))) q := fun q => run_tail _ a n c (p + m) (by omega)
        have hs2 := hs.sub p m hmk
        have hs3 := hs.tail (p + m) hmk
        go_enter Yba.func23, Yba.ntmps23
        go_wp2_with fail
        refine hU.mono ?_
        rintro e w1 ⟨rfl, rfl⟩
        clear hg hk hval hs
        go_wp2
        go_ret
        exact ⟨_, _, _, rfl, (Fr.refl _ _).setCell (by simp) _, ⟨_, _, _, off + (p + m), by omega, (hb.setCell 0 _).congr rfl, hs3.fr ((Fr.refl [d] _).setCell (by simp) _) (by simpa using hne)⟩, off + p, hs2.fr ((Fr.refl [d] _).setCell (by simp) _) (by simpa using hne)⟩

set_option maxHeartbeats 8000000 in
set_option maxRecDepth 100000 in
theorem dec_str (d db : Nat) (er0 : Option Nat) (st : St) (w : World) (hd : DecSt w d db er0 st) (hne : db ≠ d) :
    Calls Yba.prog 17 #[.pointer (some ⟨d, 0, none⟩)] w fun e w' => e = .returned (.string ⟨(rdStr st).1.toArray⟩) ∧ Hid (Fr [d] w w' ∧ DecSt w' d db er0 (rdStr st).2) := by
  go_enter Yba.func17, Yba.ntmps17
  go_wp2_with fail
  refine (dec_bytes d db er0 st w hd hne).mono ?_
  rintro e w1 ⟨a, n, c, rfl, hF, hd1, off, hs⟩
  have hstr := run_str hs
  clear hd hs
  go_wp2
  go_ret
  exact ⟨rfl, hF, hd1⟩

set_option maxHeartbeats 8000000 in
set_option maxRecDepth 100000 in
theorem dec_int (d db : Nat) (er0 : Option Nat) (st : St) (w : World) (hd : DecSt w d db er0 st) (hne : db ≠ d) :
    Calls Yba.prog 18 #[.pointer (some ⟨d, 0, none⟩)] w fun e w' => e = .returned (.int .i64 (rdInt st).1) ∧ Hid (Fr [d] w w' ∧ DecSt w' d db er0 (rdInt st).2) := by
  cases st with
  | none =>
    obtain ⟨er, hb, he⟩ := hd
    have z0 := hb.cell 0 rfl
    have hs0 := Sl.nil w db 0
    go_enter Yba.func18, Yba.ntmps18
    go_wp2_with fail
    refine (varint_any hs0 (by omega)).mono ?_
    rintro e w1 ⟨rfl, rfl⟩
    have h1 : Lib.uvarintDec [] = (0, 0) := rfl
    rw [h1]
    go_wp2_with fail
    refine (dfail d _ _ (some er) w1 hb).mono ?_
    rintro e w2 ⟨rfl, hF, er2, hb2, he2⟩
    clear z0 hb
    go_wp2
    go_ret
    obtain rfl := he2 er rfl
    exact ⟨rfl, hF, er2, hb2, he⟩
  | some l =>
    obtain ⟨a, n, c, off, hn, hb, hs⟩ := hd
    have z0 := hb.cell 0 rfl
    have v0 := hb.frozen 0
    have hlen := hs.len
    obtain ⟨⟨m, k⟩, hmn⟩ : ∃ x, Lib.uvarintDec l = x := ⟨_, rfl⟩
    have hle := dec_le l
    have hlt := Lib.uvarintDec_lt l
    rw [hmn] at hle hlt
    simp only at hle hlt
    have hval : rdInt (some l) = if k ≤ 0 then (0, none) else (Lib.unzigzag m, some (l.drop k.toNat)) := by simp only [rdInt, hmn]
    have hU := varint_any hs hn
    rw [hmn] at hU
    simp only at hU
    by_cases hk : k ≤ 0
    · rw [hval, if_pos hk]
      have t1 : decide (k ≤ 0) = true := by simp; omega
      go_enter Yba.func18, Yba.ntmps18
      go_wp2_with fail
      refine hU.mono ?_
      rintro e w1 ⟨rfl, rfl⟩
      go_wp2_with fail
      refine (dfail d _ _ er0 w1 hb).mono ?_
      rintro e w2 ⟨rfl, hF, er2, hb2, he2⟩
      clear z0 v0 hb hs hval hmn
      go_wp2
      go_ret
      exact ⟨rfl, hF, er2, hb2, he2⟩
    · have t1 : decide (k ≤ 0) = false := by simp; omega
      obtain ⟨p, rfl⟩ : ∃ p : Nat, k = p := ⟨k.toNat, by omega⟩
      have hp0 : ¬ p = 0 := by omega
      rw [hval, if_neg hk]
      rw [Int.toNat_natCast]
      have hkc := hs.le
      have htail : ∀ q, (Instr.slice 22 (.slice a n c) (some (.int .i64 (p : Int))) none none).run Yba.prog q = .ok (.slice (cut a p c) (n - p) (c - p)) q := fun q => run_tail _ a n c p (by omega)
      have hs3 := hs.tail p (by omega)
      clear hmn hval
      go_enter Yba.func18, Yba.ntmps18
      go_wp2_with fail
      refine hU.mono ?_
      rintro e w1 ⟨rfl, rfl⟩
      clear hk hs
      go_wp2
      go_ret
      exact ⟨rfl, (Fr.refl _ _).setCell (by simp) _, _, _, _, off + p, by omega, (hb.setCell 0 _).congr rfl, hs3.fr ((Fr.refl [d] _).setCell (by simp) _) (by simpa using hne)⟩

theorem DecSt.fr {own : List Nat} {w w' : World} (hF : Fr own w w') {d db : Nat} {er0 : Option Nat} {st : St} (h : DecSt w d db er0 st) (hd : d ∉ own) (hb : db ∉ own) : DecSt w' d db er0 st := by
  cases st with
  | none =>
    obtain ⟨er, h1, h2⟩ := h
    exact ⟨er, hF.blk h1 hd, h2⟩
  | some l =>
    obtain ⟨a, n, c, off, hn, h1, h2⟩ := h
    exact ⟨a, n, c, off, hn, hF.blk h1 hd, h2.fr hF hb⟩

set_option maxHeartbeats 8000000 in
set_option maxRecDepth 100000 in
theorem decode (c d db : Nat) (er0 : Option Nat) (st : St) (v0 v1 v2 v3 v4 : Value) (tl : List Value) (w : World) (hc : Blk w c (v0 :: v1 :: v2 :: v3 :: v4 :: tl) 48) (hd : DecSt w d db er0 st) (hne : db ≠ d) (hcd : c ≠ d) (hcb : db ≠ c)
    (s1 s3 s4 : List UInt8) (x2 : Int) (t1 t2 t3 t4 : St) (e1 : rdStr st = (s1, t1)) (e2 : rdInt t1 = (x2, t2)) (e3 : rdStr t2 = (s3, t3)) (e4 : rdStr t3 = (s4, t4)) :
    Calls Yba.prog 8 #[.pointer (some ⟨c, 0, none⟩), .pointer (some ⟨d, 0, none⟩)] w fun e w' => e = .returned (.tuple #[]) ∧ Hid (Fr [c, d] w w' ∧ DecSt w' d db er0 t4 ∧
      Blk w' c (.string ⟨s1.toArray⟩ :: .int .i64 x2 :: .bool (x2 == 0) :: .string ⟨s3.toArray⟩ :: .string ⟨s4.toArray⟩ :: tl) 48) := by
  have hm : ∀ k ∈ [d], k ∈ [c, d] := by simp
  go_enter Yba.func8, Yba.ntmps8
  go_wp2_with fail
  refine (dec_str d db er0 st w hd hne).mono ?_
  rw [e1]
  rintro e w1 ⟨rfl, hF1, hd1⟩
  have hc1 := hF1.blk hc (by simpa using hcd)
  have z0 := hc1.cell 0 rfl
  have y0 := hc1.frozen 0
  clear hc hd
  go_wp2_with fail
  have g2 : Fr [c] w1 (w1.setCell ⟨c, 0, none⟩ (.string ⟨s1.toArray⟩)) := (Fr.refl _ _).setCell (by simp) _
  have hc2 := hc1.setCell 0 (.string ⟨s1.toArray⟩)
  have hd2 := hd1.fr g2 (by simpa using Ne.symm hcd) (by simpa using hcb)
  have hF2 : Fr [c, d] w (w1.setCell ⟨c, 0, none⟩ (.string ⟨s1.toArray⟩)) := (Fr.mono hF1 hm).setCell (by simp) _
  refine (dec_int d db er0 t1 _ hd2 hne).mono ?_
  rw [e2]
  clear z0 y0 hc1 hd1 hF1 g2 hd2
  rintro e w3 ⟨rfl, hF3, hd3⟩
  have hc3 := hF3.blk hc2 (by simpa using hcd)
  replace hF3 := hF2.trans (Fr.mono hF3 hm)
  clear hc2 hF2
  simp only [List.set_cons_zero] at hc3
  have z1 := hc3.cell 1 rfl
  have y1 := hc3.frozen 1
  have z2 := hc3.cell 2 rfl
  have y2 := hc3.frozen 2
  go_wp2_with fail
  have g4 : Fr [c] w3 ((w3.setCell ⟨c, 1, none⟩ (.int .i64 x2)).setCell ⟨c, 2, none⟩ (.bool (x2 == 0))) := ((Fr.refl _ _).setCell (by simp) _).setCell (by simp) _
  have hc4 := (hc3.setCell 1 (.int .i64 x2)).setCell 2 (.bool (x2 == 0))
  have hd4 := hd3.fr g4 (by simpa using Ne.symm hcd) (by simpa using hcb)
  have hF4 := hF3.trans (Fr.mono g4 (by simp) : Fr [c, d] _ _)
  refine (dec_str d db er0 t2 _ hd4 hne).mono ?_
  rw [e3]
  clear z1 y1 z2 y2 hc3 hd3 hF3 g4 hd4
  rintro e w5 ⟨rfl, hF5, hd5⟩
  have hc5 := hF5.blk hc4 (by simpa using hcd)
  replace hF5 := hF4.trans (Fr.mono hF5 hm)
  clear hc4 hF4
  simp only [List.set_cons_zero, List.set_cons_succ] at hc5
  have z3 := hc5.cell 3 rfl
  have y3 := hc5.frozen 3
  go_wp2_with fail
  have g6 : Fr [c] w5 (w5.setCell ⟨c, 3, none⟩ (.string ⟨s3.toArray⟩)) := (Fr.refl _ _).setCell (by simp) _
  have hc6 := hc5.setCell 3 (.string ⟨s3.toArray⟩)
  have hd6 := hd5.fr g6 (by simpa using Ne.symm hcd) (by simpa using hcb)
  have hF6 := hF5.trans (Fr.mono g6 (by simp) : Fr [c, d] _ _)
  refine (dec_str d db er0 t3 _ hd6 hne).mono ?_
  rw [e4]
  clear z3 y3 hc5 hd5 hF5 g6 hd6
  rintro e w7 ⟨rfl, hF7, hd7⟩
  have hc7 := hF7.blk hc6 (by simpa using hcd)
  replace hF7 := hF6.trans (Fr.mono hF7 hm)
  clear hc6 hF6
  simp only [List.set_cons_zero, List.set_cons_succ] at hc7
  have z4 := hc7.cell 4 rfl
  have y4 := hc7.frozen 4
  go_wp2
  go_end0
  have g8 : Fr [c] w7 (w7.setCell ⟨c, 4, none⟩ (.string ⟨s4.toArray⟩)) := (Fr.refl _ _).setCell (by simp) _
  exact ⟨rfl, hF7.trans (Fr.mono g8 (by simp)), hd7.fr g8 (by simpa using Ne.symm hcd) (by simpa using hcb), (hc7.setCell 4 _).congr rfl⟩
end Go.Proofs.Ybulkdnmq
