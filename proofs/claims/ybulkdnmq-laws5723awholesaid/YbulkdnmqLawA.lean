/- Law A: the law's own walk (function 3). -/
import Derived.Test.YbulkdnmqApp
import Derived.Test.YbulkdnmqRi
import Derived.Test.YbulkdnmqDcd
import Derived.Deep.DeepCutAuto
import Derived.LaidEql
namespace Go.Proofs.Ybulkdnmq
open Go.RowKit
set_option linter.unusedSimpArgs false
set_option linter.unusedVariables false

theorem neq_nil22 (w : World) : (binOp .neq 22 (.slice none 0 0) (.slice none 0 0)).run Yba.prog w = .ok (.bool false) w := by kernel_rfl
theorem neq_nil31 (w : World) : (binOp .neq 31 (.map none) (.map none)).run Yba.prog w = .ok (.bool false) w := by kernel_rfl
theorem neq_nil28 (w : World) : (binOp .neq 28 .nilIface .nilIface).run Yba.prog w = .ok (.bool false) w := by kernel_rfl
theorem neq_err28 (S : Nat) (w : World) : (binOp .neq 28 (.iface 84 (.pointer (some ⟨S, 0, none⟩))) .nilIface).run Yba.prog w = .ok (.bool true) w := by kernel_rfl
theorem comp84 : (Yba.prog.info? 84).map (·.comparable) = some true := by kernel_rfl
theorem size86 : (Yba.prog.info? 86).map (·.size) = some 1 := by kernel_rfl
theorem neq_same28 (S : Nat) (w : World) : (binOp .neq 28 (.iface 84 (.pointer (some ⟨S, 0, none⟩))) (.iface 84 (.pointer (some ⟨S, 0, none⟩)))).run Yba.prog w = .ok (.bool false) w := by
  obtain ⟨i, hi, hc⟩ := Option.map_eq_some_iff.1 comp84
  obtain ⟨j, hj, hs⟩ := Option.map_eq_some_iff.1 size86
  simp only [binOp]
  simp [Op.equal, Op.maxDepth, run_equalIn_iface_ptr_same w 9998 _ Yba.underlying28 Yba.underlying84 hi hc hj]

/-- What the bytes are, and where they lie. -/
def InOk (w wx : World) (iv : Value) (L : List UInt8) : Prop :=
  ∃ a n c g off, iv = .slice a n c ∧ (a = none → n = 0 ∧ c = 0) ∧ g ≤ wx.heap.size ∧ Sl wx g off a n c L ∧ n ≤ 2097152 ∧ Below w.heap.size w wx

theorem rdS (s : ByteArray) (r : List UInt8) (h : s.size ≤ 1048576) : rdStr (some (encS s ++ r)) = (s.data.toList, some r) := by
  have h1 := rdStr_back s.data.toList r (by rw [Array.length_toList]; show s.size < _; omega)
  rw [Array.length_toList] at h1
  exact h1
theorem back (a2 a4 a5 : ByteArray) (a3 : Int) (l0 : List UInt8) (h2 : a2.size ≤ 1048576) (h4 : a4.size ≤ 1048576) (h5 : a5.size ≤ 1048576) (h30 : -9223372036854775808 ≤ a3) (h31 : a3 ≤ 9223372036854775807)
    {s1 s3 s4 : List UInt8} {x2 : Int} {t1 t2 t3 t4 : St} (e1 : rdStr (some (encS a2 ++ Lib.uvarint (Lib.zigzag a3) ++ encS a4 ++ encS a5 ++ l0)) = (s1, t1)) (e2 : rdInt t1 = (x2, t2)) (e3 : rdStr t2 = (s3, t3)) (e4 : rdStr t3 = (s4, t4)) :
    s1 = a2.data.toList ∧ x2 = a3 ∧ s3 = a4.data.toList ∧ s4 = a5.data.toList ∧ t4 = some l0 := by
  simp only [List.append_assoc] at e1
  rw [rdS _ _ h2] at e1
  obtain ⟨rfl, rfl⟩ := Prod.mk.inj e1
  rw [rdInt_back _ _ h30 h31] at e2
  obtain ⟨rfl, rfl⟩ := Prod.mk.inj e2
  rw [rdS _ _ h4] at e3
  obtain ⟨rfl, rfl⟩ := Prod.mk.inj e3
  rw [rdS _ _ h5] at e4
  obtain ⟨rfl, rfl⟩ := Prod.mk.inj e4
  exact ⟨rfl, rfl, rfl, rfl, rfl⟩

theorem below_drewN {B : Nat} {a w : World} (h : Below B a w) (n : Nat) : Below B a (w.drewN n) := ⟨h.os, h.tape, h.output, h.size, h.block⟩

def tl0 (a8 : ByteArray) (a7 : Bool) : List Value := [Value.string { data := #[] },
          Value.string { data := #[] }, Value.int IntKind.i64 0, Value.int IntKind.i64 0, Value.string { data := #[] },
          Value.int IntKind.u64 0, Value.int IntKind.i64 0, Value.pointer none, Value.string a8,
          Value.int IntKind.i64 0, Value.int IntKind.i64 0, Value.int IntKind.i64 0, Value.nilIface, Value.bool a7]

set_option maxHeartbeats 8000000 in
set_option maxRecDepth 100000 in
theorem lawA (a0 : Option Addr) (len0 cap0 : Nat) (a1 : Bool) (a2 : ByteArray) (a3 : Int) (a4 a5 : ByteArray) (a6 a7 : Bool) (a8 : ByteArray) (w : World) (db off : Nat) (l0 : List UInt8)
    (hdb : db ≤ w.heap.size) (hs : Sl w db off a0 len0 cap0 l0) (hnone : a0 = none → len0 = 0 ∧ cap0 = 0) (h30 : -9223372036854775808 ≤ a3) (h31 : a3 ≤ 9223372036854775807)
    (hlim : len0 + a2.size + a4.size + a5.size ≤ 1048576) :
    Calls Yba.prog 3 #[.slice a0 len0 cap0, .bool a1, .string a2, .int .i64 a3, .string a4, .string a5, .bool a6, .bool a7, .string a8] w fun e w' => e = .returned (.bool true) ∧ Below w.heap.size w w' := by
  have hzz : bits .xor .u64 (IntKind.u64.wrap (wrap64 (a3 * 2))) (IntKind.u64.wrap (a3 / 9223372036854775808)) = ((Lib.zigzag a3 : Nat) : Int) := by
    have h := zz_law a3 h30 h31
    rw [IntKind.wrap_i64] at h
    unfold wrap64
    exact h
  have hlg : Lib.zigzag a3 < 18446744073709551616 := Lib.zigzag_lt h30 h31
  have c1 : decide ((len0 : Int) + (a2.size : Int) + (a4.size : Int) + (a5.size : Int) > 1048576) = false := by simp; omega
  obtain ⟨L, hL⟩ : ∃ L, L = if a1 = true then encS a2 ++ Lib.uvarint (Lib.zigzag a3) ++ encS a4 ++ encS a5 ++ l0 else l0 := ⟨_, rfl⟩
  have hE := fun s : ByteArray => show (encS s).length = (Lib.uvarint s.size).length + s.size from by unfold encS; rw [List.length_append, Array.length_toList]; rfl
  have hl0 := hs.len
  go_enter Yba.func3, Yba.ntmps3
  go_upto_if 42 with fail
  go_cut [19] (fun v wx => InOk w wx v L)
  case first =>
    cases a1 with
    | false =>
      go_wp2_with fail
      go_meet
      case rel =>
        refine ⟨a0, len0, cap0, db, off, rfl, hnone, hdb, ?_, by omega, Below.refl _ _⟩
        simpa [hL] using hs
    | true =>
      have q2 := Lib.uvarint_length64 (x := a2.size) (by omega)
      have q3 := Lib.uvarint_length64 hlg
      have q4 := Lib.uvarint_length64 (x := a4.size) (by omega)
      have q5 := Lib.uvarint_length64 (x := a5.size) (by omega)
      have E2 := hE a2
      have E4 := hE a4
      have E5 := hE a5
      go_wp2_with fail
      refine (puts w.heap.size 0 a2 _ [] w (World.ownsRow_nil w w.heap.size 5 1) (Nat.le_refl _) (by omega)).mono ?_
      rintro e w1 ⟨v1, rfl, ho1, hb1⟩
      go_wp2_with fail
      refine (putu w.heap.size _ (Lib.zigzag a3) hlg v1 _ w1 ho1 hb1.size (by omega)).mono ?_
      rintro e w2 ⟨v2, rfl, ho2, hb2⟩
      replace hb2 := hb1.trans hb2
      go_wp2_with fail
      refine (puts w.heap.size _ a4 v2 _ w2 ho2 hb2.size (by omega)).mono ?_
      rintro e w3 ⟨v3, rfl, ho3, hb3⟩
      replace hb3 := hb2.trans hb3
      go_wp2_with fail
      refine (puts w.heap.size _ a5 v3 _ w3 ho3 hb3.size (by omega)).mono ?_
      rintro e w4 ⟨v4, rfl, ho4, hb4⟩
      replace hb4 := hb3.trans hb4
      have hs4 := hs.below hb4 rfl
      simp only [List.nil_append, ← Lib.byteCells_append] at ho4
      obtain ⟨v5, w5, happ, ho5, hg5⟩ := run_app ho4 hb4.size hs4 hnone (by omega) 22
      have hb5 : Below w.heap.size w w5 := hb4.grown hg5 hb4.size (fun k hk => (ho4.lt k hk).1)
      have hN : 0 + (encS a2).length + (Lib.uvarint (Lib.zigzag a3)).length + (encS a4).length + (encS a5).length + len0 ≤ 2097152 := by omega
      clear ho1 ho2 ho3 E2 E4 E5 hE c1
      go_wp2_with (at_builtin; refine wpList_app rfl _ _ rfl rfl rfl happ ?_)
      go_wp2_with fail
      go_meet
      case rel =>
        obtain ⟨a, c, g, rfl, hn0, hgs, hsl⟩ := own_sl ho5
        refine ⟨a, _, c, g, 0, rfl, hn0, hgs, ?_, hN, hb5⟩
        rw [hL]
        simpa [List.append_assoc] using hsl
  case rest =>
    obtain ⟨a, n, c, g, io, rfl, hn0, hgs, hsl, hn, hB⟩ := hcut
    obtain ⟨kv, wk, happ, hok, hgk⟩ := run_app (base := w.heap.size) (v := .slice none 0 0) (n := 0) (xs := []) (World.ownsRow_nil wc _ 5 1) hB.size hsl hn0 (by omega) 22
    obtain ⟨ka, kc, kb, rfl, hk0, hkb, hks⟩ := own_sl hok
    rw [Nat.zero_add] at hks hk0
    rw [List.nil_append] at hks
    rw [Nat.zero_add] at happ
    have hFk : Fr [] wc wk := ⟨hgk.os, hgk.tape, hgk.output, hgk.size, fun k hk _ => hgk.block k hk (by simp [Value.ownBlock])⟩
    have hsk := hsl.fr hFk (by simp)
    have hgk2 : g ≤ wk.heap.size := Nat.le_trans hgs hgk.size
    clear hok hgk hzz hE
    go_wp2_with (at_builtin; refine wpList_app rfl _ _ rfl rfl rfl happ ?_)
    go_wp2_with fail
    refine (errNew _ wk).mono ?_
    rintro e w1 ⟨S, rfl, hF1, hS, hsz1⟩
    rw [← hS] at hgk2 hkb
    have hs1 := hsk.fr hF1 (by simp)
    have hk1 := hks.fr hF1 (by simp)
    have hB1 : Below w.heap.size w w1 := hB.trans ((hFk.trans hF1).below hB.size (by simp))
    clear hsk hks hFk hF1 happ hsl hn0 hk0 hgs hB
    clear hS
    go_upto_if 72 with fail
    go_cut [23] (fun v wx => v = .pointer (some ⟨w1.heap.size, 0, none⟩) ∧ Fr [] w1 wx ∧ w1.heap.size < wx.heap.size ∧ DecSt wx w1.heap.size g (if a6 = true then some S else none) (some L))
    case first =>
      have hd0 : Blk (w1.alloc (.cells #[.slice a n c, .nilIface, .map none] 33)) w1.heap.size [.slice a n c, .nilIface, .map none] 33 := Blk.new _ _ _
      have hf0 : Fr [] w1 (w1.alloc (.cells #[.slice a n c, .nilIface, .map none] 33)) := (Fr.refl _ _).alloc _
      have hs2 := hs1.fr hf0 (by simp)
      cases a6 with
      | false =>
        go_wp2_with fail
        go_meet
        case rel =>
          exact ⟨rfl, hf0, by simp, a, n, c, io, by omega, hd0, hs2⟩
      | true =>
        have hd3 : Blk (w1.alloc (.cells #[.slice a n c, .iface 84 (.pointer (some ⟨S, 0, none⟩)), .map none] 33)) w1.heap.size [.slice a n c, .iface 84 (.pointer (some ⟨S, 0, none⟩)), .map none] 33 := Blk.new _ _ _
        have hf3 : Fr [] w1 (w1.alloc (.cells #[.slice a n c, .iface 84 (.pointer (some ⟨S, 0, none⟩)), .map none] 33)) := (Fr.refl _ _).alloc _
        have hs3 := hs1.fr hf3 (by simp)
        clear hd0 hf0 hs2
        go_wp2_with fail
        go_meet
        case rel =>
          exact ⟨rfl, hf3, by simp, a, n, c, io, by omega, hd3, hs3⟩
    case rest =>
      obtain ⟨rfl, hF2, hsz2, hd2⟩ := hcut
      have hs2 := hs1.fr hF2 (by simp)
      have hk2 := hk1.fr hF2 (by simp)
      have hB2 : Below w.heap.size w wc := hB1.trans (hF2.below hB1.size (by simp))
      obtain ⟨d, hd⟩ : ∃ d, d = w1.heap.size := ⟨_, rfl⟩
      rw [← hd] at hd2 hsz2 hsz1 ⊢
      have hwd : w.heap.size ≤ d := by rw [hd]; exact hB1.size
      clear hs1 hk1 hB1 hF2 hd
      rename_i wp
      obtain ⟨⟨s1, t1⟩, e1⟩ : ∃ x, rdStr (some L) = x := ⟨_, rfl⟩
      obtain ⟨⟨x2, t2⟩, e2⟩ : ∃ x, rdInt t1 = x := ⟨_, rfl⟩
      obtain ⟨⟨s3, t3⟩, e3⟩ : ∃ x, rdStr t2 = x := ⟨_, rfl⟩
      obtain ⟨⟨s4, t4⟩, e4⟩ : ∃ x, rdStr t3 = x := ⟨_, rfl⟩
      have He1 : Hid _ := e1
      have He2 : Hid _ := e2
      have He3 : Hid _ := e3
      have He4 : Hid _ := e4
      clear e1 e2 e3 e4
      obtain ⟨C, hC⟩ : ∃ C, C = wc.heap.size := ⟨_, rfl⟩
      obtain ⟨X, hX⟩ : ∃ X, X = Obj.cells #[Value.string { data := #[111, 108, 100] }, Value.int IntKind.i64 7, Value.bool false,
          Value.string { data := #[120] }, Value.string { data := #[121] }, Value.string { data := #[] },
          Value.string { data := #[] }, Value.int IntKind.i64 0, Value.int IntKind.i64 0, Value.string { data := #[] },
          Value.int IntKind.u64 0, Value.int IntKind.i64 0, Value.pointer none, Value.string a8,
          Value.int IntKind.i64 0, Value.int IntKind.i64 0, Value.int IntKind.i64 0, Value.nilIface, Value.bool a7] 48 := ⟨_, rfl⟩
      have hf3 : Fr [] wc (wc.alloc X) := (Fr.refl _ _).alloc _
      have hc3 : Blk (wc.alloc X) C (Value.string { data := #[111, 108, 100] } :: Value.int IntKind.i64 7 :: Value.bool false ::
          Value.string { data := #[120] } :: Value.string { data := #[121] } :: tl0 a8 a7) 48 := by
        rw [hC, hX]; exact Blk.new _ _ _
      have hsz3 : (wc.alloc X).heap.size = C + 1 := by rw [hC]; simp
      have hd3 := hd2.fr hf3 (by simp) (by simp)
      have hs3 := hs2.fr hf3 (by simp)
      have hk3 := hk2.fr hf3 (by simp)
      have hB3 : Below w.heap.size w (wc.alloc X) := hB2.trans (hf3.below hB2.size (by simp))
      rw [← hC] at hsz2
      clear hd2 hs2 hk2 hB2 hf3
      go_wp2_with fail
      rw [← hC, ← hX]
      clear hC hX
      obtain ⟨w2, hw2⟩ : ∃ w2, w2 = wc.alloc X := ⟨_, rfl⟩
      rw [← hw2] at hc3 hsz3 hd3 hs3 hk3 hB3 ⊢
      clear hw2
      refine (decode C d g _ (some L) _ _ _ _ _ (tl0 a8 a7) w2 hc3 hd3 (by omega) (by omega) (by omega) s1 s3 s4 x2 t1 t2 t3 t4 He1 He2 He3 He4).mono ?_
      rintro e w3 ⟨rfl, hF3, hd4, hc4⟩
      have hk4 := hk3.fr hF3 (by simp; omega)
      have hs4 := hs3.fr hF3 (by simp; omega)
      have hB4 : Below w.heap.size w w3 := hB3.trans (hF3.below hB3.size (by simp; omega))
      have hsz4 : C < w3.heap.size := by have := hF3.size; omega
      clear hc3 hd3 hk3 hs3 hB3 hF3 hsz3
      obtain ⟨R, hR⟩ : ∃ R, R = w3.heap.size := ⟨_, rfl⟩
      obtain ⟨Y, hY⟩ : ∃ Y, Y = Obj.cells #[.slice ka n kc, .int .i64 0, .bool false] 51 := ⟨_, rfl⟩
      have hf5 : Fr [] w3 (w3.alloc Y) := (Fr.refl _ _).alloc _
      have hr5 : RdSt (w3.alloc Y) R ka n kc L (some L) := ⟨0, Nat.zero_le _, rfl, by rw [hR, hY]; exact Blk.new _ _ _⟩
      have hd5 := hd4.fr hf5 (by simp) (by simp)
      have hc5 := hf5.blk hc4 (by simp)
      have hk5 := hk4.fr hf5 (by simp)
      have hs5 := hs4.fr hf5 (by simp)
      have hB5 : Below w.heap.size w (w3.alloc Y) := hB4.trans (hf5.below hB4.size (by simp))
      have hwR : w.heap.size ≤ R := by rw [hR]; exact hB4.size
      rw [← hR] at hsz4
      clear hd4 hc4 hk4 hs4 hB4 hf5
      go_wp2_with fail
      rw [← hR, ← hY]
      clear hR hY
      obtain ⟨w4, hw4⟩ : ∃ w4, w4 = w3.alloc Y := ⟨_, rfl⟩
      rw [← hw4] at hr5 hd5 hc5 hk5 hs5 hB5 ⊢
      clear hw4
      have hRk : kb ≠ R := by omega
      have hn4 : n ≤ 140737488355328 := by omega
      refine (rd_str R ka n kc kb L (some L) w4 hr5 hk5 hRk hn4).mono ?_
      rw [show rdStr (some L) = (s1, t1) from He1]
      rintro e w5 ⟨rfl, hF6, hr6⟩
      go_wp2_with fail
      have hk6 := hk5.fr hF6 (by simpa using hRk)
      refine (rd_int R ka n kc kb L t1 w5 hr6 hk6 hn4).mono ?_
      rw [show rdInt t1 = (x2, t2) from He2]
      rintro e w6 ⟨rfl, hF7, hr7⟩
      replace hF7 := hF6.trans hF7
      clear hr5 hr6 hk6 hF6
      go_wp2_with fail
      have hk7 := hk5.fr hF7 (by simpa using hRk)
      refine (rd_str R ka n kc kb L t2 w6 hr7 hk7 hRk hn4).mono ?_
      rw [show rdStr t2 = (s3, t3) from He3]
      rintro e w7 ⟨rfl, hF8, hr8⟩
      replace hF8 := hF7.trans hF8
      clear hr7 hk7 hF7
      go_wp2_with fail
      have hk8 := hk5.fr hF8 (by simpa using hRk)
      refine (rd_str R ka n kc kb L t3 w7 hr8 hk8 hRk hn4).mono ?_
      rw [show rdStr t3 = (s4, t4) from He4]
      rintro e w8 ⟨rfl, hF9, hr9⟩
      replace hF9 := hF8.trans hF9
      clear hr8 hk8 hF8
      have hk9 := hk5.fr hF9 (by simpa using hRk)
      have hs9 := hs5.fr hF9 (by simp; omega)
      have hc9 := hF9.blk hc5 (by simp; omega)
      have hd9 := hd5.fr hF9 (by simp; omega) (by simp; omega)
      have hB9 : Below w.heap.size w w8 := hB5.trans (hF9.below hB5.size (by simp; omega))
      clear hk5 hs5 hc5 hd5 hB5 hF9
      have hx0 := hc9.cell 0 rfl
      have hx1 := hc9.cell 1 rfl
      have hx2 := hc9.cell 2 rfl
      have hx3 := hc9.cell 3 rfl
      have hx4 := hc9.cell 4 rfl
      have hx5 := hc9.cell 5 rfl
      have hx13 := hc9.cell 13 rfl
      have hx14 := hc9.cell 14 rfl
      have hx17 := hc9.cell 17 rfl
      have hx18 := hc9.cell 18 rfl
      have m31 := neq_nil31
      have m28 := neq_nil28
      have m28s := neq_err28
      have m28e := neq_same28
      clear hc9
      have hbk : Hid (a1 = true → s1 = a2.data.toList ∧ x2 = a3 ∧ s3 = a4.data.toList ∧ s4 = a5.data.toList ∧ t4 = some l0) := by
        intro h
        rw [hL, if_pos h] at He1
        exact back a2 a4 a5 a3 l0 (by omega) (by omega) (by omega) h30 h31 He1 He2 He3 He4
      have hLl : Hid (L.length = n) := hs9.len
      clear He1 He2 He3 He4 hL
      cases t4 with
      | none =>
        obtain ⟨er, hdb9, her⟩ := hd9
        obtain ⟨pos, hpos, hrb9⟩ := hr9
        have y0 := hdb9.cell 0 rfl
        have y1 := hdb9.cell 1 rfl
        have y2 := hdb9.cell 2 rfl
        have k0 := hrb9.cell 0 rfl
        have k1 := hrb9.cell 1 rfl
        have k2 := hrb9.cell 2 rfl
        have m22 := neq_nil22
        simp only [errV] at y1
        obtain rfl : a1 = false := by
          cases a1 with
          | false => rfl
          | true => exact absurd (hbk rfl).2.2.2.2 (by simp)
        clear hbk
        cases a6 with
        | false =>
          clear her hdb9 hrb9
          go_wp2_with fail
          go_quiet (fail)
          go_wp2_with fail
          refine (eq_same g io kb 0 a ka n c kc L _ (hs9.drewN _) (hk9.drewN _) hn4).mono ?_
          rintro e w9 ⟨rfl, q, rfl⟩
          go_wp2
          go_ret
          exact ⟨rfl, below_drewN hB9 _⟩
        | true =>
          obtain rfl := her S rfl
          clear her hdb9 hrb9
          go_wp2_with fail
          refine (eq_same g io kb 0 a ka n c kc L _ hs9 hk9 hn4).mono ?_
          rintro e w9 ⟨rfl, q, rfl⟩
          go_wp2
          go_ret
          exact ⟨rfl, below_drewN hB9 _⟩
      | some l =>
        obtain ⟨b, m, p, o2, hm4, hdb9, hsl9⟩ := hd9
        obtain ⟨pos, hpos, rfl, hrb9⟩ := hr9
        have y0 := hdb9.cell 0 rfl
        have y1 := hdb9.cell 1 rfl
        have y2 := hdb9.cell 2 rfl
        have k0 := hrb9.cell 0 rfl
        have k1 := hrb9.cell 1 rfl
        have k2 := hrb9.cell 2 rfl
        have htl := hk9.tail pos hpos
        have hme : m = n - pos := by rw [← hsl9.len, htl.len]
        rw [← hme] at htl
        have hcut : ∀ q, (Instr.slice 22 (.slice ka n kc) (some (.int .i64 (pos : Int))) none none).run Yba.prog q = .ok (.slice (cut ka pos kc) m (kc - pos)) q := fun q => by rw [hme]; exact run_tail _ ka n kc pos hpos
        cases a1 with
        | false =>
          clear hbk hme hLl
          cases a6 with
          | false =>
            simp only [errV] at y1
            clear hdb9 hrb9
            go_wp2_with fail
            go_quiet (first | (go_at_call 11; refine Calls.quiet_of (eq_same g o2 kb (0 + pos) b (cut ka pos kc) m p (kc - pos) (L.drop pos) _ (hsl9.drewN _) (htl.drewN _) hm4)))
            go_wp2_with fail
            go_quiet (fail)
            go_wp2_with fail
            refine (eq_same g io kb 0 a ka n c kc L _ (hs9.drewN _) (hk9.drewN _) hn4).mono ?_
            rintro e w9 ⟨rfl, q, rfl⟩
            go_wp2
            go_ret
            exact ⟨rfl, below_drewN hB9 _⟩
          | true =>
            simp only [errV] at y1
            clear hdb9 hrb9
            go_wp2_with fail
            go_quiet (first | (go_at_call 11; refine Calls.quiet_of (eq_same g o2 kb (0 + pos) b (cut ka pos kc) m p (kc - pos) (L.drop pos) _ (hsl9.drewN _) (htl.drewN _) hm4)))
            go_wp2_with fail
            refine (eq_same g io kb 0 a ka n c kc L _ (hs9.drewN _) (hk9.drewN _) hn4).mono ?_
            rintro e w9 ⟨rfl, q, rfl⟩
            go_wp2
            go_ret
            exact ⟨rfl, below_drewN hB9 _⟩
        | true =>
          obtain ⟨hq1, hq2, hq3, hq4, hq5⟩ := hbk rfl
          have hq6 : L.drop pos = l0 := Option.some.inj hq5
          have hlp : n = pos + len0 := by
            have h1 := congrArg List.length hq6
            rw [List.length_drop, hl0] at h1
            have h2 : L.length = n := hLl
            omega
          have hpz : ((pos : Int) != (n : Int) - (len0 : Int)) = false := by simp; omega
          have E1 : (⟨s1.toArray⟩ : ByteArray) = a2 := by rw [hq1]
          have E3 : (⟨s3.toArray⟩ : ByteArray) = a4 := by rw [hq3]
          have E4 : (⟨s4.toArray⟩ : ByteArray) = a5 := by rw [hq4]
          rw [E1] at hx0 ⊢
          rw [E3] at hx3 ⊢
          rw [E4] at hx4 ⊢
          subst hq2
          clear hbk hme hLl hq1 hq3 hq4 hq5 hq6 hlp E1 E3 E4
          cases a6 with
          | false =>
            simp only [errV] at y1
            clear hdb9 hrb9
            go_wp2_with fail
            go_quiet (first | (go_at_call 11; refine Calls.quiet_of (eq_same g o2 kb (0 + pos) b (cut ka pos kc) m p (kc - pos) (L.drop pos) _ (hsl9.drewN _) (htl.drewN _) hm4)))
            go_wp2_with fail
            go_quiet (fail)
            go_wp2_with fail
            refine (eq_same g io kb 0 a ka n c kc L _ (hs9.drewN _) (hk9.drewN _) hn4).mono ?_
            rintro e w9 ⟨rfl, q, rfl⟩
            go_wp2
            go_ret
            exact ⟨rfl, below_drewN hB9 _⟩
          | true =>
            simp only [errV] at y1
            clear hdb9 hrb9
            go_wp2_with fail
            go_quiet (first | (go_at_call 11; refine Calls.quiet_of (eq_same g o2 kb (0 + pos) b (cut ka pos kc) m p (kc - pos) (L.drop pos) _ (hsl9.drewN _) (htl.drewN _) hm4)))
            go_wp2_with fail
            refine (eq_same g io kb 0 a ka n c kc L _ (hs9.drewN _) (hk9.drewN _) hn4).mono ?_
            rintro e w9 ⟨rfl, q, rfl⟩
            go_wp2
            go_ret
            exact ⟨rfl, below_drewN hB9 _⟩
end Go.Proofs.Ybulkdnmq
