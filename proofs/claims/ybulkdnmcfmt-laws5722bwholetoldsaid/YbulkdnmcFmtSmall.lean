/- The small functions: zz active (4), bytes.Clone (5), bytes.Equal (7), Rounds (15), MaxFrameLen (16), ended (11), Active (18), Uint32 (20), Uint16 (22). -/
import Derived.Test.YbulkdnmcFmtSl
import Derived.Lib.Walk
import Derived.Lib.EndianBits
import Derived.Deep.QuietTactic
import Derived.BigQuiet
namespace Go.Proofs.YbulkdnmcFmt
open Go.RowKit
set_option linter.unusedSimpArgs false
set_option linter.unusedVariables false

/-- Does member id relay in the broadcast of s? -/
def act (md : Int) (t s id : Nat) : Bool := md != 1 || id == s || decide ((if s < id then id - 1 else id) < 2 * t)

set_option maxHeartbeats 2000000 in
theorem active4 (md : Int) (t s id : Nat) (ht : t < 1000) (hs : s < 1000000) (hi : id < 1000000) (w : World) :
    Calls Ybaf.prog 4 #[.int .i64 md, .int .i64 t, .int .i64 s, .int .i64 id] w fun e w' => e = .returned (.bool (act md t s id)) ∧ w' = w := by
  by_cases hm : md = 1
  · subst hm
    by_cases he : id = s
    · subst he
      have hv : act 1 t id id = true := by simp [act]
      rw [hv]
      go_enter Ybaf.func4, Ybaf.ntmps4
      go_wp2
      go_ret
      exact ⟨rfl, rfl⟩
    · have e1 : ((id : Int) == (s : Int)) = false := by simp; omega
      by_cases hg : s < id
      · have hv : act 1 t s id = decide (id - 1 < 2 * t) := by simp [act, he, hg]
        have e2 : decide ((s : Int) < (id : Int)) = true := by simp; omega
        obtain ⟨k, hk⟩ : ∃ k : Nat, id = k + 1 := ⟨id - 1, by omega⟩
        rw [hv]
        have hd : decide (id - 1 < 2 * t) = decide ((id : Int) - 1 < 2 * (t : Int)) := by
          congr 1
          apply propext
          omega
        rw [hd]
        clear hv hd hk
        go_enter Ybaf.func4, Ybaf.ntmps4
        go_wp2
        go_ret
        exact ⟨rfl, rfl⟩
      · have hv : act 1 t s id = decide (id < 2 * t) := by simp [act, he, hg]
        have e2 : decide ((s : Int) < (id : Int)) = false := by simp; omega
        rw [hv]
        have hd : decide (id < 2 * t) = decide ((id : Int) < 2 * (t : Int)) := by
          congr 1
          apply propext
          omega
        rw [hd]
        clear hv hd
        go_enter Ybaf.func4, Ybaf.ntmps4
        go_wp2
        go_ret
        exact ⟨rfl, rfl⟩
  · have hv : act md t s id = true := by simp [act, hm]
    have e0 : (md != 1) = true := by simp [hm]
    rw [hv]
    go_enter Ybaf.func4, Ybaf.ntmps4
    go_wp2
    go_ret
    exact ⟨rfl, rfl⟩

theorem build0 (w : World) : (Instr.buildSlice 23 0 #[]).run Ybaf.prog w = .ok (.slice (some ⟨w.heap.size, 0, none⟩) 0 0) (w.alloc (.cells #[] 5)) := by kernel_rfl
theorem some_ne_nil (x : Addr) (n c : Nat) (w : World) : (binOp .eql 23 (.slice (some x) n c) (.slice none 0 0)).run Ybaf.prog w = .ok (.bool false) w := by kernel_rfl
theorem nil_eq_nil (w : World) : (binOp .eql 23 (.slice none 0 0) (.slice none 0 0)).run Ybaf.prog w = .ok (.bool true) w := by kernel_rfl

set_option maxHeartbeats 2000000 in
theorem clone5 {w : World} {db off : Nat} {a : Option Addr} {n c : Nat} {l : List UInt8} (hs : Sl w db off a n c l) (hnone : a = none → n = 0 ∧ c = 0) (hlim : n ≤ 140737488355328) :
    Calls Ybaf.prog 5 #[.slice a n c] w fun e w' => ∃ a' c', e = .returned (.slice a' n c') ∧ Hid (∃ g, Fr [] w w' ∧ g ≤ w'.heap.size ∧ Sl w' g 0 a' n c' l) := by
  cases a with
  | none =>
    obtain ⟨rfl, rfl⟩ := hnone rfl
    obtain rfl := List.eq_nil_of_length_eq_zero hs.len
    have hq := nil_eq_nil
    go_enter Ybaf.func5, Ybaf.ntmps5
    go_wp2
    go_ret
    exact ⟨none, 0, rfl, by first | exact ⟨0, Fr.refl _ _, Nat.zero_le _, Sl.nil _ _ _⟩ | exact ⟨Fr.refl _ _, 0, Nat.zero_le _, Sl.nil _ _ _⟩⟩
  | some x =>
    have hq := some_ne_nil x n c
    have hb := build0 w
    have hF0 : Fr [] w (w.alloc (.cells #[] 5)) := (Fr.refl _ _).alloc _
    have hown : (w.alloc (.cells #[] 5)).ownsRow w.heap.size 5 1 (.slice (some ⟨w.heap.size, 0, none⟩) 0 0) 0 (Lib.byteCells []) :=
      ⟨rfl, Or.inr ⟨w.heap.size, 0, #[], rfl, Nat.le_refl _, heap_alloc_new w _, Nat.le_refl _, by decide, rfl, rfl⟩⟩
    obtain ⟨v', w', happ, hown', hgrow⟩ := run_app hown (by simp) (hs.fr hF0 (by simp)) hnone (by omega) 23
    rw [Nat.zero_add, List.nil_append] at hown'
    obtain ⟨a', c', g, rfl, _, hgs, hsl⟩ := own_sl hown'
    have hF1 : Fr [w.heap.size] (w.alloc (.cells #[] 5)) w' := ⟨hgrow.os, hgrow.tape, hgrow.output, hgrow.size, fun k hk hn => hgrow.block k hk (fun e => hn (by simp [Value.ownBlock] at e; simp [e]))⟩
    have hF : Fr [] w w' := Fr.drop (((Fr.refl [w.heap.size] w).alloc _).trans hF1) (by simp)
    clear hown hown' hgrow hF1 hs hF0
    go_enter Ybaf.func5, Ybaf.ntmps5
    go_wp2_with (at_builtin; refine wpList_app rfl _ _ rfl rfl rfl happ ?_)
    go_wp2
    go_ret
    exact ⟨a', c', rfl, g, hF, hgs, hsl⟩

theorem str_eq (l1 l2 : List UInt8) : ((⟨l1.toArray⟩ : ByteArray) = ⟨l2.toArray⟩) ↔ l1 = l2 := by
  constructor
  · intro h
    injection h with h
    simpa using h
  · rintro rfl; rfl

theorem equal7 {w : World} {db off db2 off2 : Nat} {a a2 : Option Addr} {n c n2 c2 : Nat} {l l2 : List UInt8} (h1 : Sl w db off a n c l) (h2 : Sl w db2 off2 a2 n2 c2 l2) :
    Calls Ybaf.prog 7 #[.slice a n c, .slice a2 n2 c2] w fun e w' => e = .returned (.bool (decide (l = l2))) ∧ w' = w := by
  have e1 := run_str h1
  have e2 := run_str h2
  have e3 : decide (l = l2) = decide ((⟨l.toArray⟩ : ByteArray) = ⟨l2.toArray⟩) := by simp only [str_eq]
  rw [e3]
  clear h1 h2 e3
  go_enter Ybaf.func7, Ybaf.ntmps7
  go_wp2
  go_ret
  exact ⟨by by_cases h : l = l2 <;> simp [h], rfl⟩

theorem rounds15 (b : Nat) (T : Nat) (hT : T < 1000) (w : World) (h3 : w.cell? ⟨b, 3, none⟩ = some (.int .i64 T)) :
    Calls Ybaf.prog 15 #[.pointer (some ⟨b, 0, none⟩)] w fun e w' => e = .returned (.int .i64 ((T : Int) + 1)) ∧ w' = w := by
  go_enter Ybaf.func15, Ybaf.ntmps15
  go_wp2
  go_ret
  exact ⟨rfl, rfl⟩

theorem maxFrame16 (b : Nat) (T : Nat) (hT : T < 1000) (w : World) (h3 : w.cell? ⟨b, 3, none⟩ = some (.int .i64 T)) :
    Calls Ybaf.prog 16 #[.pointer (some ⟨b, 0, none⟩)] w fun e w' => e = .returned (.int .i64 (65542 + ((T : Int) + 1) * 66)) ∧ w' = w := by
  go_enter Ybaf.func16, Ybaf.ntmps16
  go_wp2_with fail
  refine (rounds15 b T hT w h3).mono ?_
  rintro e w1 ⟨rfl, rfl⟩
  go_wp2
  go_ret
  exact ⟨rfl, rfl⟩

theorem ended11 (b : Nat) (T R : Nat) (hT : T < 1000) (hR : R < 1000) (w : World) (h3 : w.cell? ⟨b, 3, none⟩ = some (.int .i64 T)) (h10 : w.cell? ⟨b, 10, none⟩ = some (.int .i64 R)) :
    Calls Ybaf.prog 11 #[.pointer (some ⟨b, 0, none⟩)] w fun e w' => e = .returned (.bool (decide (T + 1 < R))) ∧ ∃ q, w' = w.drewN q := by
  have hd : decide (T + 1 < R) = decide ((T : Int) + 1 < (R : Int)) := by
    congr 1
    apply propext
    omega
  rw [hd]
  clear hd
  go_enter Ybaf.func11, Ybaf.ntmps11
  go_wp2
  go_quiet (first | (go_at_call 15; refine Calls.quiet_of_same (rounds15 b T hT _ h3)))
  go_wp2
  go_ret
  exact ⟨rfl, _, rfl⟩

set_option maxHeartbeats 2000000 in
theorem active18 (b : Nat) (md : Int) (t s id : Nat) (ht : t < 1000) (hs : s < 1000000) (hi : id < 1000000) (w : World) (h3 : w.cell? ⟨b, 3, none⟩ = some (.int .i64 t)) (h4 : w.cell? ⟨b, 4, none⟩ = some (.int .i64 s)) (h5 : w.cell? ⟨b, 5, none⟩ = some (.int .i64 md)) :
    Calls Ybaf.prog 18 #[.pointer (some ⟨b, 0, none⟩), .int .i64 id] w fun e w' => e = .returned (.bool (act md t s id)) ∧ w' = w := by
  have e9 : ((s : Int) == -1) = false := by simp
  by_cases hm : md = 1
  · subst hm
    by_cases he : id = s
    · subst he
      have hv : act 1 t id id = true := by simp [act]
      rw [hv]
      go_enter Ybaf.func18, Ybaf.ntmps18
      go_wp2
      go_ret
      exact ⟨rfl, rfl⟩
    · have e1 : ((id : Int) == (s : Int)) = false := by simp; omega
      by_cases hg : s < id
      · have hv : act 1 t s id = decide (id - 1 < 2 * t) := by simp [act, he, hg]
        have e2 : decide ((s : Int) < (id : Int)) = true := by simp; omega
        obtain ⟨k, hk⟩ : ∃ k : Nat, id = k + 1 := ⟨id - 1, by omega⟩
        rw [hv]
        have hd : decide (id - 1 < 2 * t) = decide ((id : Int) - 1 < 2 * (t : Int)) := by
          congr 1
          apply propext
          omega
        rw [hd]
        clear hv hd hk
        go_enter Ybaf.func18, Ybaf.ntmps18
        go_wp2
        go_ret
        exact ⟨rfl, rfl⟩
      · have hv : act 1 t s id = decide (id < 2 * t) := by simp [act, he, hg]
        have e2 : decide ((s : Int) < (id : Int)) = false := by simp; omega
        rw [hv]
        have hd : decide (id < 2 * t) = decide ((id : Int) < 2 * (t : Int)) := by
          congr 1
          apply propext
          omega
        rw [hd]
        clear hv hd
        go_enter Ybaf.func18, Ybaf.ntmps18
        go_wp2
        go_ret
        exact ⟨rfl, rfl⟩
  · have hv : act md t s id = true := by simp [act, hm]
    have e0 : (md != 1) = true := by simp [hm]
    rw [hv]
    go_enter Ybaf.func18, Ybaf.ntmps18
    go_wp2
    go_ret
    exact ⟨rfl, rfl⟩

/-- Two bytes, four bytes, the first the greatest. -/
def be16 (x y : UInt8) : Nat := x.toNat * 256 + y.toNat
def be32 (x y z u : UInt8) : Nat := x.toNat * 16777216 + y.toNat * 65536 + z.toNat * 256 + u.toNat

set_option maxHeartbeats 2000000 in
theorem uint16_22 (db o : Nat) (n c : Nat) (x y : UInt8) (w : World) (hn : 2 ≤ n) (h0 : w.cell? ⟨db, o, none⟩ = some (.int .u8 x.toNat)) (h1 : w.cell? ⟨db, o + 1, none⟩ = some (.int .u8 y.toNat)) :
    Calls Ybaf.prog 22 #[.agg #[], .slice (some ⟨db, o, none⟩) n c] w fun e w' => e = .returned (.int .u16 (be16 x y)) ∧ Hid (Fr [] w w') := by
  have hx : x.toNat < 256 := x.toNat_lt
  have hy : y.toNat < 256 := y.toNat_lt
  have hlt0 := World.block_lt_of_cell? w _ h0
  have hF : Fr [] w (w.alloc (.cells #[] 99)) := (Fr.refl _ _).alloc _
  have g0 := (hF.cell (p := ⟨db, o, none⟩) hlt0 (by simp)).trans h0
  have g1 := (hF.cell (p := ⟨db, o + 1, none⟩) hlt0 (by simp)).trans h1
  have hor : bits .or .u16 (y.toNat : Int) ((x.toNat : Int) * 256) = ((be16 x y : Nat) : Int) := by
    rw [u16_or8 _ _ (by omega) (by omega) (by omega) (by omega) (by omega)]; unfold be16; omega
  go_enter Ybaf.func22, Ybaf.ntmps22
  go_wp2
  go_quiet (fail)
  go_wp2
  go_ret
  exact ⟨rfl, hF.drewN _⟩

set_option maxHeartbeats 2000000 in
theorem uint32_20 (db o : Nat) (n c : Nat) (x y z u : UInt8) (w : World) (hn : 4 ≤ n) (h0 : w.cell? ⟨db, o, none⟩ = some (.int .u8 x.toNat)) (h1 : w.cell? ⟨db, o + 1, none⟩ = some (.int .u8 y.toNat)) (h2 : w.cell? ⟨db, o + 2, none⟩ = some (.int .u8 z.toNat)) (h3 : w.cell? ⟨db, o + 3, none⟩ = some (.int .u8 u.toNat)) :
    Calls Ybaf.prog 20 #[.agg #[], .slice (some ⟨db, o, none⟩) n c] w fun e w' => e = .returned (.int .u32 (be32 x y z u)) ∧ Hid (Fr [] w w') := by
  have hx : x.toNat < 256 := x.toNat_lt
  have hy : y.toNat < 256 := y.toNat_lt
  have hz : z.toNat < 256 := z.toNat_lt
  have hu : u.toNat < 256 := u.toNat_lt
  have hlt0 := World.block_lt_of_cell? w _ h0
  have hF : Fr [] w (w.alloc (.cells #[] 99)) := (Fr.refl _ _).alloc _
  have g0 := (hF.cell (p := ⟨db, o, none⟩) hlt0 (by simp)).trans h0
  have g1 := (hF.cell (p := ⟨db, o + 1, none⟩) hlt0 (by simp)).trans h1
  have g2 := (hF.cell (p := ⟨db, o + 2, none⟩) hlt0 (by simp)).trans h2
  have g3 := (hF.cell (p := ⟨db, o + 3, none⟩) hlt0 (by simp)).trans h3
  have hor1 : bits .or .u32 (u.toNat : Int) ((z.toNat : Int) * 256) = (z.toNat : Int) * 256 + (u.toNat : Int) := by
    rw [u32_or8 _ _ (by omega) (by omega) (by omega) (by omega) (by omega)]; omega
  have hor2 : bits .or .u32 ((z.toNat : Int) * 256 + (u.toNat : Int)) ((y.toNat : Int) * 65536) = (y.toNat : Int) * 65536 + (z.toNat : Int) * 256 + (u.toNat : Int) := by
    rw [u32_or16 _ _ (by omega) (by omega) (by omega) (by omega) (by omega)]; omega
  have hor3 : bits .or .u32 ((y.toNat : Int) * 65536 + (z.toNat : Int) * 256 + (u.toNat : Int)) ((x.toNat : Int) * 16777216) = ((be32 x y z u : Nat) : Int) := by
    rw [u32_or24 _ _ (by omega) (by omega) (by omega) (by omega) (by omega)]; unfold be32; omega
  go_enter Ybaf.func20, Ybaf.ntmps20
  go_wp2
  go_quiet (fail)
  go_wp2
  go_ret
  exact ⟨rfl, hF.drewN _⟩
end Go.Proofs.YbulkdnmcFmt
