/- Node.decode (12), Node.holds (13). -/
import Derived.Test.YbulkdnmcFmtCf
namespace Go.Proofs.YbulkdnmcFmt
open Go.RowKit Go.Extern.Stop Go.Stop Go.Extern
set_option linter.unusedSimpArgs false
set_option linter.unusedVariables false

/-- A frame that is taken for a chain. -/
def Takes (F : List UInt8) (T : Nat) : Prop := F.length ≤ 65542 + (T + 1) * 66 ∧ OkF F

theorem decode12_bad (I : Interp) (nb T : Nat) (fb fo : Nat) (fa : Option Addr) (fn fc : Nat) (F : List UInt8) (w : World) (hT : T < 1000) (hI : I.answers w.tape) (hS : Sen w) (h3 : w.cell? ⟨nb, 3, none⟩ = some (.int .i64 T)) (hs : Sl w fb fo fa fn fc F) (hm : fn ≤ 140737488355328) (hbad : ¬ Takes F T) :
    Calls Ybaf.prog 12 #[.pointer (some ⟨nb, 0, none⟩), .slice fa fn fc] w fun e w' => e = .returned (.pointer none) ∧ Hid (Fr [] w w') := by
  have hM := maxFrame16 nb T hT w h3
  have hl := hs.len
  by_cases hlen : fn ≤ 65542 + (T + 1) * 66
  · have hbad2 : ¬ OkF F := fun h => hbad ⟨by omega, h⟩
    have t0 : decide (65542 + ((T : Int) + 1) * 66 < (fn : Int)) = false := by simp; omega
    have hD := dc17_bad I fb fo fa fn fc F w hI hS hs hm hbad2
    clear hs hbad hbad2 hlen hl h3
    go_enter Ybaf.func12, Ybaf.ntmps12
    go_wp2_with fail
    refine hM.mono ?_
    rintro e w1 ⟨rfl, rfl⟩
    go_wp2_with fail
    refine hD.mono ?_
    rintro e w1 ⟨er, p, rfl, hF1⟩
    clear hM hD
    go_wp2
    go_ret
    exact ⟨rfl, hF1⟩
  · have t0 : decide (65542 + ((T : Int) + 1) * 66 < (fn : Int)) = true := by simp; omega
    clear hs hbad hlen hl h3
    go_enter Ybaf.func12, Ybaf.ntmps12
    go_wp2_with fail
    refine hM.mono ?_
    rintro e w1 ⟨rfl, rfl⟩
    clear hM
    go_wp2
    go_ret
    exact ⟨rfl, Fr.refl _ _⟩

/-- What is known of a decoded chain at cb. -/
def ChainAt (w w' : World) (cb : Nat) (fb fo : Nat) (F : List UInt8) : Prop :=
  ∃ gb, w.heap.size ≤ cb ∧ w.heap.size ≤ gb ∧ cb ≠ gb ∧ gb < w'.heap.size ∧ Blk w' cb [.slice (some ⟨fb, fo + 4, none⟩) (klen F) (klen F), .slice (some ⟨gb, 0, none⟩) (cnt F) (cnt F)] 79 ∧ ∃ z : Nat → Value, Blk w' gb (Pre (cnt F * 65) (cnt F * 65) (dcG F) z) 82

theorem decode12_ok (nb T : Nat) (fb fo : Nat) (fa : Option Addr) (fn fc : Nat) (F : List UInt8) (w : World) (hT : T < 1000) (h3 : w.cell? ⟨nb, 3, none⟩ = some (.int .i64 T)) (hs : Sl w fb fo fa fn fc F) (hm : fn ≤ 140737488355328) (hok : Takes F T) :
    Calls Ybaf.prog 12 #[.pointer (some ⟨nb, 0, none⟩), .slice fa fn fc] w fun e w' => ∃ cb, e = .returned (.pointer (some ⟨cb, 0, none⟩)) ∧ Hid (Fr [] w w' ∧ ChainAt w w' cb fb fo F) := by
  have hM := maxFrame16 nb T hT w h3
  have hl := hs.len
  have hlen := hok.1
  have t0 : decide (65542 + ((T : Int) + 1) * 66 < (fn : Int)) = false := by simp; omega
  have hD := dc17_ok fb fo fa fn fc F w hs hm hok.2
  clear hs hok hlen hl h3
  go_enter Ybaf.func12, Ybaf.ntmps12
  go_wp2_with fail
  refine hM.mono ?_
  rintro e w1 ⟨rfl, rfl⟩
  go_wp2_with fail
  refine hD.mono ?_
  rintro e w1 ⟨cb, rfl, hF1⟩
  clear hM hD
  go_wp2
  go_ret
  exact ⟨cb, rfl, hF1.out.1, hF1.out.2⟩

/-- A slice of bytes, by name. -/
structure Ref where
  b : Nat
  o : Nat
  a : Option Addr
  n : Nat
  c : Nat
  l : List UInt8
def Ref.val (r : Ref) : Value := .slice r.a r.n r.c
def Ref.ok (w : World) (r : Ref) : Prop := Sl w r.b r.o r.a r.n r.c r.l
/-- A row of slices. -/
def Ext (w : World) (v : Value) (rs : List Ref) : Prop :=
  ∃ ea ec g cs, v = .slice ea rs.length ec ∧ (0 < rs.length → ea = some ⟨g, 0, none⟩ ∧ Blk w g cs 23) ∧ ∀ j (hj : j < rs.length), cs[j]? = some (rs[j]).val

def hasV (rs : List Ref) (V : List UInt8) : Bool := rs.any fun r => decide (r.l = V)

set_option maxHeartbeats 2000000 in
theorem holds13 (nb : Nat) (ev : Value) (rs : List Ref) (db off : Nat) (va : Option Addr) (vn vc : Nat) (V : List UInt8) (w : World) (hn : rs.length < 1000) (h11 : w.cell? ⟨nb, 11, none⟩ = some ev) (hE : Ext w ev rs) (hrs : ∀ r ∈ rs, r.ok w) (hv : Sl w db off va vn vc V) :
    Calls Ybaf.prog 13 #[.pointer (some ⟨nb, 0, none⟩), .slice va vn vc] w fun e w' => e = .returned (.bool (hasV rs V)) ∧ w' = w := by
  obtain ⟨ea, ec, g, cs, rfl, hea, hcs⟩ := hE
  obtain ⟨n, hnn⟩ : ∃ n, n = rs.length := ⟨_, rfl⟩
  rw [← hnn] at h11 hn
  have HN : Hid (n = rs.length) := hnn
  have hq := fun (j : Nat) (hj : j < rs.length) => equal7 (hrs (rs[j]) (List.getElem_mem hj)) hv
  clear hnn
  go_enter Ybaf.func13, Ybaf.ntmps13
  go_wp2
  go_loopw [12] (fun vi wr => ∃ i : Nat, vi = .int .i64 i ∧ i ≤ n ∧ wr = w ∧ Hid (hasV (rs.take i) V = false))
    (fun vi _ => n - (intOf vi).toNat)
  case atStart => exact ⟨0, rfl, Nat.zero_le _, rfl, rfl⟩
  case round =>
    obtain ⟨i, rfl, hin, rfl, hno⟩ := hrel
    by_cases hi : i < n
    · have hnl : n = rs.length := HN
      obtain ⟨hea', hB⟩ := hea (by omega)
      subst hea'
      have c0 := hB.cell i (hcs i (by omega))
      have b0 : (0 : Int) ≤ (i : Int) := by omega
      have b1 : (i : Int) < (n : Int) := by omega
      have hqi := hq i (by omega)
      obtain ⟨r, hr⟩ : ∃ r, r = rs[i]'(by omega) := ⟨_, rfl⟩
      rw [← hr] at c0 hqi
      unfold Ref.val at c0
      have hstep : Hid (hasV (rs.take (i + 1)) V = decide (r.l = V)) := by
        show _ = _
        have h2 : hasV (rs.take i) V = false := hno
        unfold hasV at h2 ⊢
        rw [List.take_succ_eq_append_getElem (by omega), List.any_append, h2, hr]
        simp
      have hall : Hid (r.l = V → hasV rs V = true) := fun h => by
        unfold hasV
        rw [List.any_eq_true]
        exact ⟨r, hr ▸ List.getElem_mem _, by simpa using h⟩
      clear hr hnl hcs hea
      by_cases he : r.l = V
      · have e1 : decide (r.l = V) = true := by simp [he]
        rw [e1] at hqi
        have hret : Hid (hasV rs V = true) := hall.out he
        clear hstep hall he e1 hno
        go_wp2_with fail
        refine hqi.mono ?_
        rintro e w1 ⟨rfl, rfl⟩
        go_wp2
        go_ret
        exact ⟨by rw [show hasV rs V = true from hret]; rfl, rfl⟩
      · have e1 : decide (r.l = V) = false := by simp [he]
        rw [e1] at hqi
        have hst2 : Hid (hasV (rs.take (i + 1)) V = false) := by
          show _ = _
          rw [show hasV (rs.take (i + 1)) V = _ from hstep, e1]
        clear hstep hall he e1 hno
        go_wp2_with fail
        refine hqi.mono ?_
        rintro e w1 ⟨rfl, rfl⟩
        go_wp2
        go_roundw
        case rel => exact ⟨i + 1, by simp, by omega, by first | rfl | trivial, hst2⟩
        case measure => simp [intOf]; omega
    · obtain rfl : i = n := by omega
      have hfin : Hid (hasV rs V = false) := by
        show _ = _
        have h2 : hasV (rs.take i) V = false := hno
        rw [show i = rs.length from HN, List.take_length] at h2
        exact h2
      clear hno
      go_wp2
      go_ret
      exact ⟨by rw [show hasV rs V = false from hfin]; rfl, rfl⟩
end Go.Proofs.YbulkdnmcFmt
