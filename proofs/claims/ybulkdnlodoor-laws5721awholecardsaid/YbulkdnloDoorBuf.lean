/- (*bufio.Reader).Read (function 34): bytes lie in the buffer; nothing is left. -/
import Derived.Test.YbulkdnloDoorSrc
namespace Go.Proofs.YbulkdnloDoor
open Go.RowKit
set_option linter.unusedSimpArgs false

set_option maxRecDepth 100000 in
set_option maxHeartbeats 2000000 in
/-- bytes lie in the buffer: k of them go to p. -/
theorem buf_hit (R B H : Nat) (rd : Value) (r ww : Nat) (lb ls : Int) (bcs hcs : List Value) (m o k j : Nat) (z : Int) (w : World)
    (hR : Blk w R [.slice (some ⟨B, 0, none⟩) 4096 4096, rd, .int .i64 r, .int .i64 ww, .nilIface, .int .i64 lb, .int .i64 ls] 56)
    (hB : Blk w B bcs 5) (hbl : bcs.length = 4096) (hH : Blk w H hcs 39) (hfit : o + m ≤ hcs.length)
    (hr : r < ww) (hw : ww ≤ 4096) (hm1 : 1 ≤ m) (hm2 : m ≤ 12) (hk : k = min (ww - r) m) (hj : r + k = j + 1) (hz : bcs[j]? = some (.int .u8 z)) (hone : ∀ v ∈ (bcs.drop r).take k, v.oneCell' = true)
    (hRB : R ≠ B) (hRH : R ≠ H) (hBH : B ≠ H) :
    Calls Ybad.prog 34 #[.pointer (some ⟨R, 0, none⟩), .slice (some ⟨H, o, none⟩) m m] w fun e w' => e = .returned (.tuple #[.int .i64 k, .nilIface]) ∧
      Fr [R, H] w w' ∧ (∃ lb' ls' : Int, Blk w' R [.slice (some ⟨B, 0, none⟩) 4096 4096, rd, .int .i64 ((r + k : Nat)), .int .i64 ww, .nilIface, .int .i64 lb', .int .i64 ls'] 56) ∧ Blk w' H (splice hcs o ((bcs.drop r).take k)) 39 := by
  have c0 := hR.cell 0 rfl
  have c2 := hR.cell 2 rfl
  have c3 := hR.cell 3 rfl
  have hcl : ((bcs.drop r).take k).length = k := by simp; omega
  have i1 : (0 : Int) ≤ (r : Int) := by omega
  have i2 : (r : Int) ≤ (ww : Int) := by omega
  have i3 : (ww : Int) ≤ (4096 : Int) := by omega
  have t1 : ((m : Int) == 0) = false := by simp; omega
  have t2 : ((r : Int) == (ww : Int)) = false := by simp; omega
  have hjj : (r : Int) + (k : Int) = (j : Int) + 1 := by omega
  have hj2 : (j : Int) < 4096 := by omega
  have hj0 : (0 : Int) ≤ (j : Int) := by omega
  have hwj : IntKind.i64.wrap (j : Int) = (j : Int) := by rw [IntKind.wrap_i64]; omega
  obtain ⟨w1, HW⟩ : ∃ w1, Hid (w1 = w.setRow H (splice hcs o ((bcs.drop r).take k)).toArray) := ⟨_, rfl⟩
  have hcp : ∀ n, Sem.run Ybad.prog (Builtin.copy_ #[22, 22] 3 #[.slice (some ⟨H, o, none⟩) m m, .slice (some ⟨B, r, none⟩) (ww - r) (4096 - r)]) (w.drewN n) =
      .ok (.int .i64 k) (w1.drewN n) := by
    intro n
    have := run_copy_row (P := Ybad.prog) (w.drewN n) 22 22 3 5 H o m m ⟨B, r, none⟩ (ww - r) (4096 - r) hcs.toArray 39 ((bcs.drop r).take k) Ybad.underlying22 Ybad.size5 hH (by rw [hcl]; exact hk) (fun j v hv => by
      rw [Addr.add_mid']
      have hj : j < ((bcs.drop r).take k).length := (List.getElem?_eq_some_iff.1 hv).1
      refine (hB.drewN n).cell _ ?_
      rw [hcl] at hj
      simpa [List.getElem?_take, hj] using hv) (by rw [hcl]; simp; omega) hone
    rw [this, hcl, HW.out]; simp [splice, goInt, hcl]; rfl
  have hR1 : Blk w1 R [.slice (some ⟨B, 0, none⟩) 4096 4096, rd, .int .i64 r, .int .i64 ww, .nilIface, .int .i64 lb, .int .i64 ls] 56 := by rw [HW.out]; exact hR.setRow_ne hRH _
  have hB1 : Blk w1 B bcs 5 := by rw [HW.out]; exact hB.setRow_ne hBH _
  have hH1 : Blk w1 H (splice hcs o ((bcs.drop r).take k)) 39 := by rw [HW.out]; exact hH.setRow _
  have hF1 : Fr [R, H] w w1 := by rw [HW.out]; exact (Fr.refl _ _).setRow (by simp) _
  have d0 := hR1.cell 0 rfl
  have d2 := hR1.cell 2 rfl
  have d3 := hR1.cell 3 rfl
  have d5 := hR1.cell 5 rfl
  have d6 := hR1.cell 6 rfl
  have g2 := hR1.frozen 2
  have g5 := hR1.frozen 5
  have g6 := hR1.frozen 6
  have e1 := hB1.cell j hz
  have hk1 : k ≤ 12 := by omega
  have HK : Hid (k = min (ww - r) m) := hk
  have HJ : Hid (r + k = j + 1) := hj
  have HL : Hid (bcs.length = 4096) := hbl
  clear hk hcl hj hbl hone
  go_enter Ybad.func34, Ybad.ntmps34
  go_wp2
  go_quiet (fail)
  go_wp2
  go_region_held3 (fun w' => w'.cell? ⟨R, 0, none⟩ = some (.slice (some ⟨B, 0, none⟩) 4096 4096) ∧ w'.cell? ⟨R, 2, none⟩ = some (.int .i64 r) ∧ w'.cell? ⟨R, 3, none⟩ = some (.int .i64 ww)) (go_keep) (fail)
  go_wp2
  go_region_held3 (fun w' => w'.cell? ⟨R, 0, none⟩ = some (.slice (some ⟨B, 0, none⟩) 4096 4096) ∧ w'.cell? ⟨R, 2, none⟩ = some (.int .i64 ((j : Int) + 1)) ∧ w'.cell? ⟨B, j, none⟩ = some (.int .u8 z)) (simp [*, go_sem]) (fail)
  go_wp2
  go_ret2
  exact ⟨rfl, ((((hF1.drewN _).setCell (by simp) _).setCell (by simp) _).setCell (by simp) _).drew,
    ⟨wrap64 z, -1, ((((hR1.drewN _).setCell 2 _).setCell 5 _).setCell 6 _).congr (by simp; have := HJ.out; omega)⟩,
    (((hH1.drewN _).setCell_ne (Ne.symm hRH) _).setCell_ne (Ne.symm hRH) _).setCell_ne (Ne.symm hRH) _⟩

theorem nil_ahead (a : Addr) (w : World) : (nilAhead 187 30 (.pointer (some a)) "Read").run Ybad.prog w = .ok (some false) w := by kernel_rfl
theorem method_read (a : Addr) (w : World) : (method 187 30 (.pointer (some a)) "Read").run Ybad.prog w = .ok (33, .pointer (some a)) w := by kernel_rfl

set_option maxRecDepth 100000 in
set_option maxHeartbeats 2000000 in
/-- the buffer is empty, and so is the source. -/
theorem buf_end (S R B H : Nat) (a0 : Option Addr) (len cap pos c : Nat) (ae : Addr) (r : Nat) (lb ls : Int) (m o : Nat) (w : World)
    (hS : Blk w S [.slice a0 len cap, .int .i64 pos, .int .i64 c, .iface 45 (.pointer (some ae))] 32) (hp : len ≤ pos)
    (hR : Blk w R [.slice (some ⟨B, 0, none⟩) 4096 4096, .iface 30 (.pointer (some ⟨S, 0, none⟩)), .int .i64 r, .int .i64 r, .nilIface, .int .i64 lb, .int .i64 ls] 56)
    (hm1 : 1 ≤ m) (hm2 : m ≤ 12) (hSR : S ≠ R) :
    Calls Ybad.prog 34 #[.pointer (some ⟨R, 0, none⟩), .slice (some ⟨H, o, none⟩) m m] w fun e w' => e = .returned (.tuple #[.int .i64 0, .iface 45 (.pointer (some ae))]) ∧
      Fr [R] w w' ∧ Blk w' R [.slice (some ⟨B, 0, none⟩) 4096 4096, .iface 30 (.pointer (some ⟨S, 0, none⟩)), .int .i64 0, .int .i64 0, .nilIface, .int .i64 lb, .int .i64 ls] 56 := by
  have c0 := hR.cell 0 rfl
  have c1 := hR.cell 1 rfl
  have c2 := hR.cell 2 rfl
  have c3 := hR.cell 3 rfl
  have c4 := hR.cell 4 rfl
  have f2 := hR.frozen 2
  have f3 := hR.frozen 3
  have f4 := hR.frozen 4
  have t1 : ((m : Int) == 0) = false := by simp; omega
  have t2 : ((r : Int) == (r : Int)) = true := by simp
  have t3 : decide ((4096 : Int) ≤ (m : Int)) = false := by simp; omega
  have hna := nil_ahead
  have hmr := method_read
  go_enter Ybad.func34, Ybad.ntmps34
  go_wp2
  go_quiet (fail)
  go_wp2
  go_region_held3 (fun w' => w'.cell? ⟨R, 0, none⟩ = some (.slice (some ⟨B, 0, none⟩) 4096 4096) ∧ w'.cell? ⟨R, 1, none⟩ = some (.iface 30 (.pointer (some ⟨S, 0, none⟩)))) (simp [*, go_sem])
    (first | (go_at_call 33; refine (src_end S a0 len cap pos c (.iface 45 (.pointer (some ae))) _ _ ?_ hp).mono ?_; (exact (((hS.drewN _).setCell_ne hSR _).setCell_ne hSR _)); rintro e w' ⟨rfl, nn, rfl⟩))
  go_wp2
  go_ret2
  refine ⟨rfl, ?_, ?_⟩
  · exact ((((((Fr.refl _ _).drewN _).setCell (by simp) _).setCell (by simp) _).drewN _).setCell (by simp) _).setCell (by simp) _
  · exact (((((((hR.drewN _).setCell 2 _).setCell 3 _).drewN _).setCell 4 _).setCell 4 _).congr (by simp))

/-- What lies in a block that is none of the own ones reads as it did. -/
theorem Fr.dat {own : List Nat} {w w' : World} (h : Fr own w w') {db off len : Nat} {f : Nat → Value} (hn : db ∉ own) (hd : ∀ i, i < len → w.cell? ⟨db, off + i, none⟩ = some (f i)) :
    ∀ i, i < len → w'.cell? ⟨db, off + i, none⟩ = some (f i) := fun i hi => by
  rw [h.cell (p := ⟨db, off + i, none⟩) (World.block_lt_of_cell? w _ (hd i hi)) hn]; exact hd i hi

/-- The world at hand, under a letter of its own. -/
theorem at_world {p : World → Prop} {W : World} (F : World → Prop) (hF : F W) (h : ∀ w2, F w2 → p w2) : p W := h W hF

end Go.Proofs.YbulkdnloDoor
