/- The walks of the law's own reader ((*zzs5721areader).Read, function 33) and of bufio's readErr (37). -/
import Derived.Test.YbulkdnloDoorBase
import Derived.Deep.RegionHeld3
import Derived.Deep.QuietTactic
import Derived.BigQuiet
namespace Go.Proofs.YbulkdnloDoor
open Go.RowKit

theorem drewN_drewN (w : World) (a b : Nat) : (w.drewN a).drewN b = w.drewN (a + b) := by
  simp [World.drewN, Nat.add_assoc]
theorem Addr.add_mid' (b o j : Nat) : (⟨b, o, none⟩ : Addr).add j = ⟨b, o + j, none⟩ := by unfold Addr.add; split <;> simp_all
theorem Ybad.size5 : (Ybad.prog.info? 5).map (·.size) = some 1 := by kernel_rfl

/-- The bytes as values. -/
def bv (zs : List Int) : List Value := zs.map (.int .u8 ·)
theorem bv_length (zs : List Int) : (bv zs).length = zs.length := by simp [bv]
theorem bv_one (zs : List Int) : ∀ v ∈ bv zs, v.oneCell' = true := by
  intro v hv; simp [bv] at hv; obtain ⟨z, _, rfl⟩ := hv; rfl
theorem bv_get {zs : List Int} {j : Nat} (h : j < zs.length) : (bv zs)[j]? = some (.int .u8 (zs.getD j 0)) := by
  simp [bv, List.getD, h]

/-- (*bufio.Reader).readErr: hands back the error that lies in the reader, and strikes it there. -/
theorem readErr_any (R : Nat) (er : Value) (w : World) (h4 : w.cell? ⟨R, 4, none⟩ = some er) (f4 : w.frozen? ⟨R, 4, none⟩ = false) :
    Calls Ybad.prog 37 #[.pointer (some ⟨R, 0, none⟩)] w fun e w' => e = .returned er ∧ w' = w.setCell ⟨R, 4, none⟩ .nilIface := by
  go_enter Ybad.func37, Ybad.ntmps37
  go_wp2
  go_ret
  exact ⟨rfl, rfl⟩

set_option maxHeartbeats 400000 in
/-- The source has no byte left: (0, end). -/
theorem src_end (S : Nat) (a0 : Option Addr) (len cap pos : Nat) (ch : Int) (en : Value) (p : Value) (w : World)
    (hS : Blk w S [.slice a0 len cap, .int .i64 pos, .int .i64 ch, en] 32) (hp : len ≤ pos) :
    Calls Ybad.prog 33 #[.pointer (some ⟨S, 0, none⟩), p] w fun e w' => e = .returned (.tuple #[.int .i64 0, en]) ∧ ∃ n, w' = w.drewN n := by
  have c0 := hS.cell 0 rfl
  have c1 := hS.cell 1 rfl
  have c3 := hS.cell 3 rfl
  have hd : decide ((len : Int) ≤ (pos : Int)) = true := by simp; omega
  go_enter Ybad.func33, Ybad.ntmps33
  go_wp2
  go_quiet (fail)
  go_wp2
  go_quiet (fail)
  go_wp2
  go_ret2
  exact ⟨rfl, _, drewN_drewN _ _ _⟩

set_option maxHeartbeats 1000000 in
/-- The source has bytes left: the next k of them are copied to the buffer's head. -/
theorem src_hit (S B db off : Nat) (len cap pos c : Nat) (en : Value) (bcs : List Value) (zs : List Int) (k : Nat) (w : World)
    (hS : Blk w S [.slice (some ⟨db, off, none⟩) len cap, .int .i64 pos, .int .i64 c, en] 32) (hp : pos < len) (hlen : len ≤ 1048576) (hcap : len ≤ cap)
    (hc1 : 1 ≤ c) (hc2 : c ≤ 13) (hk : k = min c (len - pos)) (hzs : zs.length = len) (hdat : ∀ i, i < len → w.cell? ⟨db, off + i, none⟩ = some (.int .u8 (zs.getD i 0)))
    (hB : Blk w B bcs 5) (hbl : bcs.length = 4096) (hSB : S ≠ B) :
    Calls Ybad.prog 33 #[.pointer (some ⟨S, 0, none⟩), .slice (some ⟨B, 0, none⟩) 4096 4096] w fun e w' => e = .returned (.tuple #[.int .i64 k, .nilIface]) ∧
      Fr [S, B] w w' ∧ Blk w' S [.slice (some ⟨db, off, none⟩) len cap, .int .i64 ((pos + k : Nat)), .int .i64 c, en] 32 ∧ Blk w' B (splice bcs 0 (bv ((zs.drop pos).take k))) 5 := by
  have c0 := hS.cell 0 rfl
  have c1 := hS.cell 1 rfl
  have c2 := hS.cell 2 rfl
  have f1 := hS.frozen 1
  have hd : decide ((len : Int) ≤ (pos : Int)) = false := by simp; omega
  have hd2 : decide ((4096 : Int) < (c : Int)) = false := by simp; omega
  have hcs : ∀ j v, (bv ((zs.drop pos).take k))[j]? = some v → w.cell? (⟨db, off + pos + j, none⟩ : Addr) = some v := by
    intro j v hv
    have hj : j < (bv ((zs.drop pos).take k)).length := (List.getElem?_eq_some_iff.1 hv).1
    rw [bv_length] at hj
    rw [bv_get hj] at hv
    simp at hj
    rw [Nat.add_assoc, hdat (pos + j) (by omega), ← hv]
    simp [List.getD, show j < k by omega]
  have hcl : (bv ((zs.drop pos).take k)).length = k := by simp [bv]; omega
  have hk1 : k ≤ 13 := by omega
  have hk2 : pos + k ≤ len := by omega
  have i1 : (0 : Int) ≤ (pos : Int) := by omega
  have i2 : (pos : Int) ≤ (pos : Int) + (k : Int) := by omega
  have i3 : (pos : Int) + (k : Int) ≤ (cap : Int) := by omega
  have hwr : IntKind.i64.wrap ((pos : Int) + (k : Int)) = (pos : Int) + (k : Int) := by rw [IntKind.wrap_i64]; omega
  have hh : (k = c ∧ c ≤ len - pos) ∨ ((len : Int) - (pos : Int) = k ∧ len - pos < c) := by omega
  have HK : Hid (k = min c (len - pos)) := hk
  clear hk
  obtain ⟨w1, HW⟩ : ∃ w1, Hid (w1 = w.setRow B (splice bcs 0 (bv ((zs.drop pos).take k))).toArray) := ⟨_, rfl⟩
  have hcp : ∀ n, Sem.run Ybad.prog (Builtin.copy_ #[22, 22] 3 #[.slice (some ⟨B, 0, none⟩) 4096 4096, .slice (some ⟨db, off + pos, none⟩) (((pos : Int) + (k : Int)).toNat - pos) (cap - pos)]) (w.drewN n) =
      .ok (.int .i64 k) (w1.drewN n) := by
    intro n
    have := run_copy_row (P := Ybad.prog) (w.drewN n) 22 22 3 5 B 0 4096 4096 ⟨db, off + pos, none⟩ (((pos : Int) + (k : Int)).toNat - pos) (cap - pos) bcs.toArray 5 (bv ((zs.drop pos).take k)) Ybad.underlying22 Ybad.size5 hB (by rw [hcl]; show k = min _ _; omega) (fun j v hv => by rw [Addr.add_mid']; exact hcs j v hv) (by rw [hcl]; simp; omega) (bv_one _)
    rw [this, hcl, HW.out]; simp [splice, goInt, hcl]; rfl
  have hS1 : Blk w1 S [.slice (some ⟨db, off, none⟩) len cap, .int .i64 pos, .int .i64 c, en] 32 := by rw [HW.out]; exact hS.setRow_ne hSB _
  have hB1 : Blk w1 B (splice bcs 0 (bv ((zs.drop pos).take k))) 5 := by rw [HW.out]; exact hB.setRow _
  have hF1 : Fr [S, B] w w1 := by rw [HW.out]; exact (Fr.refl _ _).setRow (by simp) _
  have d0 := hS1.cell 0 rfl
  have d1 := hS1.cell 1 rfl
  have g1 := hS1.frozen 1
  clear hdat hcs hcl
  rcases hh with ⟨hkc, h3⟩ | ⟨hkc, h3⟩
  · subst hkc
    have hd3 : decide ((len : Int) - (pos : Int) < (k : Int)) = false := by simp; omega
    go_enter Ybad.func33, Ybad.ntmps33
    go_wp2
    go_quiet (fail)
    go_wp2
    go_quiet (fail)
    go_wp2
    go_region_held3 (fun w' => w'.cell? ⟨S, 0, none⟩ = some (.slice (some ⟨db, off, none⟩) len cap) ∧ w'.cell? ⟨S, 1, none⟩ = some (.int .i64 pos)) (go_keep) (fail)
    go_wp2
    go_ret2
    exact ⟨rfl, (hF1.drewN _).setCell (by simp) _, ((hS1.drewN _).setCell 1 _).congr (by simp), (hB1.drewN _).setCell_ne (Ne.symm hSB) _⟩
  · have hd3 : decide ((k : Int) < (c : Int)) = true := by simp; omega
    go_enter Ybad.func33, Ybad.ntmps33
    go_wp2
    go_quiet (fail)
    go_wp2
    go_quiet (fail)
    go_wp2
    go_quiet (fail)
    go_wp2
    go_region_held3 (fun w' => w'.cell? ⟨S, 0, none⟩ = some (.slice (some ⟨db, off, none⟩) len cap) ∧ w'.cell? ⟨S, 1, none⟩ = some (.int .i64 pos)) (go_keep) (fail)
    go_wp2
    go_ret2
    exact ⟨rfl, (hF1.drewN _).setCell (by simp) _, ((hS1.drewN _).setCell 1 _).congr (by simp), (hB1.drewN _).setCell_ne (Ne.symm hSB) _⟩
end Go.Proofs.YbulkdnloDoor
