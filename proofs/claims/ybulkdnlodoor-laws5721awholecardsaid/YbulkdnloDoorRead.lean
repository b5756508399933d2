/- (*bufio.Reader).Read (function 34), all ways in one contract, over a state told by how many bytes have been handed out. -/
import Derived.Test.YbulkdnloDoorFill
namespace Go.Proofs.YbulkdnloDoor
open Go.RowKit
set_option linter.unusedSimpArgs false

/-- Where all lies, and what the source holds. -/
structure Cfg where
  S : Nat
  R : Nat
  B : Nat
  H : Nat
  db : Nat
  off : Nat
  len : Nat
  cap : Nat
  c : Nat
  a0 : Option Addr
  zs : List Int
  ae : Addr

structure Cfg.Ok (C : Cfg) : Prop where
  SR : C.S ≠ C.R
  SB : C.S ≠ C.B
  SH : C.S ≠ C.H
  RB : C.R ≠ C.B
  RH : C.R ≠ C.H
  BH : C.B ≠ C.H
  len_le : C.len ≤ 1048576
  cap_le : C.len ≤ C.cap
  c1 : 1 ≤ C.c
  c2 : C.c ≤ 13
  zlen : C.zs.length = C.len
  a0_eq : 0 < C.len → C.a0 = some ⟨C.db, C.off, none⟩
  db_ne : 0 < C.len → C.db ∉ [C.S, C.R, C.B, C.H]

def Cfg.own (C : Cfg) : List Nat := [C.S, C.R, C.B, C.H]

/-- The source's bytes. -/
def Cfg.Dat (C : Cfg) (w : World) : Prop := ∀ i, i < C.len → w.cell? ⟨C.db, C.off + i, none⟩ = some (.int .u8 (C.zs.getD i 0))

/-- q bytes have been handed out. -/
def Cfg.St (C : Cfg) (w : World) (q : Nat) : Prop := ∃ (pos r ww : Nat) (lb ls : Int) (bcs : List Value),
  Blk w C.S [.slice C.a0 C.len C.cap, .int .i64 pos, .int .i64 C.c, .iface 45 (.pointer (some C.ae))] 32 ∧
  Blk w C.R [.slice (some ⟨C.B, 0, none⟩) 4096 4096, .iface 30 (.pointer (some ⟨C.S, 0, none⟩)), .int .i64 r, .int .i64 ww, .nilIface, .int .i64 lb, .int .i64 ls] 56 ∧
  Blk w C.B bcs 5 ∧ bcs.length = 4096 ∧ r ≤ ww ∧ ww ≤ 4096 ∧ pos ≤ C.len ∧ q + (ww - r) = pos ∧ ∀ i, i < ww - r → bcs[r + i]? = some (.int .u8 (C.zs.getD (q + i) 0))

theorem Cfg.Dat.fr {C : Cfg} (ok : C.Ok) {w w' : World} (h : C.Dat w) (hF : Fr C.own w w') : C.Dat w' := by
  rcases Nat.eq_zero_or_pos C.len with h0 | h0
  · intro i hi; omega
  · exact hF.dat (ok.db_ne h0) h

theorem Cfg.St.fr {C : Cfg} {w w' : World} {q : Nat} (h : C.St w q) {own : List Nat} (hF : Fr own w w') (h1 : C.S ∉ own) (h2 : C.R ∉ own) (h3 : C.B ∉ own) : C.St w' q := by
  obtain ⟨pos, r, ww, lb, ls, bcs, a, b, c, rest⟩ := h
  exact ⟨pos, r, ww, lb, ls, bcs, hF.blk a h1, hF.blk b h2, hF.blk c h3, rest⟩

/-- The piece of the buffer that goes out is a piece of the source. -/
theorem piece {bcs : List Value} {zs : List Int} {r ww q k : Nat} (h : ∀ i, i < ww - r → bcs[r + i]? = some (.int .u8 (zs.getD (q + i) 0))) (hk : k ≤ ww - r) (hz : q + k ≤ zs.length) :
    (bcs.drop r).take k = bv ((zs.drop q).take k) := by
  apply List.ext_getElem?
  intro i
  by_cases hi : i < k
  · have h1 := h i (by omega)
    have hl : i < ((zs.drop q).take k).length := by simp; omega
    rw [bv_get hl, List.getElem?_take, if_pos hi, List.getElem?_drop, h1]
    simp [List.getD, hi]
  · rw [List.getElem?_take, if_neg hi, List.getElem?_eq_none]
    rw [bv_length]; simp; omega

theorem splice_length' {α : Type} (L : List α) (off : Nat) (cs : List α) (h : off + cs.length ≤ L.length) : (splice L off cs).length = L.length := length_splice L off cs h

theorem read_any (C : Cfg) (ok : C.Ok) (q : Nat) (hcs : List Value) (o m : Nat) (w : World) (hst : C.St w q) (hdat : C.Dat w) (hH : Blk w C.H hcs 39) (hfit : o + m ≤ hcs.length) (hm1 : 1 ≤ m) (hm2 : m ≤ 12) :
    Calls Ybad.prog 34 #[.pointer (some ⟨C.R, 0, none⟩), .slice (some ⟨C.H, o, none⟩) m m] w fun e w' => Fr C.own w w' ∧
      ((q = C.len ∧ e = .returned (.tuple #[.int .i64 0, .iface 45 (.pointer (some C.ae))]) ∧ C.St w' q ∧ Blk w' C.H hcs 39) ∨
       (∃ k : Nat, 1 ≤ k ∧ k ≤ m ∧ q + k ≤ C.len ∧ e = .returned (.tuple #[.int .i64 k, .nilIface]) ∧ C.St w' (q + k) ∧ Blk w' C.H (splice hcs o (bv ((C.zs.drop q).take k))) 39)) := by
  obtain ⟨pos, r, ww, lb, ls, bcs, hS, hR, hB, hbl, hrw, hw4, hpl, hq, hbuf⟩ := hst
  have hzl := ok.zlen
  by_cases h1 : r < ww
  · have hkk : min (ww - r) m = (min (ww - r) m - 1) + 1 := by omega
    have hpc := piece (k := min (ww - r) m) hbuf (Nat.min_le_left _ _) (by rw [hzl]; omega)
    refine (buf_hit C.R C.B C.H _ r ww lb ls bcs hcs m o (min (ww - r) m) (r + (min (ww - r) m - 1)) (C.zs.getD (q + (min (ww - r) m - 1)) 0) w hR hB hbl hH hfit h1 hw4 hm1 hm2 rfl (by omega) (hbuf _ (by omega)) (by rw [hpc]; exact bv_one _) ok.RB ok.RH ok.BH).mono ?_
    rintro e w' ⟨rfl, hF, ⟨lb', ls', hR'⟩, hH'⟩
    refine ⟨hF.mono (by simp [Cfg.own]), Or.inr ⟨min (ww - r) m, by omega, by omega, by omega, rfl, ?_, by rw [← hpc]; exact hH'⟩⟩
    refine ⟨pos, _, ww, lb', ls', bcs, hF.blk hS (by simp [ok.SR, ok.SH]), hR', hF.blk hB (by simp [Ne.symm ok.RB, ok.BH]), hbl, by omega, hw4, hpl, by omega, ?_⟩
    intro i hi
    have := hbuf (min (ww - r) m + i) (by omega)
    rw [show r + (min (ww - r) m + i) = r + min (ww - r) m + i by omega] at this
    rw [this, show q + (min (ww - r) m + i) = q + min (ww - r) m + i by omega]
  · have hrr : r = ww := by omega
    subst hrr
    by_cases h2 : pos < C.len
    · have ha0 := ok.a0_eq (by omega)
      have hdb := ok.db_ne (by omega)
      rw [ha0] at hS
      have hqp : q = pos := by omega
      subst hqp
      have hkk : min (min C.c (C.len - q)) m = (min (min C.c (C.len - q)) m - 1) + 1 := by have := ok.c1; omega
      refine (buf_fill C.S C.R C.B C.H C.db C.off C.len C.cap q C.c C.ae r lb ls bcs hcs C.zs m o (min C.c (C.len - q)) (min (min C.c (C.len - q)) m) (min (min C.c (C.len - q)) m - 1) w hS h2 ok.len_le ok.cap_le ok.c1 ok.c2 rfl hzl hdat hR hB hbl hH hfit hm1 hm2 rfl hkk ok.SR ok.SB ok.SH ok.RB ok.RH ok.BH (by intro h; exact hdb (by simp [h]))).mono ?_
      rintro e w' ⟨rfl, hF, hS', ⟨lb', ls', hR'⟩, hB', hH'⟩
      have hc2 := ok.c2
      refine ⟨hF, Or.inr ⟨min (min C.c (C.len - q)) m, by omega, by omega, by omega, rfl, ?_, hH'⟩⟩
      refine ⟨_, _, min C.c (C.len - q), lb', ls', _, by rw [ha0]; exact hS', hR', hB', ?_, by omega, by omega, by omega, by omega, ?_⟩
      · rw [length_splice _ _ _ (by rw [bv_length]; simp; omega)]; exact hbl
      · intro i hi
        have hl : min (min C.c (C.len - q)) m + i < ((C.zs.drop q).take (min C.c (C.len - q))).length := by simp; omega
        rw [splice, List.take_zero, List.nil_append, List.getElem?_append_left (by rw [bv_length]; exact hl), bv_get hl]
        simp only [List.getD, List.getElem?_take, List.getElem?_drop]
        rw [if_pos (by omega), Nat.add_assoc]
    · have hqp : q = C.len := by omega
      refine (buf_end C.S C.R C.B C.H C.a0 C.len C.cap pos C.c C.ae r lb ls m o w hS (by omega) hR hm1 hm2 ok.SR).mono ?_
      rintro e w' ⟨rfl, hF, hR'⟩
      refine ⟨hF.mono (by simp [Cfg.own]), Or.inl ⟨hqp, rfl, ?_, hF.blk hH (by simp [Ne.symm ok.RH])⟩⟩
      exact ⟨pos, 0, 0, lb, ls, bcs, hF.blk hS (by simp [ok.SR]), hR', hF.blk hB (by simp [Ne.symm ok.RB]), hbl, by omega, by omega, hpl, by omega, fun i hi => by omega⟩
end Go.Proofs.YbulkdnloDoor
