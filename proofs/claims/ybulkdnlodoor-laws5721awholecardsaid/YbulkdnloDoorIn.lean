/- What the two laws have in common. -/
import Derived.Test.YbulkdnloDoorNew
import Derived.Test.YbulkdnloDoorLawDec
namespace Go.Proofs.YbulkdnloDoor
open Go.RowKit
set_option linter.unusedSimpArgs false

/-- What a law over the source's bytes is told of the world that it enters. -/
structure In (w : World) (a0 : Option Addr) (len cap db off : Nat) (zs : List Int) (aE aU : Addr) : Prop where
  a0_eq : 0 < len → a0 = some ⟨db, off, none⟩
  zlen : zs.length = len
  cap_le : len ≤ cap
  dat : ∀ i, i < len → w.cell? ⟨db, off + i, none⟩ = some (.int .u8 (zs.getD i 0))
  zb : ∀ i, 0 ≤ zs.getD i 0 ∧ zs.getD i 0 < 256
  g0 : w.cell? ⟨0, 0, none⟩ = some (.iface 45 (.pointer (some aE)))
  g1 : w.cell? ⟨1, 0, none⟩ = some (.iface 45 (.pointer (some aU)))
  bE : ∃ cs t, Blk w aE.block cs t
  bU : ∃ cs t, Blk w aU.block cs t
  ne : aE ≠ aU

/-- The configuration of a law whose first own block is b0. -/
def cfg (b0 db off len cap c : Nat) (a0 : Option Addr) (zs : List Int) (ae : Addr) : Cfg := ⟨b0 + 1, b0 + 2, b0 + 3, b0 + 4, db, off, len, cap, c, a0, zs, ae⟩

theorem errNew_any (s : ByteArray) (w : World) :
    Calls Ybad.prog 6 #[.string s] w fun e w' => e = .returned (.iface 45 (.pointer (some ⟨w.heap.size, 0, none⟩))) ∧ w' = w.alloc (.cells #[.string s] 47) := by
  go_enter Ybad.func6, Ybad.ntmps6
  go_wp2
  go_ret
  exact ⟨rfl, rfl⟩

/-- All is laid: what the law has at hand ahead of its first call of next. -/
structure Laid (C : Cfg) (w W : World) (aE aU : Addr) (key off : Int) (kb : Bool) (bs : List Value) : Prop where
  ok : C.Ok
  fr : Below w.heap.size w W
  st : C.St W 0
  dat : C.Dat W
  sen : C.Sen W aE aU
  head : Blk W C.H (headCells C.R key off kb bs) 39

theorem laid_of {w : World} {a0 : Option Addr} {len cap db off : Nat} {zs : List Int} {aE aU : Addr} (hin : In w a0 len cap db off zs aE aU) (hlen : len ≤ 1048576) (c : Nat) (hc1 : 1 ≤ c) (hc2 : c ≤ 13)
    (wf : World) (sc : List Value) (st : TypeId) (hwf : Fr [] w wf) (b0 : Nat) (hb : w.heap.size ≤ b0) (hwb : Blk wf b0 sc st) (hb1 : wf.heap.size = b0 + 1) (ae : Addr) (hae : ae = ⟨b0, 0, none⟩ ∨ ae = aE) (w1 : World)
    (HN : Hid (Fr [] (wf.alloc (.cells #[.slice a0 len cap, .int .i64 0, .int .i64 c, .iface 45 (.pointer (some ae))] 32)) w1 ∧
      w1.heap.size = (wf.alloc (.cells #[.slice a0 len cap, .int .i64 0, .int .i64 c, .iface 45 (.pointer (some ae))] 32)).heap.size + 2 ∧
      Blk w1 (wf.alloc (.cells #[.slice a0 len cap, .int .i64 0, .int .i64 c, .iface 45 (.pointer (some ae))] 32)).heap.size
        [.slice (some ⟨(wf.alloc (.cells #[.slice a0 len cap, .int .i64 0, .int .i64 c, .iface 45 (.pointer (some ae))] 32)).heap.size + 1, 0, none⟩) 4096 4096, .iface 30 (.pointer (some ⟨b0 + 1, 0, none⟩)), .int .i64 0, .int .i64 0, .nilIface, .int .i64 (-1), .int .i64 (-1)] 56 ∧
      Blk w1 ((wf.alloc (.cells #[.slice a0 len cap, .int .i64 0, .int .i64 c, .iface 45 (.pointer (some ae))] 32)).heap.size + 1) zeroBuf.toList 5)) (key off' : Int) (kb : Bool) (bs : List Value) :
    Laid (cfg b0 db off len cap c a0 zs ae) w (w1.alloc (.cells (headCells (b0 + 2) key off' kb bs).toArray 39)) aE aU key off' kb bs := by
  obtain ⟨hF, hs, hR, hB⟩ := HN
  have e0 : (wf.alloc (.cells #[.slice a0 len cap, .int .i64 0, .int .i64 c, .iface 45 (.pointer (some ae))] 32)).heap.size = b0 + 2 := by simp [hb1]
  rw [e0] at hs hR hB
  have hFw : Fr [] w w1 := (hwf.alloc _).trans hF
  have hFW : Fr [] w (w1.alloc (.cells (headCells (b0 + 2) key off' kb bs).toArray 39)) := hFw.alloc _
  have l0 : 0 < w.heap.size := World.block_lt_of_cell? w _ hin.g0
  have l1 : 1 < w.heap.size := World.block_lt_of_cell? w _ hin.g1
  obtain ⟨cE, tE, bE⟩ := hin.bE
  obtain ⟨cU, tU, bU⟩ := hin.bU
  have lE := bE.lt
  have lU := bU.lt
  have hS : Blk w1 (b0 + 1) [.slice a0 len cap, .int .i64 0, .int .i64 c, .iface 45 (.pointer (some ae))] 32 := by
    have := Blk.new wf #[.slice a0 len cap, .int .i64 0, .int .i64 c, .iface 45 (.pointer (some ae))] 32
    rw [hb1] at this
    exact hF.blk this (by simp)
  have hA : ∃ cs t, Blk (w1.alloc (.cells (headCells (b0 + 2) key off' kb bs).toArray 39)) ae.block cs t := by
    rcases hae with rfl | rfl
    · exact ⟨sc, st, (hF.blk (hwb.alloc _) (by simp)).alloc _⟩
    · exact ⟨cE, tE, hFW.blk bE (by simp)⟩
  have nA : ae.block ≤ b0 := by
    rcases hae with rfl | rfl
    · exact Nat.le_refl _
    · omega
  have hdb : 0 < len → db < w.heap.size := fun h => World.block_lt_of_cell? w _ (hin.dat 0 h)
  refine ⟨⟨?_, ?_, ?_, ?_, ?_, ?_, hlen, hin.cap_le, hc1, hc2, hin.zlen, hin.a0_eq, ?_⟩, hFW.below (Nat.le_refl _) (by simp), ?_, ?_, ?_, ?_⟩
  · simp [cfg]
  · simp [cfg]
  · simp [cfg]
  · simp [cfg]
  · simp [cfg]
  · simp [cfg]
  · intro h; have := hdb h; simp [cfg]; omega
  · refine ⟨0, 0, 0, -1, -1, zeroBuf.toList, hS.alloc _, hR.alloc _, hB.alloc _, by simpa using zeroBuf_size, by omega, by omega, by omega, by omega, fun i hi => by omega⟩
  · exact hFW.dat (by simp) hin.dat
  · refine ⟨?_, ?_, ⟨cE, tE, hFW.blk bE (by simp)⟩, ⟨cU, tU, hFW.blk bU (by simp)⟩, hA, ?_, ?_, ?_, ?_, ?_⟩
    · rw [hFW.cell l0 (by simp)]; exact hin.g0
    · rw [hFW.cell l1 (by simp)]; exact hin.g1
    · simp [Cfg.own, cfg]
    · simp [Cfg.own, cfg]; omega
    · simp [Cfg.own, cfg]; omega
    · simp [Cfg.own, cfg]; omega
    · simp [Cfg.own, cfg]; omega
  · have := Blk.new w1 (headCells (b0 + 2) key off' kb bs).toArray 39
    rw [hs] at this
    exact this
end Go.Proofs.YbulkdnloDoor
