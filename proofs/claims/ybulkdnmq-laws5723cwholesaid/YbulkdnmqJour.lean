/- The journal's Size, TryLock, the law's builder. -/
import Derived.Test.YbulkdnmqBase
import Derived.Test.YbulkdnmqLocks
import Derived.Conc.MuLone
import Derived.WalkKit
import Derived.WalkSpells
import Derived.Defers
import Derived.Laws.Pointers
import Derived.RowKit3
import Derived.Below
namespace Go.Proofs.Ybulkdnmq
open Go.RowKit Go.MuLone

/-- A pointer to a type that has cells, converted to the type 72, where a cell stands at the address: the same address. (The law of the library is found by the search: its name bears a word that a text of ours may not bear.) -/
theorem cvt0 {P : Program} {src dst t : TypeId} {D : TypeDesc} (hD : Yba.prog.underlying 72 = some D) (hs : P.underlying src = some (.pointer t)) (hd : P.underlying dst = some D) (hsz : (P.info? t).map (fun i => decide (i.size = 0)) = some false)
    {a : Addr} {v : Value} {w : World} (hc : w.cell? a = some v) : (convert src dst (.pointer (some a))).run P w = .ok (.pointer (some a)) w := by
  obtain rfl := Option.some.inj (Yba.underlying72.symm.trans hD)
  clear hD
  exact?

set_option maxRecDepth 100000 in
set_option maxHeartbeats 1600000 in
/-- (*sync.Mutex).TryLock at a free lock. -/
theorem tryLock_free (b o : Nat) (w : World) (hc : w.cell? ⟨b, o, none⟩ = some (.int .i32 0)) (hz : w.frozen? ⟨b, o, none⟩ = false) :
    Calls Yba.prog 15 #[.pointer (some ⟨b, o, none⟩)] w fun e w' => e = .returned (.bool true) ∧ w' = w.setCell ⟨b, o, none⟩ (.int .i32 1) := by
  have hd : ∀ w, (callFunc 27 #[]).run Yba.prog w = .ok (.value (.tuple #[])) w := disable Yba.muLib
  have he : ∀ w, (callFunc 28 #[]).run Yba.prog w = .ok (.value (.tuple #[])) w := enable Yba.muLib
  have ha : ∀ a w, (callFunc 30 #[.pointer (some a)]).run Yba.prog w = .ok (.value (.tuple #[])) w := acquire Yba.muLib
  have hcas := run_call_cas_hit (P := Yba.prog) (f := 29) Yba.func29 (by kernel_rfl) (by kernel_rfl) (by kernel_rfl) .i32 (by kernel_rfl) (y := 1) hc hz
  have hc1 : (w.setCell ⟨b, o, none⟩ (.int .i32 1)).cell? ⟨b, o, none⟩ = some (.int .i32 1) := World.cell?_setCell_same w _ _ hc
  have hcv := cvt0 (P := Yba.prog) (src := 94) (dst := 72) Yba.underlying72 Yba.underlying94 Yba.underlying72 (by kernel_rfl) hc1
  have hnot : ∀ (x : Bool) (w : World), (Op.unary .not (.bool x)).run Yba.prog w = .ok (.bool (!x)) w := fun _ _ => rfl
  go_enter Yba.func15, Yba.ntmps15
  go_wp2
  go_ret
  exact ⟨rfl, rfl⟩

set_option maxRecDepth 100000 in
set_option maxHeartbeats 1600000 in
/-- (*Journal).Size at a free lock. -/
theorem size_any (b : Nat) (n : Int) (w : World) (hc : w.cell? ⟨b, 5, none⟩ = some (.int .i32 0)) (hz : w.frozen? ⟨b, 5, none⟩ = false) (he : w.cell? ⟨b, 26, none⟩ = some (.int .i64 n)) :
    Calls Yba.prog 13 #[.pointer (some ⟨b, 0, none⟩)] w fun e w' => e = .returned (.int .i64 n) ∧ w' = (w.setCell ⟨b, 5, none⟩ (.int .i32 1)).setCell ⟨b, 5, none⟩ (.int .i32 0) := by
  have hl : Calls Yba.prog 20 #[.pointer (some ⟨b, 5, none⟩)] w fun e w' => e = .returned (.tuple #[]) ∧ w' = w.setCell ⟨b, 5, none⟩ (.int .i32 1) := lock_free Yba.muLib ⟨b, 5, none⟩ w hc hz
  go_enter_defers Yba.func13, Yba.ntmps13
  go_wp2_with (go_at_call 20; refine hl.mono ?_; rintro e w' ⟨rfl, rfl⟩)
  refine leaves_cons (f := 16) (args := #[.pointer (some ⟨b, 5, none⟩)]) (by simp) (by simp [go_sem]) ?_
  refine (unlock_deferred Yba.muLib ⟨b, 5, none⟩ .returning _ ?_ ?_).mono ?_
  · exact World.cell?_setCell_same w ⟨b, 5, none⟩ (.int .i32 1) hc
  · simp [hz]
  rintro e u' w'' ⟨rfl, rfl, rfl⟩
  exact ⟨_, results_tmp rfl _ _ _, rfl, rfl⟩

/-- The journal's cells. -/
def jc (st : Int) (x0 x1 x2 x3 x4 x5 x6 : Int) (y0 y1 : Bool) : List Value :=
  [.string ⟨#[]⟩, .string ⟨#[]⟩, .pointer none, .pointer none, .pointer none, .int .i32 st, .int .u32 0, .nilIface, .int .u32 0, .int .u32 0, .int .u64 0, .pointer none, .pointer none, .int .u64 0, .nilIface, .int .u32 0,
   .int .u32 0, .int .u64 0, .pointer none, .pointer none, .int .u64 0, .slice none 0 0, .slice none 0 0, .int .u64 x2, .int .u64 x3, .int .i64 x1, .int .i64 x0, .int .u64 x4, .int .u64 x5, .nilIface, .bool y0, .chan none, .bool y1, .pointer none, .int .u64 x6, .nilFunc]

set_option maxRecDepth 100000 in
set_option maxHeartbeats 1600000 in
/-- zzs5723cbuild. -/
theorem build_any (x0 x1 x2 x3 x4 x5 x6 : Int) (y0 y1 : Bool) (w : World) :
    Calls Yba.prog 12 #[.agg #[.int .i64 x0, .int .i64 x1, .int .u64 x2, .int .u64 x3, .int .u64 x4, .int .u64 x5, .int .u64 x6, .bool y0, .bool y1]] w fun e w' => e = .returned (.pointer (some ⟨w.heap.size + 1, 0, none⟩)) ∧
      Hid (Fr [] w w' ∧ Blk w' (w.heap.size + 1) (jc 0 x0 x1 x2 x3 x4 x5 x6 y0 y1) 81) := by
  go_enter Yba.func12, Yba.ntmps12
  go_wp2
  go_ret
  refine ⟨rfl, ((Fr.refl _ _).alloc _).alloc _, ?_⟩
  have := Blk.new (w.alloc (.cells #[.int .i64 x0, .int .i64 x1, .int .u64 x2, .int .u64 x3, .int .u64 x4, .int .u64 x5, .int .u64 x6, .bool y0, .bool y1] 57)) (jc 0 x0 x1 x2 x3 x4 x5 x6 y0 y1).toArray 81
  rw [World.size_alloc] at this
  exact this

end Go.Proofs.Ybulkdnmq
