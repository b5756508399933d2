/- fmt.errorf (24), a plain stop, at the four formats of this road; fmt.Errorf (19). After the shape of the facts that the kit lays for its worked rows over fmt. -/
import Derived.Test.YbulkdnmcFmtSmall
import Derived.Stop.CallBack
import Derived.Stop.IfaceNil
import GoSem.ClaimData
namespace Go.Proofs.YbulkdnmcFmt
open Go.RowKit Go.Extern.Stop Go.Stop Go.Extern
set_option linter.unusedSimpArgs false
set_option linter.unusedVariables false

theorem call24 (args : Array Value) (w : World) : (callFunc 24 args).run Ybaf.prog w = ((FmtStop.errorf #[9, 104] #[94] args).run Ybaf.prog w).andThen fun v w' => .ok (.value v) w' :=
  run_callFunc_extern Ybaf.func24 (by kernel_rfl) (by kernel_rfl) (by kernel_rfl) (by kernel_rfl) args w
theorem guardF (name : String) (w : World) : (FmtStop.guard name).run Ybaf.prog w = .ok () w := by kernel_rfl
def fs0 : ByteArray := ⟨#[99, 104, 97, 105, 110, 32, 111, 102, 32, 37, 100, 32, 98, 121, 116, 101, 115, 32, 105, 115, 32, 115, 104, 111, 114, 116, 101, 114, 32, 116, 104, 97, 110, 32, 105, 116, 115, 32, 118, 97, 108, 117, 101, 32, 108, 101, 110, 103, 116, 104, 32, 102, 105, 101, 108, 100]⟩
theorem fmtp0 : FmtStop.printed? ⟨#[99, 104, 97, 105, 110, 32, 111, 102, 32, 37, 100, 32, 98, 121, 116, 101, 115, 32, 105, 115, 32, 115, 104, 111, 114, 116, 101, 114, 32, 116, 104, 97, 110, 32, 105, 116, 115, 32, 118, 97, 108, 117, 101, 32, 108, 101, 110, 103, 116, 104, 32, 102, 105, 101, 108, 100]⟩ 1 = some [(0, 100, false)] := by kernel_rfl
theorem fmtr0 (w : World) : (FmtDoors.printed ⟨#[99, 104, 97, 105, 110, 32, 111, 102, 32, 37, 100, 32, 98, 121, 116, 101, 115, 32, 105, 115, 32, 115, 104, 111, 114, 116, 101, 114, 32, 116, 104, 97, 110, 32, 105, 116, 115, 32, 118, 97, 108, 117, 101, 32, 108, 101, 110, 103, 116, 104, 32, 102, 105, 101, 108, 100]⟩ 1).run Ybaf.prog w = .ok [(0, 100, false)] w := by kernel_rfl
def fs1 : ByteArray := ⟨#[99, 104, 97, 105, 110, 32, 111, 102, 32, 37, 100, 32, 98, 121, 116, 101, 115, 32, 101, 110, 100, 115, 32, 105, 110, 115, 105, 100, 101, 32, 105, 116, 115, 32, 118, 97, 108, 117, 101, 32, 111, 114, 32, 115, 105, 103, 110, 97, 116, 117, 114, 101, 32, 99, 111, 117, 110, 116]⟩
theorem fmtp1 : FmtStop.printed? ⟨#[99, 104, 97, 105, 110, 32, 111, 102, 32, 37, 100, 32, 98, 121, 116, 101, 115, 32, 101, 110, 100, 115, 32, 105, 110, 115, 105, 100, 101, 32, 105, 116, 115, 32, 118, 97, 108, 117, 101, 32, 111, 114, 32, 115, 105, 103, 110, 97, 116, 117, 114, 101, 32, 99, 111, 117, 110, 116]⟩ 1 = some [(0, 100, false)] := by kernel_rfl
theorem fmtr1 (w : World) : (FmtDoors.printed ⟨#[99, 104, 97, 105, 110, 32, 111, 102, 32, 37, 100, 32, 98, 121, 116, 101, 115, 32, 101, 110, 100, 115, 32, 105, 110, 115, 105, 100, 101, 32, 105, 116, 115, 32, 118, 97, 108, 117, 101, 32, 111, 114, 32, 115, 105, 103, 110, 97, 116, 117, 114, 101, 32, 99, 111, 117, 110, 116]⟩ 1).run Ybaf.prog w = .ok [(0, 100, false)] w := by kernel_rfl
def fs2 : ByteArray := ⟨#[99, 104, 97, 105, 110, 32, 104, 97, 115, 32, 37, 100, 32, 98, 121, 116, 101, 115, 32, 102, 111, 114, 32, 37, 100, 32, 115, 105, 103, 110, 97, 116, 117, 114, 101, 115, 32, 111, 102, 32, 37, 100, 32, 98, 121, 116, 101, 115, 32, 101, 97, 99, 104]⟩
theorem fmtp2 : FmtStop.printed? ⟨#[99, 104, 97, 105, 110, 32, 104, 97, 115, 32, 37, 100, 32, 98, 121, 116, 101, 115, 32, 102, 111, 114, 32, 37, 100, 32, 115, 105, 103, 110, 97, 116, 117, 114, 101, 115, 32, 111, 102, 32, 37, 100, 32, 98, 121, 116, 101, 115, 32, 101, 97, 99, 104]⟩ 3 = some [(0, 100, false), (1, 100, false), (2, 100, false)] := by kernel_rfl
theorem fmtr2 (w : World) : (FmtDoors.printed ⟨#[99, 104, 97, 105, 110, 32, 104, 97, 115, 32, 37, 100, 32, 98, 121, 116, 101, 115, 32, 102, 111, 114, 32, 37, 100, 32, 115, 105, 103, 110, 97, 116, 117, 114, 101, 115, 32, 111, 102, 32, 37, 100, 32, 98, 121, 116, 101, 115, 32, 101, 97, 99, 104]⟩ 3).run Ybaf.prog w = .ok [(0, 100, false), (1, 100, false), (2, 100, false)] w := by kernel_rfl
def fs3 : ByteArray := ⟨#[37, 119, 32, 105, 115, 32, 37, 100, 32, 98, 121, 116, 101, 115, 58, 32, 105, 116, 32, 109, 117, 115, 116, 32, 98, 101, 32, 49, 32, 116, 111, 32, 37, 100, 32, 98, 121, 116, 101, 115]⟩
theorem fmtp3 : FmtStop.printed? ⟨#[37, 119, 32, 105, 115, 32, 37, 100, 32, 98, 121, 116, 101, 115, 58, 32, 105, 116, 32, 109, 117, 115, 116, 32, 98, 101, 32, 49, 32, 116, 111, 32, 37, 100, 32, 98, 121, 116, 101, 115]⟩ 3 = some [(0, 119, false), (1, 100, false), (2, 100, false)] := by kernel_rfl
theorem fmtr3 (w : World) : (FmtDoors.printed ⟨#[37, 119, 32, 105, 115, 32, 37, 100, 32, 98, 121, 116, 101, 115, 58, 32, 105, 116, 32, 109, 117, 115, 116, 32, 98, 101, 32, 49, 32, 116, 111, 32, 37, 100, 32, 98, 121, 116, 101, 115]⟩ 3).run Ybaf.prog w = .ok [(0, 119, false), (1, 100, false), (2, 100, false)] w := by kernel_rfl

def shape3 : List UInt8 := [5, 3, 0, 0, 0, 0, 0, 0, 0, 105, 110, 116]
theorem op3_100 (name : String) (x : Int) (w : World) : (FmtStop.operand name false 100 false (.iface 3 (.int .i64 x))).run Ybaf.prog w = .ok (shape3, Go.Extern.Stop.digits 8 (x % 2 ^ 64).toNat) w := by kernel_rfl
theorem op3_100w (name : String) (x : Int) (w : World) : (FmtStop.operand name true 100 false (.iface 3 (.int .i64 x))).run Ybaf.prog w = .ok (shape3, Go.Extern.Stop.digits 8 (x % 2 ^ 64).toNat) w := by kernel_rfl
theorem ptr107 (w : World) : (FmtStop.ptrTo "errors.errorString").run Ybaf.prog w = .ok 107 w := by kernel_rfl
theorem elem107 (w : World) : (elemOf 107).run Ybaf.prog w = .ok 109 w := by kernel_rfl
theorem ptr106 (w : World) : (FmtStop.ptrTo "fmt.wrapError").run Ybaf.prog w = .ok 106 w := by kernel_rfl
theorem elem106 (w : World) : (elemOf 106).run Ybaf.prog w = .ok 138 w := by kernel_rfl
theorem isError107 (w : World) : (FmtDoors.textMethod 107 "Error").run Ybaf.prog w = .ok true w := by kernel_rfl
attribute [local go_sem] call24 guardF fmtp0 fmtr0 fmtp1 fmtr1 fmtp2 fmtr2 fmtp3 fmtr3 op3_100 op3_100w ptr107 elem107 ptr106 elem106 isError107
theorem opPlain (name : String) (a : Addr) (s : ByteArray) (w : World) (hc : w.cell? a = some (.string s)) :
    ∃ r, (FmtStop.operand name true 119 false (.iface 107 (.pointer (some a)))).run Ybaf.prog w = .ok r w := by
  have h1 : (typeStr 107).run Ybaf.prog w = .ok Ybaf.t107.str w := by kernel_rfl
  have d2 : Ybaf.t107.desc = .pointer 109 := rfl
  have d3 : Ybaf.t109.desc = .named "errors.errorString" 108 := rfl
  simp [FmtStop.operand, h1, d2, d3, run_load, hc]

set_option maxRecDepth 100000 in
set_option maxHeartbeats 2000000 in
theorem errorf0 (F : Interp) (vb : Nat) (x : Int) (w : World) (hF : F.answers w.tape) (h0 : w.cell? ⟨vb, 0, none⟩ = some (.iface 3 (.int .i64 x))) :
    Calls Ybaf.prog 19 #[.string ⟨#[99, 104, 97, 105, 110, 32, 111, 102, 32, 37, 100, 32, 98, 121, 116, 101, 115, 32, 105, 115, 32, 115, 104, 111, 114, 116, 101, 114, 32, 116, 104, 97, 110, 32, 105, 116, 115, 32, 118, 97, 108, 117, 101, 32, 108, 101, 110, 103, 116, 104, 32, 102, 105, 101, 108, 100]⟩, .slice (some ⟨vb, 0, none⟩) 1 1] w fun e w' => ∃ p, e = .returned (.iface 107 (.pointer (some ⟨p, 0, none⟩))) ∧ Hid (Fr [] w w') := by
  have hF' := hF
  unfold Interp.answers at hF'
  go_enter Ybaf.func19, Ybaf.ntmps19
  go_wp2
  go_ret
  exact ⟨_, rfl, (((Fr.refl _ _).alloc _).drew)⟩

set_option maxRecDepth 100000 in
set_option maxHeartbeats 2000000 in
theorem errorf1 (F : Interp) (vb : Nat) (x : Int) (w : World) (hF : F.answers w.tape) (h0 : w.cell? ⟨vb, 0, none⟩ = some (.iface 3 (.int .i64 x))) :
    Calls Ybaf.prog 19 #[.string ⟨#[99, 104, 97, 105, 110, 32, 111, 102, 32, 37, 100, 32, 98, 121, 116, 101, 115, 32, 101, 110, 100, 115, 32, 105, 110, 115, 105, 100, 101, 32, 105, 116, 115, 32, 118, 97, 108, 117, 101, 32, 111, 114, 32, 115, 105, 103, 110, 97, 116, 117, 114, 101, 32, 99, 111, 117, 110, 116]⟩, .slice (some ⟨vb, 0, none⟩) 1 1] w fun e w' => ∃ p, e = .returned (.iface 107 (.pointer (some ⟨p, 0, none⟩))) ∧ Hid (Fr [] w w') := by
  have hF' := hF
  unfold Interp.answers at hF'
  go_enter Ybaf.func19, Ybaf.ntmps19
  go_wp2
  go_ret
  exact ⟨_, rfl, (((Fr.refl _ _).alloc _).drew)⟩

set_option maxRecDepth 100000 in
set_option maxHeartbeats 2000000 in
theorem errorf2 (F : Interp) (vb : Nat) (x y z : Int) (w : World) (hF : F.answers w.tape) (h0 : w.cell? ⟨vb, 0, none⟩ = some (.iface 3 (.int .i64 x))) (h1 : w.cell? ⟨vb, 1, none⟩ = some (.iface 3 (.int .i64 y))) (h2 : w.cell? ⟨vb, 2, none⟩ = some (.iface 3 (.int .i64 z))) :
    Calls Ybaf.prog 19 #[.string ⟨#[99, 104, 97, 105, 110, 32, 104, 97, 115, 32, 37, 100, 32, 98, 121, 116, 101, 115, 32, 102, 111, 114, 32, 37, 100, 32, 115, 105, 103, 110, 97, 116, 117, 114, 101, 115, 32, 111, 102, 32, 37, 100, 32, 98, 121, 116, 101, 115, 32, 101, 97, 99, 104]⟩, .slice (some ⟨vb, 0, none⟩) 3 3] w fun e w' => ∃ p, e = .returned (.iface 107 (.pointer (some ⟨p, 0, none⟩))) ∧ Hid (Fr [] w w') := by
  have hF' := hF
  unfold Interp.answers at hF'
  go_enter Ybaf.func19, Ybaf.ntmps19
  go_wp2
  go_ret
  exact ⟨_, rfl, (((Fr.refl _ _).alloc _).drew)⟩

set_option maxRecDepth 100000 in
set_option maxHeartbeats 2000000 in
theorem errorf3 (F : Interp) (vb : Nat) (aE : Addr) (s : ByteArray) (y z : Int) (w : World) (hF : F.answers w.tape) (h0 : w.cell? ⟨vb, 0, none⟩ = some (.iface 107 (.pointer (some aE)))) (hs : w.cell? aE = some (.string s)) (h1 : w.cell? ⟨vb, 1, none⟩ = some (.iface 3 (.int .i64 y))) (h2 : w.cell? ⟨vb, 2, none⟩ = some (.iface 3 (.int .i64 z))) :
    Calls Ybaf.prog 19 #[.string ⟨#[37, 119, 32, 105, 115, 32, 37, 100, 32, 98, 121, 116, 101, 115, 58, 32, 105, 116, 32, 109, 117, 115, 116, 32, 98, 101, 32, 49, 32, 116, 111, 32, 37, 100, 32, 98, 121, 116, 101, 115]⟩, .slice (some ⟨vb, 0, none⟩) 3 3] w fun e w' => ∃ p, e = .returned (.iface 106 (.pointer (some ⟨p, 0, none⟩))) ∧ Hid (Fr [] w w') := by
  have hF' := hF
  unfold Interp.answers at hF'
  obtain ⟨rd, hop⟩ := opPlain "fmt.errorf" aE s _ hs
  go_enter Ybaf.func19, Ybaf.ntmps19
  go_wp2
  go_ret
  exact ⟨_, rfl, (((Fr.refl _ _).alloc _).drew)⟩

/-- The sentinel. -/
def Sen (w : World) : Prop := ∃ (aE : Addr) (s : ByteArray), w.cell? ⟨1, 0, none⟩ = some (.iface 107 (.pointer (some aE))) ∧ w.cell? aE = some (.string s)
theorem Sen.fr {w w' : World} (h : Sen w) (hF : Fr [] w w') : Sen w' := by
  obtain ⟨aE, s, h1, h2⟩ := h
  exact ⟨aE, s, (hF.cell (World.block_lt_of_cell? w _ h1) (by simp)).trans h1, (hF.cell (World.block_lt_of_cell? w _ h2) (by simp)).trans h2⟩

theorem checkOk (a : Option Addr) (n c : Nat) (w : World) (h0 : 0 < n) (h1 : n ≤ 65536) :
    Calls Ybaf.prog 21 #[.slice a n c] w fun e w' => e = .returned .nilIface ∧ w' = w := by
  have e0 : ((n : Int) == 0) = false := by simp; omega
  have e1 : decide ((65536 : Int) < (n : Int)) = false := by simp; omega
  have e2 : ¬ n = 0 := by omega
  go_enter Ybaf.func21, Ybaf.ntmps21
  go_wp2
  go_ret
  exact ⟨rfl, rfl⟩

set_option maxRecDepth 100000 in
set_option maxHeartbeats 2000000 in
theorem checkBad (F : Interp) (a : Option Addr) (n c : Nat) (w : World) (hF : F.answers w.tape) (hS : Sen w) (h : n = 0 ∨ 65536 < n) :
    Calls Ybaf.prog 21 #[.slice a n c] w fun e w' => ∃ p, e = .returned (.iface 106 (.pointer (some ⟨p, 0, none⟩))) ∧ Hid (Fr [] w w') := by
  obtain ⟨aE, s, g1, g2⟩ := hS
  have l1 := World.block_lt_of_cell? w _ g1
  have l2 := World.block_lt_of_cell? w _ g2
  obtain ⟨X, hX⟩ : ∃ X, X = Obj.cells #[.iface 107 (.pointer (some aE)), .iface 3 (.int .i64 n), .iface 3 (.int .i64 65536)] 20 := ⟨_, rfl⟩
  have hF0 : Fr [] w (w.alloc X) := (Fr.refl _ _).alloc _
  have hb : Blk (w.alloc X) w.heap.size [.iface 107 (.pointer (some aE)), .iface 3 (.int .i64 n), .iface 3 (.int .i64 65536)] 20 := by rw [hX]; exact Blk.new _ _ _
  have g3 := (hF0.cell l2 (by simp)).trans g2
  have hE := errorf3 F w.heap.size aE s n 65536 (w.alloc X) hF (hb.cell 0 rfl) g3 (hb.cell 1 rfl) (hb.cell 2 rfl)
  rw [hX] at hE
  rcases h with h | h
  · subst h
    go_enter Ybaf.func21, Ybaf.ntmps21
    go_wp2_with fail
    refine hE.mono ?_
    rintro e w1 ⟨p, rfl, hF1⟩
    rw [← hX] at hF1
    clear hE hb hX g3
    go_wp2
    go_ret
    exact ⟨p, rfl, hF0.trans hF1⟩
  · have e0 : ((n : Int) == 0) = false := by simp; omega
    have e1 : decide ((65536 : Int) < (n : Int)) = true := by simp; omega
    have e2 : ¬ n = 0 := by omega
    go_enter Ybaf.func21, Ybaf.ntmps21
    go_wp2_with fail
    refine hE.mono ?_
    rintro e w1 ⟨p, rfl, hF1⟩
    rw [← hX] at hF1
    clear hE hb hX g3
    go_wp2
    go_ret
    exact ⟨p, rfl, hF0.trans hF1⟩
end Go.Proofs.YbulkdnmcFmt
