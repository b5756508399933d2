/-
  No cell of these rows narrows 'for every input' (looked for: loops, veiled, ifaces, maps, wideKeys, modest, calm, conditions, laid).
  DERIVED. THE GIVEN ROWS OF THIS SEAT. 2 by the template 'for every input the law returns true; each argument reads behind the call as it read before'; 0 by the template 'total and deterministic' (their statements: YbulkdnmqTotals.lean).
  GIVEN WITH THE SEED: the statements are not yours to turn. If you find one false, say at which input.
  Laid BY PROGRAM, IN A SANDBOX (cutbox-rows.mjs): the forced cells as the released guide's own fill.sh prints them over the translation 8dc7b6af2d723cfb… (all of the seat's roots in one cut). By AI agents, Wed Nov 11 2026. No macro, syntax, notation, axiom, sorry.
-/
import Derived.Test.YbulkdnmqChecked
import GoSem.Claim
import GoSem.ClaimJoined
import GoSem.ClaimMapViews
import Derived.JoinedTies
import Derived.KernelRfl
namespace Go.Proofs.Ybulkdnmq
/- THE CELL 'sum', in the pinned program and in every row, IS THE sha256 OF THE DUMP (.gsa) THAT YbulkdnmqProg.lean LOADS. Nothing in Lean hashes anything: it is a label: what it is worth is what the hold of that sum in a sandbox is worth. -/
noncomputable def Yba.pinned : Pinned := { name := "ybulkdnmq", sum := "8dc7b6af2d723cfb277d3bdcb2dd05c4b689fc6d810f348628fec802f1c646a7", checked := Yba.checked }
namespace Rows
def none {H : Type} : Left H := { results := [], args := [] }

/-- 'ledger.LawS5723AWhole': WHATEVER THE INPUT: true; the input reads as it did. -/
def lawS5723AWholeSpec : ChangeSpec := { name := "lawS5723AWhole", fn := fun _ => fun
  | [d1, d2, d3, d4, d5, d6, d7, d8, d9] => { results := [.lit (.bool true)], args := [d1, d2, d3, d4, d5, d6, d7, d8, d9] }
  | _ => none }
def lawS5723AWholeRow : OpenClaim := { program := "ybulkdnmq", sum := "8dc7b6af2d723cfb277d3bdcb2dd05c4b689fc6d810f348628fec802f1c646a7", func := "example.com/holdfast/holdfast/ledger.LawS5723AWhole", spec := "lawS5723AWhole", apart := false }
def LawS5723AWholeSaid : Prop := lawS5723AWholeRow.holds Yba.pinned (OpenSpec.ofChange lawS5723AWholeSpec)

/-- ITS FALSE NEIGHBOUR: 'it returns false'. Refute it at one input. -/
def lawS5723AWholeWrong : ChangeSpec := { name := "lawS5723AWhole", fn := fun _ => fun
  | [d1, d2, d3, d4, d5, d6, d7, d8, d9] => { results := [.lit (.bool false)], args := [d1, d2, d3, d4, d5, d6, d7, d8, d9] }
  | _ => none }
def LawS5723AWholeWrongFalsely : Prop := lawS5723AWholeRow.holds Yba.pinned (OpenSpec.ofChange lawS5723AWholeWrong)

/-- 'journal.LawS5723CWhole': WHATEVER THE INPUT: true; the input reads as it did. -/
def lawS5723CWholeSpec : ChangeSpec := { name := "lawS5723CWhole", fn := fun _ => fun
  | [d] => { results := [.lit (.bool true)], args := [d] }
  | _ => none }
def lawS5723CWholeRow : OpenClaim := { program := "ybulkdnmq", sum := "8dc7b6af2d723cfb277d3bdcb2dd05c4b689fc6d810f348628fec802f1c646a7", func := "example.com/holdfast/holdfast/journal.LawS5723CWhole", spec := "lawS5723CWhole", inPlace := ["(*internal/sync.Mutex).Lock", "internal/race.Disable", "sync/atomic.CompareAndSwapInt32", "internal/race.Enable", "internal/race.Acquire", "(*internal/sync.Mutex).lockSlow", "internal/sync.runtime_canSpin", "internal/sync.runtime_doSpin", "internal/sync.throw", "internal/sync.runtime_nanotime", "internal/sync.runtime_SemacquireMutex", "sync/atomic.AddInt32", "(*internal/sync.Mutex).Unlock", "internal/race.ReleaseMerge", "(*internal/sync.Mutex).unlockSlow", "internal/sync.fatal", "internal/sync.runtime_Semrelease", "(*internal/sync.Mutex).TryLock"], apart := false }
def LawS5723CWholeSaid : Prop := lawS5723CWholeRow.holds Yba.pinned (OpenSpec.ofChange lawS5723CWholeSpec)

/-- ITS FALSE NEIGHBOUR: 'it returns false'. Refute it at one input. -/
def lawS5723CWholeWrong : ChangeSpec := { name := "lawS5723CWhole", fn := fun _ => fun
  | [d] => { results := [.lit (.bool false)], args := [d] }
  | _ => none }
def LawS5723CWholeWrongFalsely : Prop := lawS5723CWholeRow.holds Yba.pinned (OpenSpec.ofChange lawS5723CWholeWrong)

end Rows
end Go.Proofs.Ybulkdnmq
