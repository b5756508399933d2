/- zzs5723csame (function 14): the lexical order of its one great region serves every order: the kernel's looks, in six parts. -/
import Derived.Test.YbulkdnmqJour
import Derived.Deep.QuietTactic
import Derived.BigQuiet
namespace Go.Proofs.Ybulkdnmq
open Go.RowKit
def opsAt : Option Code → Array Oper
  | some (.seq _ (.seq (.region _ ops _) _)) => ops
  | _ => #[]
/-- The first m looks of 'Region.lexFrom'. -/
def lexSome (md : Region.Mode) (ops : Array Oper) : Nat → Nat → Array Bool → Bool
  | 0, _, _ => true
  | m + 1, k, listed => (Region.ready md ops listed).contains k && Region.free md ops listed k && lexSome md ops m (k + 1) (listed.setIfInBounds k true)
def listTo : Nat → Nat → Array Bool → Array Bool
  | 0, _, listed => listed
  | m + 1, k, listed => listTo m (k + 1) (listed.setIfInBounds k true)
theorem lexFrom_add (md : Region.Mode) (ops : Array Oper) (n : Nat) : ∀ (m k : Nat) (listed : Array Bool), lexSome md ops m k listed = true → Region.lexFrom md ops n (k + m) (listTo m k listed) = true → Region.lexFrom md ops (n + m) k listed = true
  | 0, k, listed, _, h => h
  | m + 1, k, listed, h1, h2 => by
    simp only [lexSome, Bool.and_eq_true] at h1
    show ((Region.ready md ops listed).contains k && Region.free md ops listed k && Region.lexFrom md ops (n + m) (k + 1) (listed.setIfInBounds k true)) = true
    rw [h1.1.1, h1.1.2]
    simp only [Bool.and_self, Bool.true_and]
    refine lexFrom_add md ops n m (k + 1) _ h1.2 ?_
    rw [show k + 1 + m = k + (m + 1) by omega]
    exact h2
def marks (m n : Nat) : Array Bool := (List.replicate m true ++ List.replicate n false).toArray
theorem lexC0 : lexSome .any (opsAt Yba.f14.body) 20 0 (marks 0 94) = true := by kernel_rfl
theorem lexC1 : lexSome .any (opsAt Yba.f14.body) 16 20 (marks 20 74) = true := by kernel_rfl
theorem lexC2 : lexSome .any (opsAt Yba.f14.body) 14 36 (marks 36 58) = true := by kernel_rfl
theorem lexC3 : lexSome .any (opsAt Yba.f14.body) 14 50 (marks 50 44) = true := by kernel_rfl
theorem lexC4 : lexSome .any (opsAt Yba.f14.body) 15 64 (marks 64 30) = true := by kernel_rfl
theorem lexC5 : lexSome .any (opsAt Yba.f14.body) 15 79 (marks 79 15) = true := by kernel_rfl
theorem lexEnd : Region.lexFrom .any (opsAt Yba.f14.body) 0 94 (marks 94 0) = true := by kernel_rfl
theorem toC0 : listTo 20 0 (marks 0 94) = marks 20 74 := by kernel_rfl
theorem toC1 : listTo 16 20 (marks 20 74) = marks 36 58 := by kernel_rfl
theorem toC2 : listTo 14 36 (marks 36 58) = marks 50 44 := by kernel_rfl
theorem toC3 : listTo 14 50 (marks 50 44) = marks 64 30 := by kernel_rfl
theorem toC4 : listTo 15 64 (marks 64 30) = marks 79 15 := by kernel_rfl
theorem toC5 : listTo 15 79 (marks 79 15) = marks 94 0 := by kernel_rfl
theorem lexF5 : Region.lexFrom .any (opsAt Yba.f14.body) 15 79 (marks 79 15) = true :=
  lexFrom_add .any (opsAt Yba.f14.body) 0 15 79 (marks 79 15) lexC5 (by rw [toC5]; exact lexEnd)
theorem lexF4 : Region.lexFrom .any (opsAt Yba.f14.body) 30 64 (marks 64 30) = true :=
  lexFrom_add .any (opsAt Yba.f14.body) 15 15 64 (marks 64 30) lexC4 (by rw [toC4]; exact lexF5)
theorem lexF3 : Region.lexFrom .any (opsAt Yba.f14.body) 44 50 (marks 50 44) = true :=
  lexFrom_add .any (opsAt Yba.f14.body) 30 14 50 (marks 50 44) lexC3 (by rw [toC3]; exact lexF4)
theorem lexF2 : Region.lexFrom .any (opsAt Yba.f14.body) 58 36 (marks 36 58) = true :=
  lexFrom_add .any (opsAt Yba.f14.body) 44 14 36 (marks 36 58) lexC2 (by rw [toC2]; exact lexF3)
theorem lexF1 : Region.lexFrom .any (opsAt Yba.f14.body) 74 20 (marks 20 74) = true :=
  lexFrom_add .any (opsAt Yba.f14.body) 58 16 20 (marks 20 74) lexC1 (by rw [toC1]; exact lexF2)
theorem lexF0 : Region.lexFrom .any (opsAt Yba.f14.body) 94 0 (marks 0 94) = true :=
  lexFrom_add .any (opsAt Yba.f14.body) 74 20 0 (marks 0 94) lexC0 (by rw [toC0]; exact lexF1)
theorem lex14 : Region.lexB .any (opsAt Yba.f14.body) = true := by
  have h1 : Region.noSelect (opsAt Yba.f14.body) = true := by kernel_rfl
  have h2 : (opsAt Yba.f14.body).size = 94 := by kernel_rfl
  have h3 : Array.replicate 94 false = marks 0 94 := by kernel_rfl
  rw [Region.lexB, h1, h2, h3, lexF0]; rfl
end Go.Proofs.Ybulkdnmq
