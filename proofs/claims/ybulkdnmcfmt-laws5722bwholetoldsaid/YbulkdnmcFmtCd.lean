/- A code from a statement of hers on. -/
import Derived.Test.YbulkdnmcFmtAr
namespace Go.Proofs.YbulkdnmcFmt
open Go.RowKit
def cdr1 : Code → Code
  | .seq _ b => b
  | c => c
def cdrN : Nat → Code → Code
  | 0, c => c
  | n + 1, c => cdrN n (cdr1 c)
end Go.Proofs.YbulkdnmcFmt
