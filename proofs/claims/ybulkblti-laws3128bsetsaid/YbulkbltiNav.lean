import Derived.Test.YbulkbltiSt2
namespace Go.Proofs.Ybulkblti
/-- The code behind the first n statements. -/
def dropC : Nat → Code → Code
  | n + 1, .seq _ b => dropC n b
  | _, c => c
def headC : Code → Code
  | .seq a _ => a
  | c => c
def tailC : Code → Code
  | .seq _ b => b
  | c => c
end Go.Proofs.Ybulkblti
