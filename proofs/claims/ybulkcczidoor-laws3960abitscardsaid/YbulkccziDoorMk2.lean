import Derived.Test.YbulkccziDoorMk1
namespace Go.Proofs.YbulkccziDoor
open Go.RowKit
/-! A function's body, statement by statement: so that its proof may be cut into theorems. -/
def bodyOf (f : Func) : Code := f.body.getD .skip
def sndC : Code → Code
  | .seq _ b => b
  | c => c
def nthC : Nat → Code → Code
  | 0, c => c
  | k + 1, c => nthC k (sndC c)
end Go.Proofs.YbulkccziDoor
