/- A square's bit, and whether a square is in a number: what they are. -/
import Derived.Test.YtnpklkenjaambaaDoorBv
namespace Go.Proofs.YtnpklkenjaambaaDoor
open Go Go.RowKit
set_option maxHeartbeats 1000000
set_option linter.unusedSimpArgs false
set_option linter.unusedVariables false
set_option maxRecDepth 100000

/-- The bit of a square: a1 the greatest. -/
def sqBit (s : Nat) : BitVec 64 := 1#64 <<< (63 - s)
/-- Whether a square is in a number. -/
def occ (x : BitVec 64) (s : Nat) : Bool := x.getLsbD (63 - s)

end Go.Proofs.YtnpklkenjaambaaDoor
