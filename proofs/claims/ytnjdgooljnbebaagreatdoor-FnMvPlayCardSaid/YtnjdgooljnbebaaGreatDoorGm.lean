/- CalcMoves where one move is asked for, and the status of a position. For every fair position.
FnMvStatus: impl.Status and the law. For every position. -/
import Derived.ArgAppend
import Derived.Test.YtnjdgooljnbebaaGreatDoorG5
import Derived.Test.YtnjdgooljnbebaaGreatDoorG6
import Derived.Test.YtnjdgooljnbebaaGreatDoorGl
namespace Go.Proofs.YtnjdgooljnbebaaGreatDoor
open Go Go.RowKit
set_option maxHeartbeats 8000000
set_option linter.unusedSimpArgs false
set_option linter.unusedVariables false
set_option maxRecDepth 100000

theorem wa_castle (p : List Int) (tn : Nat) (hF : Fair p tn) (pg bg : Nat) (v : Value) (half full : Int) (w : World)
    (hpg : w.heap[pg]? = some (.cells (posW bg (casText (p.getD 65 0)) v half full tn (p.getD 66 0) (checkedB p tn)) 103 (0, 0))) (hbg : w.heap[bg]? = some (.cells (brd p) 144 (0, 0))) (hT : Tabs w) (hA : IntSl w 0 .i8 allL) :
    Calls Tryz.prog 101 #[.pointer (some ⟨pg, 0, none⟩)] w fun e w' => Below w.heap.size w w' ∧ e = .returned (.slice (some ⟨w.heap.size, 0, none⟩) (castK p tn 0 ++ castK p tn 1).length 2) ∧ w'.rangeAt w.heap.size 0 (flat (castK p tn 0 ++ castK p tn 1)) := by
  have htn := hF.snd.one
  obtain rfl | rfl : tn = 0 ∨ tn = 1 := by omega
  · exact vk_castle0 p hF pg bg v half full w hpg hbg hT hA
  · exact vk_castle1 p hF pg bg v half full w hpg hbg hT hA
end Go.Proofs.YtnjdgooljnbebaaGreatDoor
namespace Go.Proofs.YtnjdgooljnbebaaGreatDoor
open Go Go.RowKit
set_option maxHeartbeats 4000000
set_option linter.unusedSimpArgs false
set_option linter.unusedVariables false
set_option maxRecDepth 100000

end Go.Proofs.YtnjdgooljnbebaaGreatDoor
