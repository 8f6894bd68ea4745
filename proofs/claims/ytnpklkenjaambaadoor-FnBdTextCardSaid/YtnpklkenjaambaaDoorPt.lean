/- A piece's kind and colour. For every piece. -/
import Derived.Test.YtnpklkenjaambaaDoorBo
namespace Go.Proofs.YtnpklkenjaambaaDoor
open Go Go.RowKit
set_option maxHeartbeats 1000000
set_option linter.unusedSimpArgs false
set_option linter.unusedVariables false
set_option maxRecDepth 100000
theorem lay {p : Prop} (h : p) : Shut p := h
theorem da_color (k : Nat) (h : k < 12) (w : World) :
    Calls Tryd.prog 67 #[.int .i8 ((k : Int) + 1)] w fun e w' => e = .returned (.int .i8 ((k : Int) / 6 + 1)) ∧ w = w' := by
  go_enter Tryd.func67, Tryd.ntmps67
  rcases twelve h with rfl | rfl | rfl | rfl | rfl | rfl | rfl | rfl | rfl | rfl | rfl | rfl
  all_goals (
    go_wp2
    go_ret
    exact ⟨rfl, rfl⟩)
theorem da_type (k : Nat) (h : k < 12) (w : World) :
    Calls Tryd.prog 66 #[.int .i8 ((k : Int) + 1)] w fun e w' => e = .returned (.int .i8 ((k : Int) % 6 + 1)) ∧ w = w' := by
  go_enter Tryd.func66, Tryd.ntmps66
  rcases twelve h with rfl | rfl | rfl | rfl | rfl | rfl | rfl | rfl | rfl | rfl | rfl | rfl
  all_goals (
    go_wp2
    go_ret
    exact ⟨rfl, rfl⟩)
end Go.Proofs.YtnpklkenjaambaaDoor
