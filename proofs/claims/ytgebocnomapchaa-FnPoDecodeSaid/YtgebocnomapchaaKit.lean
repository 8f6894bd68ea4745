/- Small words that all walks of this seat use: what stays behind a call that makes memory. For every world. -/
import Derived.Test.YtgebocnomapchaaProg
import Derived.WalkKit
import Derived.Below
import Derived.Recover
import Derived.WalkLawsBesides
import Derived.WalkSpells
import Derived.Outline
import Derived.Lib.Hide
namespace Go.Proofs.Ytgebocnomapchaa
open Go.RowKit

/-- All cells and marks that were there read as before. -/
theorem bcell {W w1 : World} (hb : Below W.heap.size W w1) : (∀ b o, b < W.heap.size → w1.cell? ⟨b, o, none⟩ = W.cell? ⟨b, o, none⟩) ∧ (∀ b o, b < W.heap.size → w1.frozen? ⟨b, o, none⟩ = W.frozen? ⟨b, o, none⟩) :=
  ⟨fun b o h => hb.cell (p := ⟨b, o, none⟩) h, fun b o h => hb.frozen (p := ⟨b, o, none⟩) h⟩
theorem bstep {B : Nat} {w w1 w2 : World} (h : Below B w w1) (h2 : Below w1.heap.size w1 w2) (hB : B ≤ w1.heap.size) : Below B w w2 := h.trans (h2.mono hB)
theorem makeFunc_run (P : Program) : ∀ (fn : Fn) (first cap : Array Value) (w : World), (Instr.makeFunc fn first cap).run P w = .ok (.func fn first cap) w := fun _ _ _ _ => rfl
end Go.Proofs.Ytgebocnomapchaa
