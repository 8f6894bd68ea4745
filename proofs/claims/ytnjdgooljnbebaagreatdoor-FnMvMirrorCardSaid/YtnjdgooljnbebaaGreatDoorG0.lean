/- One operation of a region is taken first: the premises that the kernel reckons stand last. For every region. -/
import Derived.OrdersHeld
import Derived.ProofKit
namespace Go.Proofs.YtnjdgooljnbebaaGreatDoor
open Go Go.RowKit
set_option linter.unusedVariables false

theorem takeA {P : Program} {ops : Array Oper} {Q : Exit → Act → World → Prop} {md : Region.Mode} {S : World → Prop} {i : Nat} {oi : Oper} {v : Value} {fuel : Nat} {listed : Array Bool} {a : Act} {w : World} (hi : ops[i]? = some oi)
    (hy : YieldsIf P ops S oi v a) (hS : S w) (h : wpAnyH P md ops Q S fuel (listed.setIfInBounds i true) (a.put oi.dst v) w)
    (hs : Region.noSelect ops = true := by kernel_rfl) (hf : Region.free md ops listed i = true := by kernel_rfl) (hr : (Region.ready md ops listed).contains i = true := by kernel_rfl)
    (hQ : ∀ c a w, Q (.panic c) (a.put oi.dst v) w → Q (.panic c) a w := by exact fun _ _ _ h => h) : wpAnyH P md ops Q S (fuel + 1) listed a w :=
  wpAnyH_take hi hs hf hr hQ hy hS h
theorem takeC {P : Program} {ops : Array Oper} {Q : Exit → Act → World → Prop} {md : Region.Mode} {S : World → Prop} {i : Nat} {oi : Oper} {v : Value} {fuel : Nat} {listed : Array Bool} {a : Act} {w : World} (hi : ops[i]? = some oi)
    (hS : S w) (h : wpAnyH P md ops Q S fuel (listed.setIfInBounds i true) (a.put oi.dst v) w) (hw : Region.wanted oi (yielded ops a.tmps) = true := by rfl)
    (hv : ∀ wq, S wq → (execOp a.eval oi).run P wq = .ok (.value v) wq := by (intro wq hSw; clear hSw; go_simp; try with_reducible rfl))
    (hs : Region.noSelect ops = true := by kernel_rfl) (hf : Region.free md ops listed i = true := by kernel_rfl) (hr : (Region.ready md ops listed).contains i = true := by kernel_rfl)
    (hQ : ∀ c a w, Q (.panic c) (a.put oi.dst v) w → Q (.panic c) a w := by exact fun _ _ _ h => h) : wpAnyH P md ops Q S (fuel + 1) listed a w :=
  wpAnyH_take hi hs hf hr hQ (.inl ⟨hw, hv⟩) hS h
end Go.Proofs.YtnjdgooljnbebaaGreatDoor
