/- Small words that all walks of this seat use: what stays behind a call that makes memory. For every world. -/
import Derived.Test.YtnpklkenjaambaaDoorProg
import Derived.WalkKit
import Derived.Below
import Derived.Recover
import Derived.WalkLawsBesides
import Derived.WalkSpells
import Derived.Outline
import Derived.Deep.QuietTactic
import Derived.BigQuiet
import Derived.WideLaws
import Derived.RegionTactic
import Derived.BigRegion
import Derived.Deep.RegionWith
import Derived.Deep.RegionHeld3
import Derived.StillTailTactics
import Derived.Lib.Hide
import Derived.Laws.EntriesVeiled
namespace Go.Proofs.YtnpklkenjaambaaDoor
open Go.RowKit

section
variable (P : Program) (w : World) (a : Addr) (m : Mode)
@[go_sem] theorem kit_store_float (k : FloatKind) (b : Nat) : (store a (.float k b) m).run P w = stored P w a (.float k b) m := run_store P w a _ m rfl
end
/-- All cells and marks that were there read as before. -/
theorem bcell {W w1 : World} (hb : Below W.heap.size W w1) : (∀ b o, b < W.heap.size → w1.cell? ⟨b, o, none⟩ = W.cell? ⟨b, o, none⟩) ∧ (∀ b o, b < W.heap.size → w1.frozen? ⟨b, o, none⟩ = W.frozen? ⟨b, o, none⟩) :=
  ⟨fun b o h => hb.cell (p := ⟨b, o, none⟩) h, fun b o h => hb.frozen (p := ⟨b, o, none⟩) h⟩
theorem bstep {B : Nat} {w w1 w2 : World} (h : Below B w w1) (h2 : Below w1.heap.size w1 w2) (hB : B ≤ w1.heap.size) : Below B w w2 := h.trans (h2.mono hB)
theorem drewN_below (w : World) (n : Nat) : Below w.heap.size w (w.drewN n) := ⟨rfl, rfl, rfl, Nat.le_refl _, fun _ _ => rfl⟩
theorem makeFunc_run (P : Program) : ∀ (fn : Fn) (first cap : Array Value) (w : World), (Instr.makeFunc fn first cap).run P w = .ok (.func fn first cap) w := fun _ _ _ _ => rfl
theorem own_ge {w : World} {base : Nat} {e : TypeId} {size : Nat} {v : Value} {n : Nat} {xs : List Value} (h : w.ownsRow base e size v n xs) : ∀ k, v.ownBlock = some k → base ≤ k := by
  intro k hk
  obtain ⟨_, h⟩ := h
  rcases h with ⟨rfl, _⟩ | ⟨g, cap, cur, rfl, hb, _⟩
  · cases hk
  · cases hk; exact hb
theorem own_mono {w : World} {base base' : Nat} {e : TypeId} {size : Nat} {v : Value} {n : Nat} {xs : List Value} (h : w.ownsRow base e size v n xs) (hb : base' ≤ base) : w.ownsRow base' e size v n xs := by
  obtain ⟨h1, h2⟩ := h
  refine ⟨h1, ?_⟩
  rcases h2 with h2 | ⟨g, cap, cur, a, b, c⟩
  · exact Or.inl h2
  · exact Or.inr ⟨g, cap, cur, a, Nat.le_trans hb b, c⟩
/-- Two variables of the call's own, behind a call that left what was there. -/
theorem two_cells {w w1 : World} {x y : Value} {tx ty : TypeId} (q : Below ((w.alloc (.cells #[x] tx)).alloc (.cells #[y] ty)).heap.size ((w.alloc (.cells #[x] tx)).alloc (.cells #[y] ty)) w1) :
    w1.cell? ⟨w.heap.size, 0, none⟩ = some x ∧ w1.cell? ⟨w.heap.size + 1, 0, none⟩ = some y ∧ w1.frozen? ⟨w.heap.size, 0, none⟩ = false ∧ w1.frozen? ⟨w.heap.size + 1, 0, none⟩ = false ∧ w.heap.size + 1 < w1.heap.size := by
  obtain ⟨hc, hf⟩ := bcell q
  have hz := q.size
  refine ⟨?_, ?_, ?_, ?_, by simp at hz; omega⟩
  · rw [hc _ _ (by simp; omega)]; simp [go_sem]
  · rw [hc _ _ (by simp)]; simp [go_sem]
  · rw [hf _ _ (by simp; omega)]; simp [go_sem]
  · rw [hf _ _ (by simp)]; simp [go_sem]
theorem two_below {w w1 : World} {o1 o2 : Obj} (q : Below ((w.alloc o1).alloc o2).heap.size ((w.alloc o1).alloc o2) w1) : Below w.heap.size w w1 :=
  (((Below.refl _ _).alloc (Nat.le_refl _) _).alloc (by simp) _).trans (q.mono (by simp; omega))
end Go.Proofs.YtnpklkenjaambaaDoor
