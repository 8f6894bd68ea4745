/- Integers as cells; the reference's words for squares: file, rank, the square of both, a piece of a kind and a side. -/
import Derived.Test.YtnpklkenjaambaaDoorKit
import Derived.LoopTactic
import Derived.Deep.LoopGhost
import Derived.OwnWalk
import Derived.Great.Walk
namespace Go.Proofs.YtnpklkenjaambaaDoor
open Go Go.RowKit
set_option maxHeartbeats 1000000
set_option linter.unusedSimpArgs false
set_option linter.unusedVariables false
set_option maxRecDepth 100000

/-- Integers as cells. -/
def ints (l : List Int) : Array Value := (l.map (Value.int .i64)).toArray
theorem ints_size (l : List Int) : (ints l).size = l.length := by simp [ints]
theorem ints_get (l : List Int) (i : Nat) (h : i < l.length) : (ints l)[i]? = some (.int .i64 (l.getD i 0)) := by simp [ints, h]

def kindOf (x : Int) : Int := if x > 6 then x - 6 else x
def sideOf (x : Int) : Int := if x > 6 then 1 else 0
def atSq (f r : Int) : Int := if f < 0 ∨ f > 7 ∨ r < 0 ∨ r > 7 then -1 else 8 * r + f

theorem new_cells (w : World) (l : List Int) (t : TypeId) (b : Nat) (hb : b = w.heap.size) : ∀ j u, (l.map (Value.int .i64))[j]? = some u → (w.alloc (.cells (ints l) t)).cell? ((⟨b, 0, none⟩ : Addr).add j) = some u := by
  subst hb
  intro j u h
  have e : (⟨w.heap.size, 0, none⟩ : Addr).add j = ⟨w.heap.size, j, none⟩ := by unfold Addr.add; split <;> simp_all
  rw [e, cell_of_row _ _ _ _ _ _ (heap_alloc_new w _)]
  simpa [ints] using h

theorem ints_set (l : List Int) (i : Nat) (z : Int) : (ints l).setIfInBounds i (.int .i64 z) = ints (l.set i z) := by
  unfold ints
  rw [List.map_set]
  simp
theorem ints_one (l : List Int) : (ints l).all (·.oneCell') = true := by
  rw [Array.all_eq_true_iff_forall_mem]
  intro x hx
  simp [ints] at hx
  obtain ⟨z, _, rfl⟩ := hx
  rfl

theorem below_setRow {B : Nat} {w w1 : World} (h : Below B w w1) {g : Nat} (hg : B ≤ g) (cs : Array Value) : Below B w (w1.setRow g cs) :=
  ⟨h.os, h.tape, h.output, by simp; exact h.size, fun i hi => (setRow_other w1 g i cs (by omega)).trans (h.block i hi)⟩
theorem row_cell {w : World} {g : Nat} {l : List Int} {t : TypeId} {fr : Nat × Nat} (hg : w.heap[g]? = some (.cells (ints l) t fr)) (i : Nat) (h : i < l.length) : w.cell? ⟨g, i, none⟩ = some (.int .i64 (l.getD i 0)) :=
  (cell_of_row _ _ _ _ _ _ hg).trans (ints_get _ _ h)
theorem row_set {w : World} {g : Nat} {l : List Int} {t : TypeId} (hg : w.heap[g]? = some (.cells (ints l) t (0, 0))) (i : Nat) (z : Int) : (w.setCell ⟨g, i, none⟩ (.int .i64 z)).heap[g]? = some (.cells (ints (l.set i z)) t (0, 0)) := by
  rw [heap_setCell_same w g i _ _ _ hg, ints_set]
end Go.Proofs.YtnpklkenjaambaaDoor
