/- Rows in drawn regions: a whole position is loaded in one step. -/
import Derived.Test.YtplkcmlpomjojaaDoorAp
import Derived.Test.YtplkcmlpomjojaaDoorPi
import Derived.Deep.MidRow
namespace Go.Proofs.YtplkcmlpomjojaaDoor
open Go Go.RowKit
theorem range_of_row {w : World} {g : Nat} {L : List Value} {t : TypeId} {fr : Nat × Nat} (h : w.heap[g]? = some (.cells L.toArray t fr)) : w.rangeAt g 0 L := fun j v hj => by
  rw [Nat.zero_add, cell_of_row w g j _ _ _ h]
  simpa using hj
theorem range_below {w w' : World} {g : Nat} {L : List Value} (hb : Below w.heap.size w w') (h : w.rangeAt g 0 L) (hg : g < w.heap.size) : w'.rangeAt g 0 L := fun j v hj => (hb.cell (p := ⟨g, 0 + j, none⟩) hg).trans (h j v hj)
/-- A position lies in block g. -/
def PosAt (p : List Int) (g : Nat) (w : World) : Prop := w.heap[g]? = some (.cells (ints p) 24 (0, 0))
theorem PosAt.range {p : List Int} {g : Nat} {w : World} (h : PosAt p g w) : w.rangeAt g 0 (p.map (Value.int .i64)) := range_of_row h
theorem PosAt.below {p : List Int} {g : Nat} {w w' : World} (h : PosAt p g w) (hb : Below w.heap.size w w') : PosAt p g w' := (hb.block g (Array.getElem?_eq_some_iff.1 h).1).trans h
theorem PosAt.cell {p : List Int} {g : Nat} {w : World} (h : PosAt p g w) (i : Nat) (hi : i < p.length) : w.cell? ⟨g, i, none⟩ = some (.int .i64 (p.getD i 0)) := row_cell h i hi
theorem PosAt.lt {p : List Int} {g : Nat} {w : World} (h : PosAt p g w) : g < w.heap.size := (Array.getElem?_eq_some_iff.1 h).1
theorem pos_info (p : List Int) (hl : p.length = 69) : (Tryd.prog.info? 24).map (·.size) = some (p.map (Value.int .i64)).length := by rw [List.length_map, hl]; kernel_rfl
end Go.Proofs.YtplkcmlpomjojaaDoor
