/- The engine's position made of its parts. -/
import Derived.Test.YtplkcmlpomjojaaDoorIc
namespace Go.Proofs.YtplkcmlpomjojaaDoor
open Go Go.RowKit
set_option maxHeartbeats 8000000
set_option linter.unusedSimpArgs false
set_option linter.unusedVariables false
set_option maxRecDepth 100000

/-- The cells of a position of the engine. -/
def posC (bg : Nat) (cas : ByteArray) (half full tn ep : Int) (chk : Bool) : Array Value :=
  #[.pointer (some ⟨bg, 0, none⟩), .string cas, .slice none 0 0, .int .i64 half, .int .i64 full, .int .i8 (tn + 1), .int .i8 ep, .bool chk]
theorem dp_position (p : List Int) (tn : Nat) (htn : tn ≤ 1) (bg : Nat) (w : World) (cas : ByteArray) (half full ep : Int) (hbd : w.heap[bg]? = some (.cells (brd p) 75 (0, 0))) (hT : Tabs w) (hA : IntSl w 6 .i8 allL) (k0 k1 : Nat) (hk0 : lastK p 1 64 = (k0 : Int)) (hk1 : lastK p 7 64 = (k1 : Int)) (h0 : k0 < 64) (h1 : k1 < 64) (cb : Bool) (hcb : engB p tn (if tn = 1 then k1 else k0) = cb) :
    Calls Tryd.prog 36 #[.pointer (some ⟨bg, 0, none⟩), .int .i8 ((tn : Int) + 1), .string cas, .int .i8 ep, .int .i64 half, .int .i64 full] w fun e w' => e = .returned (.pointer (some ⟨w.heap.size, 0, none⟩)) ∧ w'.heap[w.heap.size]? = some (.cells (posC bg cas half full tn ep cb) 62 (0, 0)) ∧ Below w.heap.size w w' := by
  have hcbS := show Shut _ from hcb
  go_enter Tryd.func36, Tryd.ntmps36
  go_wp2_with fail
  have hb : Below w.heap.size w (w.alloc (.cells (posC bg cas half full tn ep false) 62)) := (Below.refl _ _).alloc (Nat.le_refl _) _
  have hrow : (w.alloc (.cells (posC bg cas half full tn ep false) 62)).heap[w.heap.size]? = some (.cells (posC bg cas half full tn ep false) 62 (0, 0)) := heap_alloc_new w _
  have hE : EngAt p tn w.heap.size bg (w.alloc (.cells (posC bg cas half full tn ep false) 62)) :=
    ⟨(cell_of_row _ _ 0 _ _ _ hrow).trans rfl, (cell_of_row _ _ 5 _ _ _ hrow).trans rfl, (hb.block bg (Array.getElem?_eq_some_iff.1 hbd).1).trans hbd, hT.below hb (Nat.le_refl _), hA.below hb⟩
  have hic := ic_check p tn htn w.heap.size bg _ hE (by simp) k0 k1 hk0 hk1 h0 h1
  rw [hcb] at hic
  refine hic.mono ?_
  clear hic
  rintro e1 w1 ⟨rfl, hb1⟩
  have hr1 : w1.heap[w.heap.size]? = some (.cells (posC bg cas half full tn ep false) 62 (0, 0)) := (hb1.block w.heap.size (by simp)).trans hrow
  have hc1 : w1.cell? ⟨w.heap.size, 7, none⟩ = some (.bool false) := (cell_of_row _ _ 7 _ _ _ hr1).trans rfl
  have hf1 := frozen_of_row w1 w.heap.size 7 _ _ hr1
  have hbb := hb.trans (hb1.mono (by simp))
  go_wp2_with fail
  go_ret
  refine ⟨rfl, ?_, Below.setCell hbb (p := ⟨w.heap.size, 7, none⟩) (Nat.le_refl _) _⟩
  rw [heap_setCell_same w1 w.heap.size 7 _ _ _ hr1]
  rfl
end Go.Proofs.YtplkcmlpomjojaaDoor
