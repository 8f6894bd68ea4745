/- spec.before, spec.ordered: moves in an order: what comes out has the same moves. For every list of moves. -/
import Derived.Test.YtplkcmlpomjojaaDoorMd
import Derived.Test.YtplkcmlpomjojaaDoorAk
import Derived.Test.YtplkcmlpomjojaaDoorPa
namespace Go.Proofs.YtplkcmlpomjojaaDoor
open Go Go.RowKit
set_option maxHeartbeats 4000000
set_option linter.unusedSimpArgs false
set_option linter.unusedVariables false
set_option maxRecDepth 100000

def mvC (m : Mv) : List Value := [.int .i64 m.fr, .int .i64 m.to, .int .i64 m.pr]
def mvsC (l : List Mv) : List Value := l.flatMap mvC
abbrev ownMvs (w : World) (base : Nat) (v : Value) (l : List Mv) : Prop := w.ownsRow base 52 3 v l.length (mvsC l)
theorem mvsC_len : ∀ l : List Mv, (mvsC l).length = 3 * l.length
  | [] => rfl
  | m :: l => by
    have := mvsC_len l
    simp only [mvsC, List.flatMap_cons, List.length_append, List.length_cons] at this ⊢
    rw [this]
    simp [mvC]
    omega
theorem mvsC_get : ∀ (l : List Mv) (i : Nat) (j : Nat), i < l.length → j < 3 → (mvsC l)[3 * i + j]? = (mvC (l.getD i ⟨0, 0, 0⟩))[j]?
  | [], i, j, h, _ => by simp at h
  | m :: l, 0, j, _, hj => by
    simp only [mvsC, List.flatMap_cons, Nat.mul_zero, Nat.zero_add, List.getD_cons_zero]
    rw [List.getElem?_append_left (by simp [mvC]; omega)]
  | m :: l, i + 1, j, h, hj => by
    have ih := mvsC_get l i j (by simpa using h) hj
    simp only [mvsC, List.flatMap_cons, List.getD_cons_succ] at ih ⊢
    rw [List.getElem?_append_right (by simp [mvC]; omega)]
    have e : 3 * (i + 1) + j - (mvC m).length = 3 * i + j := by simp [mvC]; omega
    rw [e]
    exact ih
theorem mvsC_set : ∀ (l : List Mv) (i : Nat) (m : Mv), i < l.length → mvsC (l.set i m) = (((mvsC l).set (3 * i) (.int .i64 m.fr)).set (3 * i + 1) (.int .i64 m.to)).set (3 * i + 2) (.int .i64 m.pr)
  | [], i, m, h => by simp at h
  | a :: l, 0, m, _ => by simp [mvsC, mvC]
  | a :: l, i + 1, m, h => by
    have ih := mvsC_set l i m (by simpa using h)
    simp only [mvsC, List.flatMap_cons, List.set_cons_succ] at ih ⊢
    rw [ih]
    simp only [mvC, List.cons_append, List.nil_append, show 3 * (i + 1) = 3 * i + 1 + 1 + 1 by omega, show 3 * i + 1 + 1 + 1 + 1 = 3 * i + 1 + 1 + 1 + 1 from rfl, List.set_cons_succ, show 3 * i + 1 + 1 + 1 + 2 = 3 * i + 2 + 1 + 1 + 1 by omega]

def beforeB (a b : Mv) : Bool := if a.fr ≠ b.fr then decide (a.fr < b.fr) else if a.to ≠ b.to then decide (a.to < b.to) else decide (a.pr < b.pr)
theorem or_before (a b : Mv) (w : World) :
    Calls Tryd.prog 61 #[.agg (mvC a).toArray, .agg (mvC b).toArray] w fun e w' => e = .returned (.bool (beforeB a b)) ∧ Below w.heap.size w w' := by
  have hB : Below w.heap.size w ((w.alloc (.cells (mvC a).toArray 52)).alloc (.cells (mvC b).toArray 52)) := ((Below.refl _ _).alloc (Nat.le_refl _) _).alloc (by simp) _
  have hBs := show Shut _ from hB
  have hb : beforeB a b = if a.fr ≠ b.fr then decide (a.fr < b.fr) else if a.to ≠ b.to then decide (a.to < b.to) else decide (a.pr < b.pr) := rfl
  have hbs := show Shut _ from hb
  clear hB hb
  unfold mvC at *
  generalize a.fr = a0 at *
  generalize b.fr = b0 at *
  generalize a.to = a1 at *
  generalize b.to = b1 at *
  generalize a.pr = a2 at *
  generalize b.pr = b2 at *
  by_cases h1 : a0 = b0
  · have h1b : (a0 != b0) = false := by simpa using h1
    have h1s := show Shut _ from h1
    clear h1
    by_cases h2 : a1 = b1
    · have h2b : (a1 != b1) = false := by simpa using h2
      have h2s := show Shut _ from h2
      clear h2
      go_enter Tryd.func61, Tryd.ntmps61
      go_wp2_with fail
      go_ret
      exact ⟨by rw [hbs.out, if_neg (fun h => h h1s.out), if_neg (fun h => h h2s.out)]; rfl, hBs.out⟩
    · have h2b : (a1 != b1) = true := by simpa using h2
      have h2s := show Shut _ from h2
      clear h2
      go_enter Tryd.func61, Tryd.ntmps61
      go_wp2_with fail
      go_ret
      exact ⟨by rw [hbs.out, if_neg (fun h => h h1s.out), if_pos h2s.out]; rfl, hBs.out⟩
  · have h1b : (a0 != b0) = true := by simpa using h1
    have h1s := show Shut _ from h1
    clear h1
    go_enter Tryd.func61, Tryd.ntmps61
    go_wp2_with fail
    go_ret
    exact ⟨by rw [hbs.out, if_pos h1s.out]; rfl, hBs.out⟩

theorem mv_info : (Tryd.prog.info? 52).map (fun i => (i.zero, i.size, i.bytes)) = some (some (.agg #[.int .i64 0, .int .i64 0, .int .i64 0]), 3, 24) := by kernel_rfl
theorem mvsC_one (l : List Mv) : ∀ q ∈ mvsC l, q.oneCell' = true := by
  intro q hq
  simp only [mvsC, List.mem_flatMap, mvC] at hq
  obtain ⟨m, _, hq⟩ := hq
  simp at hq
  rcases hq with rfl | rfl | rfl <;> rfl
/-- A list of moves lies in block g. -/
def MvRow (g : Nat) (l : List Mv) (w : World) : Prop := ∃ cur, w.heap[g]? = some (.cells cur 52 (0, 0)) ∧ cur.toList.take (l.length * 3) = mvsC l
theorem MvRow.cell {g : Nat} {l : List Mv} {w : World} (h : MvRow g l w) (i j : Nat) (hi : i < l.length) (hj : j < 3) : w.cell? ⟨g, 3 * i + j, none⟩ = (mvC (l.getD i ⟨0, 0, 0⟩))[j]? := by
  obtain ⟨cur, hg, ht⟩ := h
  rw [cell_of_row _ _ _ _ _ _ hg, ← mvsC_get l i j hi hj, ← ht, List.getElem?_take, if_pos (by omega)]
  simp
theorem MvRow.below {g : Nat} {l : List Mv} {w w' : World} (h : MvRow g l w) (hb : Below w.heap.size w w') : MvRow g l w' := by
  obtain ⟨cur, hg, ht⟩ := h
  exact ⟨cur, (hb.block g (Array.getElem?_eq_some_iff.1 hg).1).trans hg, ht⟩
theorem MvRow.lt {g : Nat} {l : List Mv} {w : World} (h : MvRow g l w) : g < w.heap.size := by
  obtain ⟨cur, hg, _⟩ := h
  exact (Array.getElem?_eq_some_iff.1 hg).1
theorem MvRow.range {g : Nat} {l : List Mv} {w : World} (h : MvRow g l w) (i : Nat) (hi : i < l.length) : w.rangeAt g (3 * i) (mvC (l.getD i ⟨0, 0, 0⟩)) := fun j v hj => by
  have hj3 : j < 3 := by
    have := (List.getElem?_eq_some_iff.1 hj).1
    simpa [mvC] using this
  rw [h.cell i j hi hj3]
  exact hj
theorem MvRow.there {g : Nat} {l : List Mv} {w : World} (h : MvRow g l w) (i : Nat) (hi : i < l.length) : w.there g (3 * i) 3 := fun j hj => by
  refine ⟨?_, ?_⟩
  · rw [h.cell i j hi hj]
    have : j < (mvC (l.getD i ⟨0, 0, 0⟩)).length := by simpa [mvC] using hj
    rw [List.getElem?_eq_getElem this]
    rfl
  · obtain ⟨cur, hg, _⟩ := h
    exact frozen_of_row w g _ _ _ hg
theorem MvRow.set {g : Nat} {l : List Mv} {w : World} (h : MvRow g l w) (i : Nat) (hi : i < l.length) (m : Mv) : MvRow g (l.set i m) (w.setCells g (3 * i) (mvC m)) := by
  obtain ⟨cur, hg, ht⟩ := h
  have h1 := heap_setCell_same w g (3 * i) _ _ (.int .i64 m.fr) hg
  have h2 := heap_setCell_same _ g (3 * i + 1) _ _ (.int .i64 m.to) h1
  have h3 := heap_setCell_same _ g (3 * i + 1 + 1) _ _ (.int .i64 m.pr) h2
  refine ⟨_, h3, ?_⟩
  rw [List.length_set, mvsC_set l i m hi, ← ht]
  simp only [Array.toList_setIfInBounds]
  rw [List.take_set, List.take_set, List.take_set]
theorem setCells_other (w : World) (g k o : Nat) (m : Mv) (h : k ≠ g) : (w.setCells g o (mvC m)).heap[k]? = w.heap[k]? := by
  show (((w.setCell ⟨g, o, none⟩ _).setCell ⟨g, o + 1, none⟩ _).setCell ⟨g, o + 1 + 1, none⟩ _).heap[k]? = _
  rw [heap_setCell_other _ _ _ _ h, heap_setCell_other _ _ _ _ h, heap_setCell_other _ _ _ _ h]
theorem below_setCells {B : Nat} {a w : World} (h : Below B a w) (g o : Nat) (m : Mv) (hg : B ≤ g) : Below B a (w.setCells g o (mvC m)) :=
  ((h.setCell (p := ⟨g, o, none⟩) hg _).setCell (p := ⟨g, o + 1, none⟩) hg _).setCell (p := ⟨g, o + 1 + 1, none⟩) hg _
def swapL (l : List Mv) (k : Nat) : List Mv := (l.set k (l.getD (k - 1) ⟨0, 0, 0⟩)).set (k - 1) (l.getD k ⟨0, 0, 0⟩)
theorem swap_perm (l : List Mv) (k : Nat) (h0 : 0 < k) (h : k < l.length) : (swapL l k).Perm l := by
  have e1 : l.getD (k - 1) ⟨0, 0, 0⟩ = l[k - 1] := by simp [show k - 1 < l.length by omega]
  have e2 : l.getD k ⟨0, 0, 0⟩ = l[k] := by simp [h]
  unfold swapL
  rw [e1, e2]
  exact List.set_set_perm h (by omega)
end Go.Proofs.YtplkcmlpomjojaaDoor
