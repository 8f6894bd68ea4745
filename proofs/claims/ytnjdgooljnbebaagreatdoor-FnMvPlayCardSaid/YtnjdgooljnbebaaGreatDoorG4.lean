/- The first move that leaves the own king out of check (standardMoves with first = true). -/
import Derived.Test.YtnjdgooljnbebaaGreatDoorGk
import Derived.Test.YtnjdgooljnbebaaGreatDoorGe
namespace Go.Proofs.YtnjdgooljnbebaaGreatDoor
open Go Go.RowKit
set_option maxHeartbeats 8000000
set_option linter.unusedSimpArgs false
set_option linter.unusedVariables false
set_option maxRecDepth 100000

theorem and_sq (x : BitVec 64) (s : Nat) (hs : s < 64) : (x &&& sqBit s == 0#64) = !occ x s := by
  cases ho : occ x s with
  | true =>
    have h : x &&& sqBit s ≠ 0#64 := (and_ne _ _).2 ⟨s, hs, ho, by rw [occ_sq _ _ hs hs]; simp⟩
    simpa using h
  | false =>
    have h : ¬ x &&& sqBit s ≠ 0#64 := fun hh => by
      obtain ⟨j, hj, h1, h2⟩ := (and_ne _ _).1 hh
      rw [occ_sq _ _ hs hj] at h2
      have : j = s := by simpa using h2
      rw [this, ho] at h1
      cases h1
    simpa using h
theorem zero_sq (x : BitVec 64) (h : x = 0#64) (s : Nat) : occ x s = false := by
  rw [h]
  simp [occ]
theorem below_cells {B b : Nat} : ∀ (vs : List Value) (o : Nat) (w0 w : World), Below B w0 w → B ≤ b → Below B w0 (w.setCells b o vs)
  | [], _, _, _, h, _ => h
  | v :: r, o, w0, w, h, hb => below_cells r (o + 1) w0 _ (h.setCell (p := ⟨b, o, none⟩) hb v) hb
theorem size_cells {b : Nat} : ∀ (vs : List Value) (o : Nat) (w : World), (w.setCells b o vs).heap.size = w.heap.size
  | [], _, _ => rfl
  | v :: r, o, w => (size_cells r (o + 1) _).trans (by simp)
theorem heap_cells {b g : Nat} (hg : g ≠ b) : ∀ (vs : List Value) (o : Nat) (w : World), (w.setCells b o vs).heap[g]? = w.heap[g]?
  | [], _, _ => rfl
  | v :: r, o, w => (heap_cells hg r (o + 1) _).trans (heap_setCell_other _ _ _ _ (by simpa using hg))
/-- Many cells are stored at a place of a block: behind it the world is a letter. -/
theorem at_store_mid {P : Program} {ops : Array Oper} {rest : List Oper} {a : Act} {w : World} {Q : Exit → Act → World → Prop} {d : Option Tmp} {x y : Operand} {ty tt : TypeId} {ps : String} {af : Array Edge} (b o : Nat) (cs : Array Value)
    (ht : w.there b o cs.size) (hi : (P.info? tt).map (·.size) = some cs.size) (h1 : cs.all (·.oneCell') = true) (hx : a.eval x = .pointer (some ⟨b, o, none⟩)) (hy : a.eval y = .agg cs)
    (h : ∀ W : World, Shut (W.rangeAt b o cs.toList) → Shut (W.heap.size = w.heap.size) → Shut (∀ B w0, B ≤ b → Below B w0 w → Below B w0 W) → Shut (∀ g, g ≠ b → W.heap[g]? = w.heap[g]?) → Shut (∀ o' n, w.there b o' n → W.there b o' n) → Shut (∀ o' cs', o' + cs'.length ≤ o ∨ o + cs.size ≤ o' → w.rangeAt b o' cs' → W.rangeAt b o' cs') → wpList P ops Q rest (a.put d undef) W) :
    wpList P ops Q ({ dst := d, op := .store tt x y, type := ty, pos := ps, after := af, guard := none } :: rest) a w :=
  wpList_store_mid rfl tt x y rfl b o cs hx hy ht hi h1 (h _ (World.rangeAt_setCells_same _ _ _ _ (by simpa using ht)) (size_cells _ _ _) (fun B w0 hB hb => below_cells _ _ _ _ hb hB) (fun g hg => heap_cells hg _ _ _) (fun o' n h => World.there_setCells h _ _ _) (fun o' cs' hh h => World.rangeAt_setCells_apart h _ _ _ (Or.inr (by simpa using hh))))
theorem at_load_mid {P : Program} {ops : Array Oper} {rest : List Oper} {a : Act} {w : World} {Q : Exit → Act → World → Prop} {d : Option Tmp} {x : Operand} {ty tt : TypeId} {ps : String} {af : Array Edge} {g o : Nat} (cs : Array Value) {de : TypeDesc}
    (hc : w.rangeAt g o cs.toList) (hu : P.underlying tt = some de) (hd : de.isRow = true) (hi : (P.info? tt).map (·.size) = some cs.size) (hx : a.eval x = .pointer (some ⟨g, o, none⟩))
    (h : wpList P ops Q rest (a.put d (.agg cs)) w) : wpList P ops Q ({ dst := d, op := .load tt x, type := ty, pos := ps, after := af, guard := none } :: rest) a w :=
  wpList_load_mid rfl tt x rfl g o hx cs.toList de hc hu hd (by simpa using hi) (by simpa using h)
theorem there_row {w : World} {g : Nat} {cs : Array Value} {t : TypeId} (h : w.heap[g]? = some (.cells cs t (0, 0))) : w.there g 0 cs.size := by
  intro j hj
  refine ⟨?_, frozen_of_row _ _ _ _ _ h⟩
  rw [Nat.zero_add, cell_of_row _ _ _ _ _ _ h, Array.getElem?_eq_getElem hj]
  rfl
theorem there_rowN {w : World} {g n : Nat} {cs : Array Value} {t : TypeId} (hn : cs.size = n) (h : w.heap[g]? = some (.cells cs t (0, 0))) : w.there g 0 n := by
  subst hn
  exact there_row h
theorem mvK_one (t a b pr : Int) : (mvK t a b pr).all (·.oneCell') = true := by simp [mvK, Value.oneCell']
theorem mvS_info (t : Int) (a b pr : Int) : (Tryz.prog.info? 73).map (·.size) = some (mvK t a b pr).size := show _ = some 11 by kernel_rfl
/-- The pieces of a promotion, in every later world. -/
theorem pr_cells {w0 : World} (hP : IntSl w0 1 .i8 [2, 3, 4, 5]) : ∃ q : Addr, q.spot = none ∧ ∀ V, Below w0.heap.size w0 V → V.cell? ⟨1, 0, none⟩ = some (.slice (some q) 4 4) ∧ ∀ k, k < 4 → V.cell? (q.add k) = some (.int .i8 ((k : Int) + 2)) := by
  obtain ⟨⟨q, hq, hqb, hc0, hci⟩, hlt⟩ := hP
  refine ⟨q, hq, fun V hV => ⟨?_, fun k hk => ?_⟩⟩
  · exact (hV.cell (p := ⟨1, 0, none⟩) hlt).trans hc0
  · have hck := hci k hk
    have e : [(2 : Int), 3, 4, 5].getD k 0 = (k : Int) + 2 := by
      rcases (show k = 0 ∨ k = 1 ∨ k = 2 ∨ k = 3 by omega) with rfl | rfl | rfl | rfl <;> rfl
    rw [e] at hck
    rw [add_at hq]
    exact (hV.cell (p := ⟨q.block, q.off + k, none⟩) hqb).trans hck
/-- The blocks of the walk: the array of moves, the move. -/
structure SmSt (w wr : World) : Prop where
  mv : ∃ z a b pr, MvAt (w.heap.size + 1) (tgN z) a b pr wr
  arr : wr.there w.heap.size 0 11
  bel : Below w.heap.size w wr
theorem SmSt.drewN {w wr : World} (h : SmSt w wr) (n : Nat) : SmSt w (wr.drewN n) := ⟨h.mv, h.arr, below_drewN h.bel n⟩
theorem SmSt.put {w wr : World} (h : SmSt w wr) {z : Tg} {a b pr : Int} (hm : MvAt (w.heap.size + 1) (tgN z) a b pr wr) (a' b' : Int) : MvAt (w.heap.size + 1) (tgN ⟨false, false, false, false, false, false⟩) a' b' pr (((wr.setCell ⟨w.heap.size + 1, 8, none⟩ (.int .i8 a')).setCell ⟨w.heap.size + 1, 9, none⟩ (.int .i8 b')).setCell ⟨w.heap.size + 1, 7, none⟩ (.int .u16 0)) ∧ SmSt w (((wr.setCell ⟨w.heap.size + 1, 8, none⟩ (.int .i8 a')).setCell ⟨w.heap.size + 1, 9, none⟩ (.int .i8 b')).setCell ⟨w.heap.size + 1, 7, none⟩ (.int .u16 0)) := by
  have h1 := heap_setCell_same wr (w.heap.size + 1) 8 _ _ (.int .i8 a') hm
  have h2 := heap_setCell_same _ (w.heap.size + 1) 9 _ _ (.int .i8 b') h1
  have h3 := heap_setCell_same _ (w.heap.size + 1) 7 _ _ (.int .u16 0) h2
  have hM : MvAt (w.heap.size + 1) (tgN ⟨false, false, false, false, false, false⟩) a' b' pr (((wr.setCell ⟨w.heap.size + 1, 8, none⟩ (.int .i8 a')).setCell ⟨w.heap.size + 1, 9, none⟩ (.int .i8 b')).setCell ⟨w.heap.size + 1, 7, none⟩ (.int .u16 0)) := h3
  refine ⟨hM, ⟨_, _, _, _, hM⟩, ?_, ((h.bel.setCell (p := ⟨w.heap.size + 1, 8, none⟩) (by simp) _).setCell (p := ⟨w.heap.size + 1, 9, none⟩) (by simp) _).setCell (p := ⟨w.heap.size + 1, 7, none⟩) (by simp) _⟩
  intro j hj
  have e1 : (((wr.setCell ⟨w.heap.size + 1, 8, none⟩ (.int .i8 a')).setCell ⟨w.heap.size + 1, 9, none⟩ (.int .i8 b')).setCell ⟨w.heap.size + 1, 7, none⟩ (.int .u16 0)).heap[w.heap.size]? = wr.heap[w.heap.size]? := (heap_setCell_other _ _ _ _ (by simp)).trans ((heap_setCell_other _ _ _ _ (by simp)).trans (heap_setCell_other _ _ _ _ (by simp)))
  have h := h.arr j hj
  unfold World.cell? World.frozen? at h ⊢
  rw [e1]
  exact h
theorem SmSt.prom {w wr : World} (h : SmSt w wr) {z : Tg} {a b pr : Int} (hm : MvAt (w.heap.size + 1) (tgN z) a b pr wr) (pr' : Int) : MvAt (w.heap.size + 1) (tgN z) a b pr' (wr.setCell ⟨w.heap.size + 1, 10, none⟩ (.int .i8 pr')) ∧ SmSt w (wr.setCell ⟨w.heap.size + 1, 10, none⟩ (.int .i8 pr')) := by
  have hM : MvAt (w.heap.size + 1) (tgN z) a b pr' (wr.setCell ⟨w.heap.size + 1, 10, none⟩ (.int .i8 pr')) := heap_setCell_same wr (w.heap.size + 1) 10 _ _ (.int .i8 pr') hm
  refine ⟨hM, ⟨_, _, _, _, hM⟩, ?_, h.bel.setCell (p := ⟨w.heap.size + 1, 10, none⟩) (by simp) _⟩
  intro j hj
  have e1 := heap_setCell_other wr ⟨w.heap.size + 1, 10, none⟩ w.heap.size (.int .i8 pr') (by simp)
  have h := h.arr j hj
  unfold World.cell? World.frozen? at h ⊢
  rw [e1]
  exact h
end Go.Proofs.YtnjdgooljnbebaaGreatDoor
