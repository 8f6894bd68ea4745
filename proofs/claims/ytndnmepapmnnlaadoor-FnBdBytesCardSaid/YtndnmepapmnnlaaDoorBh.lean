/- FnBdBytes: impl.BoardOf, of 96 bytes that are those of a board. For every board of pieces from 0 to 12. -/
import Derived.Test.YtndnmepapmnnlaaDoorBg
import Derived.Test.YtndnmepapmnnlaaDoorRo
namespace Go.Proofs.YtndnmepapmnnlaaDoor
open Go Go.RowKit
set_option maxHeartbeats 4000000
set_option linter.unusedSimpArgs false
set_option linter.unusedVariables false
set_option maxRecDepth 100000

theorem bh_idle (p q : Addr) (w : World) :
    CallsD Tryd.prog 34 #[.pointer (some p), .pointer (some q)] .returning w fun e u' w' => e = .returned (.tuple #[]) ∧ u' = .returning ∧ w = w' := by
  refine callsD_of_wpS Tryd.func34 rfl fun c₀ cs hu => ?_
  apply wpS_seq
  apply wpS_region
  simp [wpOpsS, go_sem, recoverD, hu, Tryd.ntmps34, Exit.thenS]
  refine wpS_cond (t := false) (by simp [Act.eval, Array.replicate]) ?_
  simp only [Bool.false_eq_true, if_false]
  refine wpS_of_wp (wp_skip ?_)
  cases c₀
  simp_all [bodyPostS, results, Tryd.results34]
/-- The call's own variables: two results, and an empty board. -/

def bhW (w : World) : World := ((w.alloc (.cells (ints (List.replicate 64 0)) 22)).alloc (.cells #[.bool false] 4)).alloc (.cells brd0 64)
theorem bhW_rows (w : World) : (bhW w).heap[w.heap.size]? = some (.cells (ints (List.replicate 64 0)) 22 (0, 0)) ∧ (bhW w).heap[w.heap.size + 1]? = some (.cells #[.bool false] 4 (0, 0)) ∧
    (bhW w).heap[w.heap.size + 1 + 1]? = some (.cells brd0 64 (0, 0)) ∧ Below w.heap.size w (bhW w) ∧ (bhW w).heap.size = w.heap.size + 3 := by
  refine ⟨heap_keep (heap_alloc2_old w _ _), heap_keep (heap_alloc2_new w _ _), heap_at _ _ _ (by simp), ?_, by simp [bhW]⟩
  exact (((Below.refl _ _).alloc (Nat.le_refl _) _).alloc (by simp) _).alloc (by simp; omega) _
theorem bh_impl (p : List Int) (hp : Brd p) (q cap : Nat) (hcap : 96 ≤ cap) (w : World) (hA : IntSl w 1 .i8 allL) (hby : Lies (bbF p) q w) :
    Calls Tryd.prog 16 #[.slice (some ⟨q, 0, none⟩) 96 cap] w fun e' w' => e' = .returned (.tuple #[.agg (ints p), .bool true]) ∧ Below w.heap.size w w' := by
  have hmf := makeFunc_run Tryd.prog
  obtain ⟨hr0, hr1, hr2, hBW, hsz⟩ := bhW_rows w
  have hql : q < w.heap.size := lt_of_cell (hby 0 (by omega) 0 (by omega))
  have hby1 : Lies (bbF p) q (bhW w) := fun k hk j hj => (hBW.cell (p := ⟨q, 8 * k + j, none⟩) hql).trans (hby k hk j hj)
  have hA0 := hA.below hBW
  go_enter_defers Tryd.func16, Tryd.ntmps16
  go_wp2_with fail
  change Calls _ _ _ (bhW w) _
  generalize bhW w = W at *
  refine (bg_read p _ _ _ _ _ _ rfl _ q cap W hr2 (by omega) hcap hby1).mono ?_
  rintro e1 w1 ⟨rfl, hg1, hM1⟩
  have hA1 : IntSl w1 1 .i8 allL := hA.below (hM1.2.2 _ _ (by omega) (by omega) hBW)
  have hB1 := hM1.2.2 _ _ (by omega) (by omega) hBW
  have r0 := (hM1.1 w.heap.size (by omega) (by omega)).trans hr0
  have r1 := (hM1.1 (w.heap.size + 1) (by omega) (by omega)).trans hr1
  have hs1 := hM1.2.1
  clear hr0 hr1 hr2 hBW hby1 hM1 hA0
  go_wp2_with fail
  refine (bq_plain p hp _ w1 hA1 hg1).mono ?_
  rintro e3 w3 ⟨rfl, hb3⟩
  have r0 := (hb3.block _ (by omega)).trans r0
  have r1 := (hb3.block _ (by omega)).trans r1
  have hBw := hB1.trans (hb3.mono (by omega))
  have c2 : (w3.setRow w.heap.size (ints p)).cell? ⟨w.heap.size + 1, 0, none⟩ = some (.bool false) := cell_of_row _ _ 0 _ _ _ ((setRow_other _ _ _ _ (by omega)).trans r1)
  have f2 := frozen_of_row (w3.setRow w.heap.size (ints p)) (w.heap.size + 1) 0 _ _ ((setRow_other _ _ _ _ (by omega)).trans r1)
  have hhid := show Shut _ from And.intro r0 (And.intro r1 hBw)
  clear hb3 hg1 hA1 hB1
  go_wp2_with ((with_reducible refine at_store_row (ints p) r0 ?_ ?_ ?_ ?_ ?_ ?_); (rw [ints_size, hp.len]; kernel_rfl); (rw [ints_size, ints_size, hp.len, List.length_replicate]); exact ints_one _; rfl; rfl)
  refine leaves_cons (f := 34) (args := #[.pointer (some ⟨w.heap.size, 0, none⟩), .pointer (some ⟨w.heap.size + 1, 0, none⟩)]) (by simp) (by simp [go_sem]) ?_
  refine (bh_idle _ _ _).mono ?_
  rintro e u' w'' ⟨rfl, rfl, rfl⟩
  obtain ⟨r1, r2, hBw⟩ := hhid.out
  have s2 := (setRow_other w3 w.heap.size (w.heap.size + 1) (ints p) (by omega)).trans r2
  have t2 := heap_setCell_same _ (w.heap.size + 1) 0 _ _ (.bool true) s2
  have t1 := (heap_setCell_other (w3.setRow w.heap.size (ints p)) ⟨w.heap.size + 1, 0, none⟩ w.heap.size (.bool true) (by simp)).trans (setRow_heap w3 w.heap.size (ints (List.replicate 64 0)) (ints p) _ _ r1)
  exact ⟨_, results_cell2 rfl _ _ w.heap.size 22 (ints p) (0, 0) _ _ rfl t1 Tryd.underlying22 rfl (by rw [ints_size, hp.len]; kernel_rfl) (w.heap.size + 1) (.bool true) rfl (cell_of_row _ _ 0 _ _ _ t2) Tryd.underlying4 rfl, rfl, (below_setRow hBw (by omega) _).setCell (p := ⟨w.heap.size + 1, 0, none⟩) (by first | (simp; done) | (simp; omega)) _⟩
end Go.Proofs.YtndnmepapmnnlaaDoor
