/- FnMvBytes: impl.PosOf. For the bytes of a sound position with small numbers. -/
import Derived.Test.YtplkcmlpomjojaaGreatDoorUb
import Derived.Test.YtplkcmlpomjojaaGreatDoorRd
namespace Go.Proofs.YtplkcmlpomjojaaGreatDoor
open Go Go.RowKit
set_option maxHeartbeats 8000000
set_option linter.unusedSimpArgs false
set_option linter.unusedVariables false
set_option maxRecDepth 100000

theorem mo_idle (p q : Addr) (w : World) :
    CallsD Tryz.prog 38 #[.pointer (some p), .pointer (some q)] .returning w fun e u' w' => e = .returned (.tuple #[]) ∧ u' = .returning ∧ w = w' := by
  refine callsD_of_wpS Tryz.func38 rfl fun c₀ cs hu => ?_
  apply wpS_seq
  apply wpS_region
  simp [wpOpsS, go_sem, recoverD, hu, Tryz.ntmps38, Exit.thenS]
  refine wpS_cond (t := false) (by simp [Act.eval, Array.replicate]) ?_
  simp only [Bool.false_eq_true, if_false]
  refine wpS_of_wp (wp_skip ?_)
  cases c₀
  simp_all [bodyPostS, results, Tryz.results38]
def moW (w : World) : World := (w.alloc (.cells (ints pos0) 24)).alloc (.cells #[.bool false] 4)
theorem moW_rows (w : World) : PosAt pos0 w.heap.size (moW w) ∧ (moW w).heap[w.heap.size + 1]? = some (.cells #[.bool false] 4 (0, 0)) ∧ Below w.heap.size w (moW w) ∧ (moW w).heap.size = w.heap.size + 2 := by
  refine ⟨heap_alloc2_old w _ _, heap_alloc2_new w _ _, ?_, by simp [moW]⟩
  exact ((Below.refl _ _).alloc (Nat.le_refl _) _).alloc (by simp) _
theorem mo_impl (p : List Int) (tn : Nat) (hs : Sound p tn) (hh : p.getD 67 0 ≤ 255) (hf : p.getD 68 0 ≤ 10000) (w : World) (hT : Tabs w) (hA : IntSl w 1 .i8 allL) (q cap : Nat) (hcap : 101 ≤ cap) (hby : ∀ i, i < 101 → w.cell? ⟨q, i, none⟩ = (posBytes p tn)[i]?) (hql : q < w.heap.size) :
    Calls Tryz.prog 14 #[.slice (some ⟨q, 0, none⟩) 101 cap] w fun e w' => e = .returned (.tuple #[.agg (ints p), .bool true]) ∧ Below w.heap.size w w' := by
  have hl := hs.pos.len
  have hmf := makeFunc_run Tryz.prog
  obtain ⟨hr1, hr2, hBW, hsz⟩ := moW_rows w
  have hTW := hT.below hBW (Nat.le_refl _)
  have hAW := hA.below hBW
  have hbP : Below (moW w).heap.size (moW w) ((moW w).alloc (.cells (posR (.pointer none) ⟨#[]⟩ 0 0 0 0) 75)) := (Below.refl _ _).alloc (Nat.le_refl _) _
  have hpr : ((moW w).alloc (.cells (posR (.pointer none) ⟨#[]⟩ 0 0 0 0) 75)).heap[w.heap.size + 1 + 1]? = some (.cells (posR (.pointer none) ⟨#[]⟩ 0 0 0 0) 75 (0, 0)) := by
    have h := heap_alloc_new (moW w) (.cells (posR (.pointer none) ⟨#[]⟩ 0 0 0 0) 75)
    rw [hsz] at h
    exact h
  have hub := lay (ub_read p tn hs hh hf (moW w) hTW hAW (w.heap.size + 1 + 1) q cap _ hbP (by omega) (by omega) hcap hpr (fun i hi => (((hBW.trans (hbP.mono hBW.size)).cell (p := ⟨q, i, none⟩) hql)).trans (hby i hi)) (by simp; omega))
  have hpl := lay (fun (pg bg : Nat) (W : World) hE hA => pm_plain p tn hs pg bg W hE hA)
  have hAs := lay hAW
  have hr1s := lay hr1
  have hr2s := lay hr2
  have hBs := lay hBW
  clear hs hT hA hr1 hr2 hBW hTW hAW hbP hby hh hf hpr
  go_enter_defers Tryz.func14, Tryz.ntmps14
  go_wp2_with fail
  change Calls _ _ _ ((moW w).alloc (.cells (posR (.pointer none) ⟨#[]⟩ 0 0 0 0) 75)) _
  generalize hW : moW w = W at *
  refine hub.out.mono ?_
  rintro e1 w1 ⟨rfl, ⟨bg, hE⟩, hb1⟩
  have hP2 := lay (hpl.out (w.heap.size + 1 + 1) bg w1 hE (hAs.out.below hb1))
  have r1 := lay ((hb1.block w.heap.size (by omega)).trans hr1s.out)
  have r2 := lay ((hb1.block (w.heap.size + 1) (by omega)).trans hr2s.out)
  have hB1 := lay (hBs.out.trans (hb1.mono hBs.out.size))
  have hsz1 := hb1.size
  clear hb1 hE hW hub
  go_wp2_with fail
  refine hP2.out.mono ?_
  rintro e2 w2 ⟨rfl, hb2⟩
  have q1 : w2.heap[w.heap.size]? = some (.cells (ints pos0) 24 (0, 0)) := (hb2.block w.heap.size (by omega)).trans r1.out
  have q2 := lay ((hb2.block (w.heap.size + 1) (by omega)).trans r2.out)
  have hB2 := lay (hB1.out.trans (hb2.mono hB1.out.size))
  clear hb2
  have s2 : (w2.setRow w.heap.size (ints p)).heap[w.heap.size + 1]? = some (.cells #[.bool false] 4 (0, 0)) := (setRow_other w2 w.heap.size (w.heap.size + 1) (ints p) (by omega)).trans q2.out
  have s1 : (w2.setRow w.heap.size (ints p)).heap[w.heap.size]? = some (.cells (ints p) 24 (0, 0)) := setRow_heap _ _ _ (ints p) _ _ q1
  have k0 : (w2.setRow w.heap.size (ints p)).cell? ⟨w.heap.size + 1, 0, none⟩ = some (.bool false) := cell_of_row _ _ 0 _ _ _ s2
  have k1 := frozen_of_row (w2.setRow w.heap.size (ints p)) (w.heap.size + 1) 0 _ _ s2
  have hB3 := lay (below_setRow' hB2.out (g := w.heap.size) (Nat.le_refl _) (ints p))
  have s1s := lay s1
  have s2s := lay s2
  have l0 : pos0.length = 69 := by simp [pos0]
  clear s1 s2
  go_wp2_with ((with_reducible refine at_store_row (ints p) q1 ?_ ?_ ?_ ?_ ?_ ?_); (rw [ints_size, hl]; kernel_rfl); (rw [ints_size, ints_size, hl, l0]); exact ints_one p; rfl; rfl)
  refine leaves_cons (f := 38) (args := #[.pointer (some ⟨w.heap.size, 0, none⟩), .pointer (some ⟨w.heap.size + 1, 0, none⟩)]) (by simp) (by simp [go_sem]) ?_
  refine (mo_idle _ _ _).mono ?_
  rintro e u' w'' ⟨rfl, rfl, rfl⟩
  have t1 : PosAt p w.heap.size ((w2.setRow w.heap.size (ints p)).setCell ⟨w.heap.size + 1, 0, none⟩ (.bool true)) := (heap_setCell_other _ _ _ _ (by show w.heap.size ≠ w.heap.size + 1; omega)).trans s1s.out
  have t2 : ((w2.setRow w.heap.size (ints p)).setCell ⟨w.heap.size + 1, 0, none⟩ (.bool true)).cell? ⟨w.heap.size + 1, 0, none⟩ = some (.bool true) := cell_of_row _ _ 0 _ _ _ (heap_setCell_same _ _ 0 _ _ (.bool true) s2s.out)
  exact ⟨_, rd_results rfl _ _ p hl w.heap.size (w.heap.size + 1) true rfl t1 rfl t2, rfl, hB3.out.setCell (p := ⟨w.heap.size + 1, 0, none⟩) (by show w.heap.size ≤ w.heap.size + 1; omega) _⟩
end Go.Proofs.YtplkcmlpomjojaaGreatDoor
