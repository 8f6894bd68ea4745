/- FnMvBytes: impl.PosBytes. For every sound position with small numbers. -/
import Derived.Test.YtplkcmlpomjojaaGreatDoorMb
import Derived.Test.YtplkcmlpomjojaaGreatDoorRd
namespace Go.Proofs.YtplkcmlpomjojaaGreatDoor
open Go Go.RowKit
set_option maxHeartbeats 8000000
set_option linter.unusedSimpArgs false
set_option linter.unusedVariables false
set_option maxRecDepth 100000

theorem mc_idle (p q : Addr) (w : World) :
    CallsD Tryz.prog 36 #[.pointer (some p), .pointer (some q)] .returning w fun e u' w' => e = .returned (.tuple #[]) ∧ u' = .returning ∧ w = w' := by
  refine callsD_of_wpS Tryz.func36 rfl fun c₀ cs hu => ?_
  apply wpS_seq
  apply wpS_region
  simp [wpOpsS, go_sem, recoverD, hu, Tryz.ntmps36, Exit.thenS]
  refine wpS_cond (t := false) (by simp [Act.eval, Array.replicate]) ?_
  simp only [Bool.false_eq_true, if_false]
  refine wpS_of_wp (wp_skip ?_)
  cases c₀
  simp_all [bodyPostS, results, Tryz.results36]
def mcW (w : World) (p : List Int) : World := ((w.alloc (.cells (ints p) 24)).alloc (.cells #[.slice none 0 0] 28)).alloc (.cells #[.bool false] 4)
theorem mcW_rows (w : World) (p : List Int) : (mcW w p).heap[w.heap.size]? = some (.cells (ints p) 24 (0, 0)) ∧ (mcW w p).heap[w.heap.size + 1]? = some (.cells #[.slice none 0 0] 28 (0, 0)) ∧
    (mcW w p).heap[w.heap.size + 1 + 1]? = some (.cells #[.bool false] 4 (0, 0)) ∧ Below w.heap.size w (mcW w p) ∧ (mcW w p).heap.size = w.heap.size + 3 := by
  refine ⟨heap_keep (heap_alloc2_old w _ _), heap_keep (heap_alloc2_new w _ _), heap_at _ _ _ (by simp), ?_, by simp [mcW]⟩
  exact (((Below.refl _ _).alloc (Nat.le_refl _) _).alloc (by simp) _).alloc (by simp; omega) _
theorem mc_impl (p : List Int) (tn : Nat) (hs : Sound p tn) (hh : p.getD 67 0 ≤ 255) (hf : p.getD 68 0 ≤ 10000) (w : World) (hT : Tabs w) (hA : IntSl w 1 .i8 allL) :
    Calls Tryz.prog 13 #[.agg (ints p)] w fun e' w' => ∃ v, e' = .returned (.tuple #[v, .bool true]) ∧ w'.ownsRow w.heap.size 5 1 v 101 (posBytes p tn) ∧ Below w.heap.size w w' := by
  have hl := hs.pos.len
  have hmf := makeFunc_run Tryz.prog
  obtain ⟨hr0, hr1, hr2, hBW, hsz⟩ := mcW_rows w p
  have hpz := lay (pz_position p tn hs (by omega) (by omega) (mcW w p) (hT.below hBW (Nat.le_refl _)) (hA.below hBW))
  have hmb := lay (fun (pg bg : Nat) (W : World) hE => mb_marshal p tn hs hh hf pg bg W hE)
  generalize posBytes p tn = PB at *
  clear hs hT hA hh hf
  go_enter_defers Tryz.func13, Tryz.ntmps13
  go_wp2_with ((with_reducible refine at_load_row hr0 Tryz.underlying24 rfl ?_ rfl ?_); (rw [ints_size, hl]; kernel_rfl))
  change Calls _ _ _ (mcW w p) _
  generalize mcW w p = W at *
  refine hpz.out.mono ?_
  rintro e1 w1 ⟨v0, rfl, pg, bg, rfl, hge, hE, hb1⟩
  have hmb1 := lay (hmb.out pg bg w1 hE.cells)
  clear hE hpz hmb
  go_wp2_with fail
  refine hmb1.out.mono ?_
  rintro e2 w2 ⟨v, rfl, hown, hb2⟩
  have hB2 : Below W.heap.size W w2 := hb1.trans (hb2.mono hb1.size)
  have r1 := (hB2.block (w.heap.size + 1) (by omega)).trans hr1
  have r2 := (hB2.block (w.heap.size + 1 + 1) (by omega)).trans hr2
  have hBw := hBW.trans (hB2.mono hBW.size)
  have hs1 := hb1.size
  obtain ⟨a, c, rfl, _⟩ := own_slice2 hown
  have c1 : w2.cell? ⟨w.heap.size + 1, 0, none⟩ = some (.slice none 0 0) := cell_of_row w2 _ 0 _ _ _ r1
  have f1 := frozen_of_row w2 (w.heap.size + 1) 0 _ _ r1
  have c2 : w2.cell? ⟨w.heap.size + 1 + 1, 0, none⟩ = some (.bool false) := cell_of_row w2 _ 0 _ _ _ r2
  have f2 := frozen_of_row w2 (w.heap.size + 1 + 1) 0 _ _ r2
  have hhid := show Shut _ from And.intro r1 (And.intro r2 (And.intro hBw hown))
  clear hr0 hr1 hr2 hb1 hb2 hmb1 r1 r2 hB2 hown hBw
  go_wp2_with fail
  refine wp_region_noPanic ?_
  go_region
  refine NoPanic.normal ?_
  go_wp2_with fail
  refine leaves_cons (f := 36) (args := #[.pointer (some ⟨w.heap.size + 1, 0, none⟩), .pointer (some ⟨w.heap.size + 1 + 1, 0, none⟩)]) (by simp) (by simp [go_sem]) ?_
  refine (mc_idle _ _ _).mono ?_
  rintro e u' w'' ⟨rfl, rfl, rfl⟩
  obtain ⟨r1, r2, hBw, hown⟩ := hhid.out
  have s1 := heap_setCell_same w2 (w.heap.size + 1) 0 _ _ (.slice a 101 c) r1
  have t1 := (heap_setCell_other w2 ⟨w.heap.size + 1, 0, none⟩ (w.heap.size + 1 + 1) (.slice a 101 c) (by simp)).trans r2
  have u1 := (heap_setCell_other _ ⟨w.heap.size + 1 + 1, 0, none⟩ (w.heap.size + 1) (.bool true) (by simp)).trans s1
  have u2 := heap_setCell_same _ (w.heap.size + 1 + 1) 0 _ _ (.bool true) t1
  have o1 := own_set2 hown ⟨w.heap.size + 1, 0, none⟩ (by show w.heap.size + 1 < w1.heap.size; omega) (.slice a 101 c)
  have o3 := own_set2 o1 ⟨w.heap.size + 1 + 1, 0, none⟩ (by show w.heap.size + 1 + 1 < w1.heap.size; omega) (.bool true)
  have z1 : (((w2.setCell ⟨w.heap.size + 1, 0, none⟩ (.slice a 101 c)).setCell ⟨w.heap.size + 1 + 1, 0, none⟩ (.bool true)).drew).cell? ⟨w.heap.size + 1, 0, none⟩ = some (.slice a 101 c) := cell_of_row (((w2.setCell ⟨w.heap.size + 1, 0, none⟩ (.slice a 101 c)).setCell ⟨w.heap.size + 1 + 1, 0, none⟩ (.bool true)).drew) _ 0 _ _ _ u1
  have z2 : (((w2.setCell ⟨w.heap.size + 1, 0, none⟩ (.slice a 101 c)).setCell ⟨w.heap.size + 1 + 1, 0, none⟩ (.bool true)).drew).cell? ⟨w.heap.size + 1 + 1, 0, none⟩ = some (.bool true) := cell_of_row (((w2.setCell ⟨w.heap.size + 1, 0, none⟩ (.slice a 101 c)).setCell ⟨w.heap.size + 1 + 1, 0, none⟩ (.bool true)).drew) _ 0 _ _ _ u2
  exact ⟨_, results_one2 rfl _ _ _ _ (w.heap.size + 1) (.slice a 101 c) rfl z1 Tryz.underlying28 rfl (w.heap.size + 1 + 1) (.bool true) rfl z2 Tryz.underlying4 rfl, _, rfl, own_mono o3 (by omega), ((hBw.setCell (p := ⟨w.heap.size + 1, 0, none⟩) (by simp) _).setCell (p := ⟨w.heap.size + 1 + 1, 0, none⟩) (by first | (simp; done) | (simp; omega)) _).drew⟩
end Go.Proofs.YtplkcmlpomjojaaGreatDoor
