/- What is reckoned besides behind a move (Board.calcConvienceBBs): for every board and move. -/
import Derived.Deep.DeepCutAuto
import Derived.Test.YtnjdgooljnbebaaGreatDoorGj
namespace Go.Proofs.YtnjdgooljnbebaaGreatDoor
open Go Go.RowKit
set_option maxHeartbeats 8000000
set_option linter.unusedSimpArgs false
set_option linter.unusedVariables false
set_option maxRecDepth 100000

theorem vu_calc (q : List Int) (a b c : BitVec 64) (k0 k1 s1 s2 t pr : Int) (g mg : Nat) (w : World) (hg : w.heap[g]? = some (.cells (brdF (bbF q) (bbv a) (bbv b) (bbv c) (.int .i8 k0) (.int .i8 k1)) 144 (0, 0))) (hm : MvAt mg t s1 s2 pr w) (hne : mg ≠ g) :
    Calls Tryz.prog 111 #[.pointer (some ⟨g, 0, none⟩), .pointer (some ⟨mg, 0, none⟩)] w fun e' w' => e' = .returned (.tuple #[]) ∧ w'.heap[g]? = some (.cells (brdF (bbF q) (bbv (whiteB q)) (bbv (blackB q)) (bbv (~~~(whiteB q ||| blackB q))) (.int .i8 (if s1 = k0 then s2 else k0)) (.int .i8 (if s1 = k0 then k1 else if s1 = k1 then s2 else k1))) 144 (0, 0)) ∧ Only g w w' := by
  have c0 : w.cell? ⟨g, 0, none⟩ = some (bbv (bb q 1)) := cell_of_row w g 0 _ _ _ hg
  have c1 : w.cell? ⟨g, 1, none⟩ = some (bbv (bb q 2)) := cell_of_row w g 1 _ _ _ hg
  have c2 : w.cell? ⟨g, 2, none⟩ = some (bbv (bb q 3)) := cell_of_row w g 2 _ _ _ hg
  have c3 : w.cell? ⟨g, 3, none⟩ = some (bbv (bb q 4)) := cell_of_row w g 3 _ _ _ hg
  have c4 : w.cell? ⟨g, 4, none⟩ = some (bbv (bb q 5)) := cell_of_row w g 4 _ _ _ hg
  have c5 : w.cell? ⟨g, 5, none⟩ = some (bbv (bb q 6)) := cell_of_row w g 5 _ _ _ hg
  have c6 : w.cell? ⟨g, 6, none⟩ = some (bbv (bb q 7)) := cell_of_row w g 6 _ _ _ hg
  have c7 : w.cell? ⟨g, 7, none⟩ = some (bbv (bb q 8)) := cell_of_row w g 7 _ _ _ hg
  have c8 : w.cell? ⟨g, 8, none⟩ = some (bbv (bb q 9)) := cell_of_row w g 8 _ _ _ hg
  have c9 : w.cell? ⟨g, 9, none⟩ = some (bbv (bb q 10)) := cell_of_row w g 9 _ _ _ hg
  have c10 : w.cell? ⟨g, 10, none⟩ = some (bbv (bb q 11)) := cell_of_row w g 10 _ _ _ hg
  have c11 : w.cell? ⟨g, 11, none⟩ = some (bbv (bb q 12)) := cell_of_row w g 11 _ _ _ hg
  go_enter Tryz.func111, Tryz.ntmps111
  go_wp2_with fail
  go_quiet (fail)
  go_wp2_with fail
  go_quiet (fail)
  clear c0 c1 c2 c3 c4 c5 c6 c7 c8 c9 c10 c11
  generalize hW : World.drewN _ _ = W
  have hgW : W.heap[g]? = some (.cells (brdF (bbF q) (bbv a) (bbv b) (bbv c) (.int .i8 k0) (.int .i8 k1)) 144 (0, 0)) := by rw [← hW]; exact hg
  have hmW : MvAt mg t s1 s2 pr W := by rw [← hW]; exact hm
  have hO : Only g w W := by rw [← hW]; exact ((Only.refl g w).drewN _).drewN _
  clear hW hg hm
  have c12 : W.cell? ⟨g, 12, none⟩ = some (bbv a) := cell_of_row W g 12 _ _ _ hgW
  have c13 : W.cell? ⟨g, 13, none⟩ = some (bbv b) := cell_of_row W g 13 _ _ _ hgW
  have c14 : W.cell? ⟨g, 14, none⟩ = some (bbv c) := cell_of_row W g 14 _ _ _ hgW
  have f12 := frozen_of_row W g 12 _ _ hgW
  have f13 := frozen_of_row W g 13 _ _ hgW
  have f14 := frozen_of_row W g 14 _ _ hgW
  go_wp2_with fail
  go_simp
  go_wp2_with fail
  go_simp
  go_wp2_with fail
  go_simp
  go_upto_region 18 with fail
  clear c12 c13 c14 f12 f13 f14
  generalize hW2 : World.setCell _ _ _ = W2
  have hgW2 : W2.heap[g]? = some (.cells (brdF (bbF q) (bbv (whiteB q)) (bbv (blackB q)) (bbv (~~~(whiteB q ||| blackB q))) (.int .i8 k0) (.int .i8 k1)) 144 (0, 0)) := by
    rw [← hW2]
    have h1 := heap_setCell_same W g 12 _ _ (bbv (whiteB q)) hgW
    have h2 := heap_setCell_same _ g 13 _ _ (bbv (blackB q)) h1
    exact heap_setCell_same _ g 14 _ _ (bbv (~~~(whiteB q ||| blackB q))) h2
  have hm2 : MvAt mg t s1 s2 pr W2 := by
    rw [← hW2]
    exact (heap_setCell_other _ _ _ _ hne).trans ((heap_setCell_other _ _ _ _ hne).trans ((heap_setCell_other _ _ _ _ hne).trans hmW))
  have hO2 : Only g w W2 := by rw [← hW2]; exact ((hO.setCell _ _).setCell _ _).setCell _ _
  clear hW2 hgW hO hmW
  have c15 : W2.cell? ⟨g, 15, none⟩ = some (.int .i8 k0) := cell_of_row W2 g 15 _ _ _ hgW2
  have c16 : W2.cell? ⟨g, 16, none⟩ = some (.int .i8 k1) := cell_of_row W2 g 16 _ _ _ hgW2
  have f15 := frozen_of_row W2 g 15 _ _ hgW2
  have f16 := frozen_of_row W2 g 16 _ _ hgW2
  have m8 := hm2.c8
  have m9 := hm2.c9
  have hSt := lay (And.intro hgW2 hO2)
  clear hgW2 hO2 hm2
  by_cases e0 : s1 = k0
  · have b0 : (s1 == k0) = true := by simpa using e0
    have he := lay e0
    clear e0
    go_quiet (fail)
    go_wp2_with fail
    go_end0
    exact ⟨rfl, heap_setCell_same _ g 15 _ _ (.int .i8 s2) hSt.out.1, (hSt.out.2.drewN _).setCell _ _⟩
  · have b0 : (s1 == k0) = false := by simpa using e0
    have he := lay e0
    clear e0
    go_quiet (fail)
    go_wp2_with fail
    by_cases e1 : s1 = k1
    · have b1 : (s1 == k1) = true := by simpa using e1
      have he1 := lay e1
      clear e1
      go_quiet (fail)
      go_wp2_with fail
      go_end0
      exact ⟨rfl, heap_setCell_same _ g 16 _ _ (.int .i8 s2) hSt.out.1, (hSt.out.2.drewN _).setCell _ _⟩
    · have b1 : (s1 == k1) = false := by simpa using e1
      have he1 := lay e1
      clear e1
      go_quiet (fail)
      go_wp2_with fail
      go_end0
      exact ⟨rfl, hSt.out.1, hSt.out.2.drewN _⟩
end Go.Proofs.YtnjdgooljnbebaaGreatDoor
