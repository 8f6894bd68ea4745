/- The engine's isInCheck. -/
import Derived.Test.YtplkcmlpomjojaaDoorSa
namespace Go.Proofs.YtplkcmlpomjojaaDoor
open Go Go.RowKit
set_option maxHeartbeats 8000000
set_option linter.unusedSimpArgs false
set_option linter.unusedVariables false
set_option maxRecDepth 100000

theorem EngAt.below {p : List Int} {tn pg bg : Nat} {w w' : World} {B : Nat} (h : EngAt p tn pg bg w) (hpg : pg < w.heap.size) (hb : Below B w w') (hB : w.heap.size ≤ B) : EngAt p tn pg bg w' :=
  have hb' := hb.mono hB
  ⟨(hb'.cell (p := ⟨pg, 0, none⟩) hpg).trans h.c0, (hb'.cell (p := ⟨pg, 5, none⟩) hpg).trans h.c5, (hb'.block bg (Array.getElem?_eq_some_iff.1 h.bd).1).trans h.bd, h.tb.below hb' (Nat.le_refl _), h.al.below hb'⟩
theorem brd_15 (p : List Int) : (brd p)[15]? = some (.int .i8 (lastK p 1 64)) := rfl
theorem brd_16 (p : List Int) : (brd p)[16]? = some (.int .i8 (lastK p 7 64)) := rfl
theorem ic_check (p : List Int) (tn : Nat) (htn : tn ≤ 1) (pg bg : Nat) (w : World) (hE : EngAt p tn pg bg w) (hpg : pg < w.heap.size) (k0 k1 : Nat) (hk0 : lastK p 1 64 = (k0 : Int)) (hk1 : lastK p 7 64 = (k1 : Int)) (h0 : k0 < 64) (h1 : k1 < 64) :
    Calls Tryd.prog 55 #[.pointer (some ⟨pg, 0, none⟩)] w fun e w' => e = .returned (.bool (engB p tn (if tn = 1 then k1 else k0))) ∧ Below w.heap.size w w' := by
  have hT := lay (da_turn pg _ w hE.c5)
  have c15 := (cell_of_row w bg 15 _ _ _ hE.bd).trans (brd_15 p)
  have c16 := (cell_of_row w bg 16 _ _ _ hE.bd).trans (brd_16 p)
  rw [hk0] at c15
  rw [hk1] at c16
  have hp0 := hE.c0
  have hS : ∀ s : Nat, s < 64 → Calls Tryd.prog 35 #[.pointer (some ⟨pg, 0, none⟩), .slice (some ⟨w.heap.size, 0, none⟩) 1 1] (w.alloc (.cells #[.int .i8 (s : Int)] 41)) fun e w' => e = .returned (.bool (engB p tn s)) ∧ Below w.heap.size w w' := fun s hs => by
    have hb : Below w.heap.size w (w.alloc (.cells #[.int .i8 (s : Int)] 41)) := (Below.refl _ _).alloc (Nat.le_refl _) _
    refine (sa_attacked p tn htn pg bg _ (hE.below hpg hb (Nat.le_refl _)) [s] (by simpa using hs) (by simp) w.heap.size 1 (fun i hi => ?_)).mono ?_
    · obtain rfl : i = 0 := by simp at hi; omega
      exact (cell_of_row _ _ _ _ _ _ (heap_alloc_new w _)).trans rfl
    · rintro e w' ⟨rfl, m, rfl⟩
      exact ⟨by simp, below_drewN hb m⟩
  have hSs := lay hS
  have hEs := lay hE
  have hp0s := hp0
  clear hS hE hk0 hk1
  have kb0 : ((k0 : Int) == -1) = false := by simp
  have kb1 : ((k1 : Int) == -1) = false := by simp
  rcases (show tn = 0 ∨ tn = 1 by omega) with rfl | rfl
  all_goals (
    go_enter Tryd.func55, Tryd.ntmps55
    go_wp2_with (first
      | (go_at_call 48; refine Calls.mono hT.out ?_; rintro e1 w1 ⟨rfl, rfl⟩)
      | (go_at_call 35; refine Calls.mono (hSs.out _ (by assumption)) ?_; rintro e2 w2 ⟨rfl, hb2⟩))
    go_ret
    exact ⟨rfl, hb2⟩)
end Go.Proofs.YtplkcmlpomjojaaDoor
