/- FnUciOption: two options beside each other, and the law. -/
import Derived.Test.YtgebocnomapchaaUr
namespace Go.Proofs.Ytgebocnomapchaa
open Go Go.RowKit
set_option maxHeartbeats 4000000
set_option linter.unusedSimpArgs false
set_option linter.unusedVariables false
set_option maxRecDepth 100000

theorem own_slice2 {w : World} {base : Nat} {e : TypeId} {v : Value} {n : Nat} {xs : List Value} (h : w.ownsRow base e 1 v n xs) :
    ∃ a c, v = .slice a n c ∧ ∀ i, i < n → ∃ g, a = some ⟨g, 0, none⟩ ∧ g < w.heap.size ∧ w.cell? ⟨g, i, none⟩ = xs[i]? := by
  have hf := h
  obtain ⟨hn, ⟨rfl, rfl⟩ | ⟨g, cap, cur, rfl, _, hg, _⟩⟩ := h
  · exact ⟨none, 0, rfl, fun i hi => by omega⟩
  · exact ⟨_, _, rfl, fun i hi => ⟨g, rfl, lt_of_get hg, hf.cellAt i (by omega)⟩⟩
theorem us_same (x : OptS) (v1 v2 : Value) (b1 b2 : Nat) (w : World) (h1 : w.ownsRow b1 9 1 v1 x.vars.length (strsV x.vars)) (h2 : w.ownsRow b2 9 1 v2 x.vars.length (strsV x.vars)) (hlen : x.vars.length ≤ 1000000) :
    Calls Try.prog 18 #[.agg (optCells x v1), .agg (optCells x v2)] w fun e w' => e = .returned (.bool true) ∧ Below w.heap.size w w' := by
  obtain ⟨a1, c1, rfl, hc1⟩ := own_slice2 h1
  obtain ⟨a2, c2, rfl, hc2⟩ := own_slice2 h2
  clear h1 h2
  obtain ⟨name, typ, dflt, lo, hi, vars⟩ := x
  simp only [] at hc1 hc2 hlen
  simp only [optCells]
  go_enter Try.func18, Try.ntmps18
  go_wp2_with fail
  generalize hW : ((w.alloc _).alloc _) = W
  have hsz : W.heap.size = w.heap.size + 2 := by rw [← hW]; simp
  have hbW : Below w.heap.size w W := by rw [← hW]; exact ((Below.refl _ _).alloc (Nat.le_refl _) _).alloc (by simp) _
  have hX := (congrArg (fun z : World => z.heap[w.heap.size]?) hW).symm.trans (heap_alloc2_old w _ _)
  have hY := (congrArg (fun z : World => z.heap[w.heap.size + 1]?) hW).symm.trans (heap_alloc2_new w _ _)
  have dX := cell_of_row W w.heap.size 5 _ _ _ hX
  have dY := cell_of_row W (w.heap.size + 1) 5 _ _ _ hY
  simp at dX dY
  have hold : ∀ g i, g < w.heap.size → W.cell? ⟨g, i, none⟩ = w.cell? ⟨g, i, none⟩ := fun g i hg => by
    refine World.cell?_of_block ?_
    rw [← hW]
    exact (Below.heap_alloc _ _ _ (by simp; omega)).trans (Below.heap_alloc _ _ _ hg)
  have hcA : ∀ i, i < vars.length → ∃ g, a1 = some ⟨g, 0, none⟩ ∧ W.cell? ⟨g, i, none⟩ = some (.string (bs (vars.getD i []))) := fun i hi => by
    obtain ⟨g, e1, e2, e3⟩ := hc1 i hi
    refine ⟨g, e1, (hold g i e2).trans (e3.trans ?_)⟩
    simp [strsV, hi]
  have hcB : ∀ i, i < vars.length → ∃ g, a2 = some ⟨g, 0, none⟩ ∧ W.cell? ⟨g, i, none⟩ = some (.string (bs (vars.getD i []))) := fun i hi => by
    obtain ⟨g, e1, e2, e3⟩ := hc2 i hi
    refine ⟨g, e1, (hold g i e2).trans (e3.trans ?_)⟩
    simp [strsV, hi]
  clear hold hc1 hc2 hX hY hW
  go_loopw [5] (fun i wr => ∃ (k : Nat), k ≤ vars.length ∧ i = .int .i64 (k : Int) ∧ (∀ a, wr.cell? a = W.cell? a) ∧ Below w.heap.size w wr) (fun i _ => (vars.length - (intOf i).toNat))
  case atStart => exact ⟨0, by omega, rfl, fun _ => rfl, hbW⟩
  case round =>
    obtain ⟨k, hk, rfl, hwr, hbw⟩ := hrel
    have eX := (hwr _).trans dX
    have eY := (hwr _).trans dY
    by_cases hlt : k < vars.length
    · obtain ⟨g1, rfl, r1⟩ := hcA k hlt
      obtain ⟨g2, rfl, r2⟩ := hcB k hlt
      have s1 := (hwr _).trans r1
      have s2 := (hwr _).trans r2
      generalize vars.getD k [] = s at *
      clear hcA hcB
      go_wp2_with fail
      go_quiet (fail)
      go_wp2
      go_roundw
      case rel => exact ⟨k + 1, by omega, by go_num, hwr, hbw.trans ((drewN_below wr _).mono hbw.size)⟩
      case measure => simp [intOf]; omega
    · clear hcA hcB
      go_wp2_with fail
      go_ret
      exact ⟨rfl, hbw⟩

theorem opt_reads {W : World} {g : Nat} {x : OptS} {u : Value} {t : TypeId} {fr : Nat × Nat} (h : W.heap[g]? = some (.cells (optCells x u) t fr)) :
    W.cell? ⟨g, 0, none⟩ = some (.string (bs x.name)) ∧ W.cell? ⟨g, 1, none⟩ = some (.string (bs x.typ)) ∧ W.cell? ⟨g, 2, none⟩ = some (.string (bs x.dflt)) ∧ W.cell? ⟨g, 3, none⟩ = some (.string (bs x.lo)) ∧ W.cell? ⟨g, 4, none⟩ = some (.string (bs x.hi)) ∧ W.cell? ⟨g, 5, none⟩ = some u :=
  ⟨cell_of_row W g 0 _ _ _ h, cell_of_row W g 1 _ _ _ h, cell_of_row W g 2 _ _ _ h, cell_of_row W g 3 _ _ _ h, cell_of_row W g 4 _ _ _ h, cell_of_row W g 5 _ _ _ h⟩
theorem uopt_law (s : ByteArray) (_hs : s.size ≤ 140737488351232) (w : World) :
    Calls Try.prog 7 #[.string s] w fun e w' => e = .returned (.bool true) ∧ Below w.heap.size w w' := by
  clear _hs
  rw [bs_of s]
  generalize s.data.toList = l
  have hsz := bs_size l
  go_enter Try.func7, Try.ntmps7
  by_cases h1 : l.length > 2147483647
  · go_wp2
    go_ret
    exact ⟨rfl, Below.refl _ _⟩
  by_cases h2 : l.length > 400
  · go_wp2
    go_ret
    exact ⟨rfl, Below.refl _ _⟩
  go_wp2_with fail
  refine (uo_spec l _ (by omega)).mono ?_
  rintro e w1 ⟨q1, hor⟩
  rcases hor with ⟨hnone, n, rfl⟩ | ⟨x, v, hsome, rfl, hown⟩
  · go_wp2_with ((with_reducible refine at_store_row (optCells optZero (.slice none n n)) (heap_alloc_new w1 _) ?_ ?_ ?_ ?_ ?_ ?_); kernel_rfl; rfl; exact optCells_one _ _ rfl; rfl; rfl)
    have hB1 := below_setRow' (q1.alloc q1.size (.cells (optCells optZero (.slice none 0 0)) 40)) q1.size (optCells optZero (.slice none n n))
    refine (ur_impl l _ (by omega)).mono ?_
    rintro e w2 ⟨q2, hor⟩
    have hB2 := hB1.trans (q2.mono hB1.size)
    have hB3 : ∀ cs : Array Value, Below w.heap.size w ((w2.alloc (.cells (optCells optZero (.slice none 0 0)) 40)).setRow w2.heap.size cs) := fun cs => below_setRow' (hB2.alloc hB2.size _) hB2.size cs
    clear hB1 hB2
    rcases hor with ⟨_, m, rfl⟩ | ⟨y, u, hy, _⟩
    · go_wp2_with ((with_reducible refine at_store_row (optCells optZero (.slice none m m)) (heap_alloc_new w2 _) ?_ ?_ ?_ ?_ ?_ ?_); kernel_rfl; rfl; exact optCells_one _ _ rfl; rfl; rfl)
      go_ret
      exact ⟨rfl, hB3 _⟩
    · rw [hnone] at hy
      cases hy
  · have hvl := optRead_vars l x hsome
    obtain ⟨a, c, rfl, _⟩ := own_slice2 hown
    go_wp2_with ((with_reducible refine at_store_row (optCells x (.slice a x.vars.length c)) (heap_alloc_new w1 _) ?_ ?_ ?_ ?_ ?_ ?_); kernel_rfl; rfl; exact optCells_one _ _ rfl; rfl; rfl)
    have hB1 := below_setRow' (q1.alloc q1.size (.cells (optCells optZero (.slice none 0 0)) 40)) q1.size (optCells x (.slice a x.vars.length c))
    refine (ur_impl l _ (by omega)).mono ?_
    rintro e w2 ⟨q2, hor⟩
    have hB2 := hB1.trans (q2.mono hB1.size)
    have hB3 : ∀ cs : Array Value, Below w.heap.size w ((w2.alloc (.cells (optCells optZero (.slice none 0 0)) 40)).setRow w2.heap.size cs) := fun cs => below_setRow' (hB2.alloc hB2.size _) hB2.size cs
    clear hB1 hB2
    rcases hor with ⟨hn, _⟩ | ⟨y, u, hy, rfl, hown2⟩
    · rw [hsome] at hn
      cases hn
    rw [hsome] at hy
    cases hy
    obtain ⟨a2, c2, rfl, _⟩ := own_slice2 hown2
    have hrow1 : w2.heap[w1.heap.size]? = some (.cells (optCells x (.slice a x.vars.length c)) 40 (0, 0)) := (q2.block _ (by simp)).trans (setRow_heap _ _ _ _ _ _ (heap_alloc_new w1 _))
    have hsz2 : w1.heap.size + 1 ≤ w2.heap.size := by have := q2.size; simp at this; omega
    have hb2 : Below w1.heap.size w1 w2 := (below_setRow' ((Below.refl w1.heap.size w1).alloc (Nat.le_refl _) (.cells (optCells optZero (.slice none 0 0)) 40)) (Nat.le_refl _) (optCells x (.slice a x.vars.length c))).trans (q2.mono (by simp))
    have hb3 : Below w2.heap.size w2 ((w2.alloc (.cells (optCells optZero (.slice none 0 0)) 40)).setRow w2.heap.size (optCells x (.slice a2 x.vars.length c2))) := below_setRow' ((Below.refl w2.heap.size w2).alloc (Nat.le_refl _) _) (Nat.le_refl _) _
    have hownA := own_keep (own_keep (own_mono hown (Nat.zero_le _)) hb2) hb3
    have hownB := own_keep (own_mono hown2 (Nat.zero_le _)) hb3
    have hr5 : ((w2.alloc (.cells (optCells optZero (.slice none 0 0)) 40)).setRow w2.heap.size (optCells x (.slice a2 x.vars.length c2))).heap[w2.heap.size]? = some (.cells (optCells x (.slice a2 x.vars.length c2)) 40 (0, 0)) := setRow_heap _ _ _ _ _ _ (heap_alloc_new w2 _)
    have hr3 := (hb3.block w1.heap.size (by omega)).trans hrow1
    have hhid : True → _ := fun _ => And.intro hownA (And.intro hownB (And.intro hr5 (And.intro hr3 (hB3 (optCells x (.slice a2 x.vars.length c2))))))
    clear q1 q2 hown hb2 hb3 hownA hownB hr5 hr3 hrow1 hown2 hB3
    go_wp2_with (first
      | ((with_reducible refine at_store_row (optCells x (.slice a2 x.vars.length c2)) (heap_alloc_new w2 _) ?_ ?_ ?_ ?_ ?_ ?_); kernel_rfl; rfl; exact optCells_one _ _ rfl; rfl; rfl; have hh2 := hhid trivial; clear hhid; change wpList _ _ _ _ _ ((w2.alloc (.cells (optCells optZero (.slice none 0 0)) 40)).setRow w2.heap.size (optCells x (.slice a2 x.vars.length c2))); generalize ((w2.alloc (.cells (optCells optZero (.slice none 0 0)) 40)).setRow w2.heap.size (optCells x (.slice a2 x.vars.length c2))) = W3 at hh2 ⊢; obtain ⟨hA3, hB3, hr5, hr3, hBB⟩ := hh2; obtain ⟨d0, d1, d2, d3, d4, d5⟩ := opt_reads hr5; obtain ⟨e0, e1, e2, e3, e4, e5⟩ := opt_reads hr3; clear hr5 hr3)
      | (go_at_call 18; refine (us_same x (.slice a2 x.vars.length c2) (.slice a x.vars.length c) 0 0 W3 hB3 hA3 (by omega)).mono ?_; rintro e w5 ⟨rfl, q5⟩))
    go_ret
    exact ⟨rfl, hBB.trans (q5.mono hBB.size)⟩
end Go.Proofs.Ytgebocnomapchaa
