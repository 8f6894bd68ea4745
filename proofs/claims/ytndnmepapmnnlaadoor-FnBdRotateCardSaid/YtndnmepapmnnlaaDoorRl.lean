/- FnBdRotate: the law. For every board, and a package variable that lists the pieces. -/
import Derived.Test.YtndnmepapmnnlaaDoorMv
import Derived.Test.YtndnmepapmnnlaaDoorBt
import Derived.Deep.MidRow
namespace Go.Proofs.YtndnmepapmnnlaaDoor
open Go Go.RowKit
set_option maxHeartbeats 2000000
set_option linter.unusedSimpArgs false
set_option linter.unusedVariables false
set_option maxRecDepth 100000

theorem range_of_row {w : World} {g : Nat} {L : List Value} {t : TypeId} {fr : Nat × Nat} (h : w.heap[g]? = some (.cells L.toArray t fr)) : w.rangeAt g 0 L := fun j v hj => by
  rw [Nat.zero_add, cell_of_row w g j _ _ _ h]
  simpa using hj
theorem range_below {w w' : World} {g : Nat} {L : List Value} (hb : Below w.heap.size w w') (h : w.rangeAt g 0 L) (hg : g < w.heap.size) : w'.rangeAt g 0 L := fun j v hj => (hb.cell (p := ⟨g, 0 + j, none⟩) hg).trans (h j v hj)
theorem perm_perm (σ τ ρ : Nat → Nat) (p : List Int) (hσ : ∀ j, j < 64 → σ j < 64) (h : ∀ j, j < 64 → τ (σ j) = ρ j) : perm σ (perm τ p) = perm ρ p := by
  apply List.ext_getElem
  · simp [perm]
  · intro j h1 h2
    have hj : j < 64 := by simpa [perm] using h1
    have e := perm_get τ p (σ j) (hσ j hj)
    simp only [perm, List.getElem_map, List.getElem_range] at e ⊢
    rw [e, h j hj]
theorem perm_id (σ : Nat → Nat) (p : List Int) (hl : p.length = 64) (h : ∀ j, j < 64 → σ j = j) : perm σ p = p := by
  apply List.ext_getElem
  · simp [perm, hl]
  · intro j h1 h2
    have hj : j < 64 := by simpa [perm] using h1
    simp [perm, h j hj, h2]
theorem rot_two (p : List Int) : perm rotS (perm rotS p) = perm turnS p := perm_perm _ _ _ p (fun j hj => by unfold rotS; omega) (fun j hj => by unfold rotS turnS; omega)
theorem rot_four (p : List Int) (hl : p.length = 64) : perm rotS (perm rotS (perm turnS p)) = p := by
  rw [rot_two, perm_perm turnS turnS (fun j => j) p (fun j hj => by unfold turnS; omega) (fun j hj => by unfold turnS; omega)]
  exact perm_id _ p hl (fun j hj => rfl)

theorem rl_law (b : List Int) (hl : b.length = 64) (w : World) (hA : IntSl w 1 .i8 allL) :
    Calls Tryd.prog 4 #[.agg (ints b)] w fun e' w' => e' = .returned (.bool true) ∧ Below w.heap.size w w' := by
  have hrow := heap_alloc_new w (.cells (ints b) 22)
  have hB0 : Below w.heap.size w (w.alloc (.cells (ints b) 22)) := (Below.refl _ _).alloc (Nat.le_refl _) _
  go_enter Tryd.func4, Tryd.ntmps4
  go_wp2_with (refine at_load_row hrow Tryd.underlying22 rfl ?_ rfl ?_; (rw [ints_size, hl]; kernel_rfl))
  refine (br_right b hl _).mono ?_
  rintro e1 w1 ⟨rfl, hb1⟩
  have r1 := (hb1.block _ (by simp)).trans hrow
  have hB1 := hB0.trans (hb1.mono hB0.size)
  clear hrow hB0
  cases hr : right b with
  | false =>
    go_wp2_with fail
    go_ret
    exact ⟨rfl, hB1⟩
  | true =>
    have hp := right_brd b hl hr
    go_wp2_with ((with_reducible refine at_load_row r1 Tryd.underlying22 rfl ?_ ?_ ?_); (rw [ints_size, hl]; kernel_rfl); rfl)
    have hp1 := perm_brd rotS b hp
    have hp2 := perm_brd turnS b hp
    have hp3 := perm_brd rotS _ hp2
    have hl1 := hp1.len
    have hl2 := hp2.len
    have hl3 := hp3.len
    have hM1 : ∀ W, Calls Tryd.prog 14 #[.agg (ints b), .agg #[.int .i64 0, .int .i64 1, .int .i64 0, .int .i64 (-1), .int .i64 0, .int .i64 7]] W fun e' w' => e' = .returned (.agg (ints (perm rotS b))) ∧ Below W.heap.size W w' := mv_rot b hl
    have hM2 : ∀ W, Calls Tryd.prog 14 #[.agg (ints b), .agg #[.int .i64 (-1), .int .i64 0, .int .i64 7, .int .i64 0, .int .i64 (-1), .int .i64 7]] W fun e' w' => e' = .returned (.agg (ints (perm turnS b))) ∧ Below W.heap.size W w' := mv_turn b hl
    have e2 := rot_two b
    have e4 := rot_four b hl
    refine (ro_impl b hp w1 (hA.below hB1)).mono ?_
    rintro e1 w2 ⟨rfl, hb2⟩
    have rA2 := (hb2.block _ (Array.getElem?_eq_some_iff.1 r1).1).trans r1
    have hB2 := hB1.trans (hb2.mono hB1.size)
    clear r1 hB1 hb2 hb1
    generalize perm rotS b = b1 at *
    go_wp2_with (first
      | ((with_reducible refine at_new_row (ints b1) ?_ ?_ ?_ ?_ ?_ ?_); (rw [ints_size, hl1]; kernel_rfl); (rw [ints_size, hl1]; kernel_rfl); exact ints_one _; rfl; rfl; intro W2 rG hC2; have rB2 := (hC2.block _ (Array.getElem?_eq_some_iff.1 rA2).1).trans rA2; have hBB := hB2.trans (hC2.mono hB2.size))
      | ((with_reducible refine at_load_row rG Tryd.underlying22 rfl ?_ ?_ ?_); (rw [ints_size, hl1]; kernel_rfl); rfl))
    refine (ro_impl b1 hp1 W2 (hA.below hBB)).mono ?_
    rw [e2]
    rintro e1 w3 ⟨rfl, hb3⟩
    have rA3 := (hb3.block _ (Array.getElem?_eq_some_iff.1 rB2).1).trans rB2
    have rG3 := (hb3.block _ (Array.getElem?_eq_some_iff.1 rG).1).trans rG
    have hB3 := hBB.trans (hb3.mono hBB.size)
    clear rA2 hB2 hC2 rB2 hBB hb3 rG
    generalize perm turnS b = b2 at *
    go_wp2_with (first
      | ((with_reducible refine at_new_row (ints b2) ?_ ?_ ?_ ?_ ?_ ?_); (rw [ints_size, hl2]; kernel_rfl); (rw [ints_size, hl2]; kernel_rfl); exact ints_one _; rfl; rfl; intro W3 rH hC3; have rB3 := (hC3.block _ (Array.getElem?_eq_some_iff.1 rA3).1).trans rA3; have rI3 := (hC3.block _ (Array.getElem?_eq_some_iff.1 rG3).1).trans rG3; have hBB := hB3.trans (hC3.mono hB3.size))
      | ((with_reducible refine at_load_row rH Tryd.underlying22 rfl ?_ ?_ ?_); (rw [ints_size, hl2]; kernel_rfl); rfl))
    refine (ro_impl b2 hp2 W3 (hA.below hBB)).mono ?_
    rintro e1 w4 ⟨rfl, hb4⟩
    have rA4 := (hb4.block _ (Array.getElem?_eq_some_iff.1 rB3).1).trans rB3
    have rG4 := (hb4.block _ (Array.getElem?_eq_some_iff.1 rI3).1).trans rI3
    have rH4 := (hb4.block _ (Array.getElem?_eq_some_iff.1 rH).1).trans rH
    have hB4 := hBB.trans (hb4.mono hBB.size)
    clear rA3 rG3 hB3 hC3 rB3 rI3 hBB hb4 rH
    generalize perm rotS b2 = b3 at *
    go_wp2_with (first
      | ((with_reducible refine at_new_row (ints b3) ?_ ?_ ?_ ?_ ?_ ?_); (rw [ints_size, hl3]; kernel_rfl); (rw [ints_size, hl3]; kernel_rfl); exact ints_one _; rfl; rfl; intro W4 rK hC4; have rB4 := (hC4.block _ (Array.getElem?_eq_some_iff.1 rA4).1).trans rA4; have rI4 := (hC4.block _ (Array.getElem?_eq_some_iff.1 rG4).1).trans rG4; have rJ4 := (hC4.block _ (Array.getElem?_eq_some_iff.1 rH4).1).trans rH4; have hBB := hB4.trans (hC4.mono hB4.size))
      | ((with_reducible refine at_load_row rK Tryd.underlying22 rfl ?_ ?_ ?_); (rw [ints_size, hl3]; kernel_rfl); rfl))
    refine (ro_impl b3 hp3 W4 (hA.below hBB)).mono ?_
    rw [e4]
    rintro e1 w5 ⟨rfl, hb5⟩
    have rA5 := (hb5.block _ (Array.getElem?_eq_some_iff.1 rB4).1).trans rB4
    have rG5 := (hb5.block _ (Array.getElem?_eq_some_iff.1 rI4).1).trans rI4
    have rH5 := (hb5.block _ (Array.getElem?_eq_some_iff.1 rJ4).1).trans rJ4
    have hB5 := hBB.trans (hb5.mono hBB.size)
    clear rA4 rG4 rH4 hB4 hC4 rB4 rI4 rJ4 hBB hb5 rK
    go_wp2_with (first
      | ((with_reducible refine at_new_row (ints b) ?_ ?_ ?_ ?_ ?_ ?_); (rw [ints_size, hl]; kernel_rfl); (rw [ints_size, hl]; kernel_rfl); exact ints_one _; rfl; rfl; intro W5 rM hC5; have rA := (hC5.block _ (Array.getElem?_eq_some_iff.1 rA5).1).trans rA5; have rG := (hC5.block _ (Array.getElem?_eq_some_iff.1 rG5).1).trans rG5; have rH := (hC5.block _ (Array.getElem?_eq_some_iff.1 rH5).1).trans rH5; have hBB := hB5.trans (hC5.mono hB5.size)))
    clear rA5 rG5 rH5 hB5 hC5
    obtain ⟨ii, hi, hz0, hz1, hz2⟩ := info_parts (show (Tryd.prog.info? 3).map (fun i => (i.zero, i.size, i.bytes)) = some (some (.int .i64 0), 1, 8) by kernel_rfl)
    have hE : ∀ (p : List Int), p.length = 64 → ∀ W, (Op.equalIn 10000 22 (.agg (ints p)) (.agg (ints p))).run Tryd.prog W = .ok true W := fun p hp W => by
      have := eq_ints (P := Tryd.prog) Tryd.underlying22 hi (by kernel_rfl) (by kernel_rfl) p p hp hp W
      simpa using this
    have hE0 := hE b hl
    have hE1 := hE b1 hl1
    have hE2 := hE b2 hl2
    have hi0 : (Tryd.prog.info? 22).map (·.size) = some (ints b).size := by rw [ints_size, hl]; kernel_rfl
    have hi1 : (Tryd.prog.info? 22).map (·.size) = some (ints b1).size := by rw [ints_size, hl1]; kernel_rfl
    have hi2 : (Tryd.prog.info? 22).map (·.size) = some (ints b2).size := by rw [ints_size, hl2]; kernel_rfl
    have g0 := (Array.getElem?_eq_some_iff.1 rA).1
    have g1 := (Array.getElem?_eq_some_iff.1 rG).1
    have g2 := (Array.getElem?_eq_some_iff.1 rH).1
    have g4 := (Array.getElem?_eq_some_iff.1 rM).1
    clear hi hz0 hz1 hz2 hE hp hp1 hp2 hp3 hl hl1 hl2 hl3 e2 e4 hr hA
    obtain ⟨L0, hL0⟩ : ∃ L : List Value, ints b = L.toArray := ⟨_, rfl⟩
    obtain ⟨L1, hL1⟩ : ∃ L : List Value, ints b1 = L.toArray := ⟨_, rfl⟩
    obtain ⟨L2, hL2⟩ : ∃ L : List Value, ints b2 = L.toArray := ⟨_, rfl⟩
    rw [hL0] at rA rM hM1 hM2 hE0 hi0
    rw [hL1] at rG hM1 hE1 hi1
    rw [hL2] at rH hM2 hE2 hi2
    rw [List.size_toArray] at hi0 hi1 hi2
    have sA := range_of_row rA
    have sG := range_of_row rG
    have sH := range_of_row rH
    have sM := range_of_row rM
    clear rA rG rH rM
    clear hL0 hL1 hL2
    have hu := Tryd.underlying22
    generalize ha0 : w.heap.size = a0 at *
    generalize w2.heap.size = a1 at *
    generalize w3.heap.size = a2 at *
    generalize w5.heap.size = a4 at *
    have hM := show Shut _ from And.intro hM1 hM2
    clear hM1 hM2
    have hBB' := show Shut _ from hBB
    clear hBB
    refine wp_region_held_drew (S := fun w' : World => w'.rangeAt a1 0 L1 ∧ w'.rangeAt a0 0 L0 ∧ w'.rangeAt a2 0 L2 ∧ w'.rangeAt a4 0 L0) (by kernel_rfl) ⟨sG, sA, sH, sM⟩ (fun hHeld => ?_)
    refine wpAnyH_take (i := 0) (v := ?v0) rfl (by kernel_rfl) (by kernel_rfl) (by kernel_rfl) (fun _ _ _ h => h) (Or.inl ⟨by rfl, ?y0⟩) hHeld ?r0
    case y0 => (intro wq hSw; go_simp; try with_reducible rfl)
    try simp only [List.getElem_toArray, List.getElem_cons_zero, List.getElem_cons_succ, Act.put, List.setIfInBounds_toArray, List.set_cons_zero, List.set_cons_succ]
    refine wpAnyH_take (i := 1) (v := ?v1) rfl (by kernel_rfl) (by kernel_rfl) (by kernel_rfl) (fun _ _ _ h => h) (Or.inl ⟨by rfl, ?y1⟩) hHeld ?r1
    case y1 => (intro wq hSw; go_simp; try with_reducible rfl)
    try simp only [List.getElem_toArray, List.getElem_cons_zero, List.getElem_cons_succ, Act.put, List.setIfInBounds_toArray, List.set_cons_zero, List.set_cons_succ]
    refine wpAnyH_take (i := 2) (v := ?v2) rfl (by kernel_rfl) (by kernel_rfl) (by kernel_rfl) (fun _ _ _ h => h) (Or.inl ⟨by rfl, ?y2⟩) hHeld ?r2
    case y2 => (intro wq hSw; go_simp; try with_reducible rfl)
    try simp only [List.getElem_toArray, List.getElem_cons_zero, List.getElem_cons_succ, Act.put, List.setIfInBounds_toArray, List.set_cons_zero, List.set_cons_succ]
    refine wpAnyH_take (i := 3) (v := ?v3) rfl (by kernel_rfl) (by kernel_rfl) (by kernel_rfl) (fun _ _ _ h => h) (Or.inl ⟨by rfl, ?y3⟩) hHeld ?r3
    case y3 => (intro wq hSw; go_simp; try with_reducible rfl)
    try simp only [List.getElem_toArray, List.getElem_cons_zero, List.getElem_cons_succ, Act.put, List.setIfInBounds_toArray, List.set_cons_zero, List.set_cons_succ]
    refine wpAnyH_take (i := 4) (v := ?v4) rfl (by kernel_rfl) (by kernel_rfl) (by kernel_rfl) (fun _ _ _ h => h) (Or.inl ⟨by rfl, ?y4⟩) hHeld ?r4
    case y4 => (intro wq hSw; go_simp; try with_reducible rfl)
    try simp only [List.getElem_toArray, List.getElem_cons_zero, List.getElem_cons_succ, Act.put, List.setIfInBounds_toArray, List.set_cons_zero, List.set_cons_succ]
    refine wpAnyH_take (i := 5) (v := ?v5) rfl (by kernel_rfl) (by kernel_rfl) (by kernel_rfl) (fun _ _ _ h => h) (Or.inl ⟨by rfl, ?y5⟩) hHeld ?r5
    case y5 => (intro wq hSw; go_simp; try with_reducible rfl)
    try simp only [List.getElem_toArray, List.getElem_cons_zero, List.getElem_cons_succ, Act.put, List.setIfInBounds_toArray, List.set_cons_zero, List.set_cons_succ]
    refine wpAnyH_take (i := 6) (v := ?v6) rfl (by kernel_rfl) (by kernel_rfl) (by kernel_rfl) (fun _ _ _ h => h) (Or.inl ⟨by rfl, ?y6⟩) hHeld ?r6
    case y6 => (intro wq hSw; go_simp; try with_reducible rfl)
    try simp only [List.getElem_toArray, List.getElem_cons_zero, List.getElem_cons_succ, Act.put, List.setIfInBounds_toArray, List.set_cons_zero, List.set_cons_succ]
    refine wpAnyH_take (i := 7) (v := ?v7) rfl (by kernel_rfl) (by kernel_rfl) (by kernel_rfl) (fun _ _ _ h => h) (Or.inl ⟨by rfl, ?y7⟩) hHeld ?r7
    case y7 => (intro wq hSw; go_simp; try with_reducible rfl)
    try simp only [List.getElem_toArray, List.getElem_cons_zero, List.getElem_cons_succ, Act.put, List.setIfInBounds_toArray, List.set_cons_zero, List.set_cons_succ]
    refine wpAnyH_take (i := 8) (v := ?v8) rfl (by kernel_rfl) (by kernel_rfl) (by kernel_rfl) (fun _ _ _ h => h) (Or.inl ⟨by rfl, ?y8⟩) hHeld ?r8
    case y8 => (intro wq hSw; go_simp; try with_reducible rfl)
    try simp only [List.getElem_toArray, List.getElem_cons_zero, List.getElem_cons_succ, Act.put, List.setIfInBounds_toArray, List.set_cons_zero, List.set_cons_succ]
    refine wpAnyH_take (i := 9) (v := ?v9) rfl (by kernel_rfl) (by kernel_rfl) (by kernel_rfl) (fun _ _ _ h => h) (Or.inl ⟨by rfl, ?y9⟩) hHeld ?r9
    case y9 => (intro wq hSw; go_simp; try with_reducible rfl)
    try simp only [List.getElem_toArray, List.getElem_cons_zero, List.getElem_cons_succ, Act.put, List.setIfInBounds_toArray, List.set_cons_zero, List.set_cons_succ]
    refine wpAnyH_take (i := 10) (v := ?v10) rfl (by kernel_rfl) (by kernel_rfl) (by kernel_rfl) (fun _ _ _ h => h) (Or.inl ⟨by rfl, ?y10⟩) hHeld ?r10
    case y10 => (intro wq hSw; go_simp; try with_reducible rfl)
    try simp only [List.getElem_toArray, List.getElem_cons_zero, List.getElem_cons_succ, Act.put, List.setIfInBounds_toArray, List.set_cons_zero, List.set_cons_succ]
    refine' wpAnyH_take (i := 11) (v := _) rfl (by kernel_rfl) (by kernel_rfl) (by kernel_rfl) (fun _ _ _ h => h) (yieldsIf_load_mid (by rfl) _ _ rfl _ _ rfl _ _ (fun _ h => h.1) hu rfl hi1) hHeld ?r11
    try simp only [List.getElem_toArray, List.getElem_cons_zero, List.getElem_cons_succ, Act.put, List.setIfInBounds_toArray, List.set_cons_zero, List.set_cons_succ]
    refine' wpAnyH_take (i := 12) (v := _) rfl (by kernel_rfl) (by kernel_rfl) (by kernel_rfl) (fun _ _ _ h => h) (yieldsIf_load_mid (by rfl) _ _ rfl _ _ rfl _ _ (fun _ h => h.2.1) hu rfl hi0) hHeld ?r12
    try simp only [List.getElem_toArray, List.getElem_cons_zero, List.getElem_cons_succ, Act.put, List.setIfInBounds_toArray, List.set_cons_zero, List.set_cons_succ]
    refine wpAnyH_take (i := 13) (v := ?v13) rfl (by kernel_rfl) (by kernel_rfl) (by kernel_rfl) (fun _ _ _ h => h) (Or.inl ⟨by rfl, ?y13⟩) hHeld ?r13
    case y13 => (intro wq hSw; go_simp; try with_reducible rfl)
    try simp only [List.getElem_toArray, List.getElem_cons_zero, List.getElem_cons_succ, Act.put, List.setIfInBounds_toArray, List.set_cons_zero, List.set_cons_succ]
    refine wpAnyH_ready (rs := [14]) (by kernel_rfl) (by simp) ?_
    refine AllReadyH.cons rfl (fun K hK => ?_) AllReadyH.nil
    try simp only [List.getElem_toArray, List.getElem_cons_zero, List.getElem_cons_succ, Act.put, List.setIfInBounds_toArray, List.set_cons_zero, List.set_cons_succ]
    go_simp
    refine (hM.out.1 _).mono ?_
    rintro e6 w6 ⟨rfl, hb6⟩
    go_wp2_with fail
    refine hK.out _ _ (by obtain ⟨s1, s2, s3, s4⟩ := hHeld; exact ⟨range_below hb6 s1 (by simp; omega), range_below hb6 s2 (by simp; omega), range_below hb6 s3 (by simp; omega), range_below hb6 s4 (by simp; omega)⟩) (fun hHeld => ?_)
    clear hK K
    try simp only [List.getElem_toArray, List.getElem_cons_zero, List.getElem_cons_succ, Act.put, List.setIfInBounds_toArray, List.set_cons_zero, List.set_cons_succ]
    refine wpAnyH_take (i := 15) (v := ?v15) rfl (by kernel_rfl) (by kernel_rfl) (by kernel_rfl) (fun _ _ _ h => h) (Or.inl ⟨by rfl, ?y15⟩) hHeld ?r15
    case y15 => (intro wq hSw; go_simp; try with_reducible rfl)
    try simp only [List.getElem_toArray, List.getElem_cons_zero, List.getElem_cons_succ, Act.put, List.setIfInBounds_toArray, List.set_cons_zero, List.set_cons_succ]
    refine wpAnyH_take (i := 16) (v := ?v16) rfl (by kernel_rfl) (by kernel_rfl) (by kernel_rfl) (fun _ _ _ h => h) (Or.inl ⟨by rfl, ?y16⟩) hHeld ?r16
    case y16 => (intro wq hSw; go_simp; try with_reducible rfl)
    try simp only [List.getElem_toArray, List.getElem_cons_zero, List.getElem_cons_succ, Act.put, List.setIfInBounds_toArray, List.set_cons_zero, List.set_cons_succ]
    refine wpAnyH_take (i := 17) (v := ?v17) rfl (by kernel_rfl) (by kernel_rfl) (by kernel_rfl) (fun _ _ _ h => h) (Or.inl ⟨by rfl, ?y17⟩) hHeld ?r17
    case y17 => (intro wq hSw; go_simp; try with_reducible rfl)
    try simp only [List.getElem_toArray, List.getElem_cons_zero, List.getElem_cons_succ, Act.put, List.setIfInBounds_toArray, List.set_cons_zero, List.set_cons_succ]
    refine' wpAnyH_take (i := 18) (v := _) rfl (by kernel_rfl) (by kernel_rfl) (by kernel_rfl) (fun _ _ _ h => h) (yieldsIf_load_mid (by rfl) _ _ rfl _ _ rfl _ _ (fun _ h => h.2.2.1) hu rfl hi2) hHeld ?r18
    try simp only [List.getElem_toArray, List.getElem_cons_zero, List.getElem_cons_succ, Act.put, List.setIfInBounds_toArray, List.set_cons_zero, List.set_cons_succ]
    refine' wpAnyH_take (i := 19) (v := _) rfl (by kernel_rfl) (by kernel_rfl) (by kernel_rfl) (fun _ _ _ h => h) (yieldsIf_load_mid (by rfl) _ _ rfl _ _ rfl _ _ (fun _ h => h.2.1) hu rfl hi0) hHeld ?r19
    try simp only [List.getElem_toArray, List.getElem_cons_zero, List.getElem_cons_succ, Act.put, List.setIfInBounds_toArray, List.set_cons_zero, List.set_cons_succ]
    refine wpAnyH_take (i := 20) (v := ?v20) rfl (by kernel_rfl) (by kernel_rfl) (by kernel_rfl) (fun _ _ _ h => h) (Or.inl ⟨by rfl, ?y20⟩) hHeld ?r20
    case y20 => (intro wq hSw; go_simp; try with_reducible rfl)
    try simp only [List.getElem_toArray, List.getElem_cons_zero, List.getElem_cons_succ, Act.put, List.setIfInBounds_toArray, List.set_cons_zero, List.set_cons_succ]
    refine wpAnyH_ready (rs := [21]) (by kernel_rfl) (by simp) ?_
    refine AllReadyH.cons rfl (fun K hK => ?_) AllReadyH.nil
    try simp only [List.getElem_toArray, List.getElem_cons_zero, List.getElem_cons_succ, Act.put, List.setIfInBounds_toArray, List.set_cons_zero, List.set_cons_succ]
    go_simp
    refine (hM.out.2 _).mono ?_
    rintro e7 w7 ⟨rfl, hb7⟩
    go_wp2_with fail
    refine hK.out _ _ (by obtain ⟨s1, s2, s3, s4⟩ := hHeld; exact ⟨range_below hb7 s1 (by have := hb6.size; simp at this; omega), range_below hb7 s2 (by have := hb6.size; simp at this; omega), range_below hb7 s3 (by have := hb6.size; simp at this; omega), range_below hb7 s4 (by have := hb6.size; simp at this; omega)⟩) (fun hHeld => ?_)
    clear hK K
    try simp only [List.getElem_toArray, List.getElem_cons_zero, List.getElem_cons_succ, Act.put, List.setIfInBounds_toArray, List.set_cons_zero, List.set_cons_succ]
    refine wpAnyH_take (i := 22) (v := ?v22) rfl (by kernel_rfl) (by kernel_rfl) (by kernel_rfl) (fun _ _ _ h => h) (Or.inl ⟨by rfl, ?y22⟩) hHeld ?r22
    case y22 => (intro wq hSw; go_simp; try with_reducible rfl)
    try simp only [List.getElem_toArray, List.getElem_cons_zero, List.getElem_cons_succ, Act.put, List.setIfInBounds_toArray, List.set_cons_zero, List.set_cons_succ]
    refine wpAnyH_take (i := 23) (v := ?v23) rfl (by kernel_rfl) (by kernel_rfl) (by kernel_rfl) (fun _ _ _ h => h) (Or.inl ⟨by rfl, ?y23⟩) hHeld ?r23
    case y23 => (intro wq hSw; go_simp; try with_reducible rfl)
    try simp only [List.getElem_toArray, List.getElem_cons_zero, List.getElem_cons_succ, Act.put, List.setIfInBounds_toArray, List.set_cons_zero, List.set_cons_succ]
    refine wpAnyH_take (i := 24) (v := ?v24) rfl (by kernel_rfl) (by kernel_rfl) (by kernel_rfl) (fun _ _ _ h => h) (Or.inl ⟨by rfl, ?y24⟩) hHeld ?r24
    case y24 => (intro wq hSw; go_simp; try with_reducible rfl)
    try simp only [List.getElem_toArray, List.getElem_cons_zero, List.getElem_cons_succ, Act.put, List.setIfInBounds_toArray, List.set_cons_zero, List.set_cons_succ]
    refine' wpAnyH_take (i := 25) (v := _) rfl (by kernel_rfl) (by kernel_rfl) (by kernel_rfl) (fun _ _ _ h => h) (yieldsIf_load_mid (by rfl) _ _ rfl _ _ rfl _ _ (fun _ h => h.2.2.2) hu rfl hi0) hHeld ?r25
    try simp only [List.getElem_toArray, List.getElem_cons_zero, List.getElem_cons_succ, Act.put, List.setIfInBounds_toArray, List.set_cons_zero, List.set_cons_succ]
    refine' wpAnyH_take (i := 26) (v := _) rfl (by kernel_rfl) (by kernel_rfl) (by kernel_rfl) (fun _ _ _ h => h) (yieldsIf_load_mid (by rfl) _ _ rfl _ _ rfl _ _ (fun _ h => h.2.1) hu rfl hi0) hHeld ?r26
    try simp only [List.getElem_toArray, List.getElem_cons_zero, List.getElem_cons_succ, Act.put, List.setIfInBounds_toArray, List.set_cons_zero, List.set_cons_succ]
    refine wpAnyH_take (i := 27) (v := ?v27) rfl (by kernel_rfl) (by kernel_rfl) (by kernel_rfl) (fun _ _ _ h => h) (Or.inl ⟨by rfl, ?y27⟩) hHeld ?r27
    case y27 => (intro wq hSw; go_simp; try with_reducible rfl)
    try simp only [List.getElem_toArray, List.getElem_cons_zero, List.getElem_cons_succ, Act.put, List.setIfInBounds_toArray, List.set_cons_zero, List.set_cons_succ]
    refine wpAnyH_take (i := 28) (v := ?v28) rfl (by kernel_rfl) (by kernel_rfl) (by kernel_rfl) (fun _ _ _ h => h) (Or.inl ⟨by rfl, ?y28⟩) hHeld ?r28
    case y28 => (intro wq hSw; go_simp; try with_reducible rfl)
    try simp only [List.getElem_toArray, List.getElem_cons_zero, List.getElem_cons_succ, Act.put, List.setIfInBounds_toArray, List.set_cons_zero, List.set_cons_succ]
    refine wpAnyH_take (i := 29) (v := ?v29) rfl (by kernel_rfl) (by kernel_rfl) (by kernel_rfl) (fun _ _ _ h => h) (Or.inl ⟨by rfl, ?y29⟩) hHeld ?r29
    case y29 => (intro wq hSw; go_simp; try with_reducible rfl)
    try simp only [List.getElem_toArray, List.getElem_cons_zero, List.getElem_cons_succ, Act.put, List.setIfInBounds_toArray, List.set_cons_zero, List.set_cons_succ]
    refine wpAnyH_done (by kernel_rfl) ?_ _
    go_wp2_with fail
    go_ret
    have hz6 := hb6.size
    simp at hz6
    subst ha0
    exact ⟨rfl, (hBB'.out.trans ((drewN_below _ 1).mono (Nat.le_of_lt g0))).trans ((hb6.mono (by simp; omega)).trans (hb7.mono (by omega)))⟩
end Go.Proofs.YtndnmepapmnnlaaDoor
