/- spec.Hits: pieces that go on along their ways, and the whole. For every position of pieces from 0 to 12. (Printed by gen_hj.py.) -/
import Derived.Test.YtplkcmlpomjojaaDoorHi
namespace Go.Proofs.YtplkcmlpomjojaaDoor
open Go Go.RowKit
set_option maxHeartbeats 8000000
set_option linter.unusedSimpArgs false
set_option linter.unusedVariables false
set_option maxRecDepth 100000

theorem hj_1 (p : List Int) (hp : Pos p) (a b : Int) (a0 : 0 ≤ a) (a1 : a ≤ 63) (b0 : 0 ≤ b) (b1 : b ≤ 63) (w : World) (hab : a ≠ b) (hx0 : pcAt p a ≠ 0) (k1 : kindOf (pcAt p a) ≠ 1) (k5 : kindOf (pcAt p a) ≠ 5) (k6 : kindOf (pcAt p a) ≠ 6) (hT : b % 8 - a % 8 = 0) :
    Calls Tryd.prog 15 #[.agg (ints p), .int .i64 a, .int .i64 b] w fun e w' => e = .returned (.bool (hitsB p a b)) ∧ Below w.heap.size w w' := by
  have hrow := heap_alloc_new w (.cells (ints p) 24)
  have hBW : Below w.heap.size w (w.alloc (.cells (ints p) 24)) := (Below.refl _ _).alloc (Nat.le_refl _) _
  have hcell : ∀ i : Int, 0 ≤ i → i ≤ 63 → (w.alloc (.cells (ints p) 24)).cell? ⟨w.heap.size, i.toNat, none⟩ = some (.int .i64 (pcAt p i)) := fun i h0 h1 => row_cell hrow i.toNat (by rw [hp.len]; omega)
  clear hrow
  have ca := hcell a a0 a1
  have xa0 : 0 ≤ pcAt p a := hp.lo _ (by omega)
  have xa1 : pcAt p a ≤ 12 := hp.hi _ (by omega)
  have hlines := lines_all a.toNat (by omega) b.toNat (by omega)
  rw [Int.toNat_of_nonneg a0, Int.toNat_of_nonneg b0] at hlines
  have hab2 : (a == b) = false := by simpa using hab
  have hx2 : (pcAt p a == 0) = false := by simpa using hx0
  have hk1 : (kindOf (pcAt p a) == 1) = false := by simpa using k1
  have hk5 : (kindOf (pcAt p a) == 5) = false := by simpa using k5
  have hk6 : (kindOf (pcAt p a) == 6) = false := by simpa using k6
  have hH : hitsB p a b = if (inLine a b && decide (kindOf (pcAt p a) ≠ 4)) || (inSlant a b && decide (kindOf (pcAt p a) ≠ 3)) then clearRun p (wayOf a b) (lineN a b) (a + wayOf a b) else false := by
    rw [hitsB, if_neg (by simp [hab, hx0]), if_neg k1, if_neg k5, if_neg k6]
  have t0 : (b % 8 - a % 8 == 0) = true := by first | (simp; omega) | (simp; done)
  have t1 : (b / 8 - a / 8 == 0) = false := by first | (simp; omega) | (simp; done)
  have t2 : (b % 8 - a % 8 == b / 8 - a / 8) = false := by first | (simp; omega) | (simp; done)
  have t3 : (b % 8 - a % 8 == -(b / 8 - a / 8)) = false := by first | (simp; omega) | (simp; done)
  have hin : inLine a b = true := by unfold inLine; simp; omega
  have hsl : inSlant a b = false := by unfold inSlant; simp; omega
  rw [hin, hsl] at hH
  obtain ⟨s10, s11⟩ := sgn_range (b % 8 - a % 8)
  obtain ⟨s20, s21⟩ := sgn_range (b / 8 - a / 8)
  have hc' := show Shut _ from hcell
  have hbw := show Shut _ from hBW
  have hw : wayOf a b = sgn (b % 8 - a % 8) + 8 * sgn (b / 8 - a / 8) := rfl
  have hnn : a.toNat ≠ b.toNat := fun h => hab (by omega)
  have hL : Line b (wayOf a b) (a + wayOf a b) (lineN a b) := line_of _ _ _ _ (hlines (by rw [hin, hsl]; simp [hnn]))
  rw [hw] at hL hH
  have hHs := show Shut _ from hH
  clear hH hw hnn hin hsl hlines hcell hBW hT hab hx0 k1 k5 k6
  generalize hxe : pcAt p a = x at *
  generalize lineN a b = N at *
  by_cases k3 : kindOf x = 3
  · rw [k3] at hHs
    go_enter Tryd.func15, Tryd.ntmps15
    go_wp2_with (first
        | (go_at_call 32; refine (po_file _ _ (by omega) (by omega)).mono ?_; rintro e1 w1 ⟨rfl, rfl⟩)
        | (go_at_call 25; refine (po_rank _ _ (by omega) (by omega)).mono ?_; rintro e1 w1 ⟨rfl, rfl⟩)
        | (go_at_call 24; refine (po_kindOf _ _ (by omega)).mono ?_; rintro e1 w1 ⟨rfl, rfl⟩)
        | (go_at_call 34; refine (hi_sign _ _ (by omega) (by omega)).mono ?_; rintro e1 w1 ⟨rfl, rfl⟩))
    go_loopw [12] (fun s wr => ∃ (i : Int) (n : Nat), s = .int .i64 i ∧ wr = w.alloc (.cells (ints p) 24) ∧ Line b (sgn (b % 8 - a % 8) + 8 * sgn (b / 8 - a / 8)) i n ∧ clearRun p (sgn (b % 8 - a % 8) + 8 * sgn (b / 8 - a / 8)) n i = hitsB p a b) (fun s _ => (b - intOf s).natAbs)
    case atStart => exact ⟨_, _, rfl, rfl, hL, hHs.out.symm⟩
    case round =>
      obtain ⟨i, n, rfl, rfl, hLi, hcl⟩ := hrel
      cases hLi with
      | nil =>
        have hcs := show Shut _ from hcl
        clear hcl hL
        go_wp2_with fail
        go_ret
        exact ⟨by rw [← hcs.out]; rfl, hbw.out⟩
      | cons _ n i0 i1 ine hdec hnext =>
        have ci := hc'.out i i0 i1
        have hne : (i == b) = false := by simpa using ine
        rw [clear_step] at hcl
        have hds := show Shut _ from And.intro hdec hnext
        clear hL hdec hnext ine
        by_cases hz : pcAt p i = 0
        · rw [decide_eq_true hz] at hcl
          rw [hz] at ci
          have hcs := show Shut _ from hcl
          clear hcl hz
          go_wp2_with fail
          go_roundw
          case rel => exact ⟨_, n, rfl, trivial, hds.out.2, hcs.out⟩
          case measure => exact hds.out.1
        · rw [decide_eq_false hz] at hcl
          have hz2 : (pcAt p i == 0) = false := by simpa using hz
          have hcs := show Shut _ from hcl
          clear hcl hz
          generalize pcAt p i = y at *
          go_wp2_with fail
          go_ret
          exact ⟨by rw [← hcs.out]; rfl, hbw.out⟩
  by_cases k4 : kindOf x = 4
  · rw [k4] at hHs
    go_enter Tryd.func15, Tryd.ntmps15
    go_wp2_with (first
        | (go_at_call 32; refine (po_file _ _ (by omega) (by omega)).mono ?_; rintro e1 w1 ⟨rfl, rfl⟩)
        | (go_at_call 25; refine (po_rank _ _ (by omega) (by omega)).mono ?_; rintro e1 w1 ⟨rfl, rfl⟩)
        | (go_at_call 24; refine (po_kindOf _ _ (by omega)).mono ?_; rintro e1 w1 ⟨rfl, rfl⟩)
        | (go_at_call 34; refine (hi_sign _ _ (by omega) (by omega)).mono ?_; rintro e1 w1 ⟨rfl, rfl⟩))
    go_ret
    exact ⟨by rw [hHs.out]; rfl, hbw.out⟩
  · have hk3 : (kindOf x == 3) = false := by simpa using k3
    have hk4 : (kindOf x == 4) = false := by simpa using k4
    rw [show decide (kindOf x ≠ 3) = true from by simpa using k3, show decide (kindOf x ≠ 4) = true from by simpa using k4] at hHs
    clear k3 k4
    go_enter Tryd.func15, Tryd.ntmps15
    go_wp2_with (first
        | (go_at_call 32; refine (po_file _ _ (by omega) (by omega)).mono ?_; rintro e1 w1 ⟨rfl, rfl⟩)
        | (go_at_call 25; refine (po_rank _ _ (by omega) (by omega)).mono ?_; rintro e1 w1 ⟨rfl, rfl⟩)
        | (go_at_call 24; refine (po_kindOf _ _ (by omega)).mono ?_; rintro e1 w1 ⟨rfl, rfl⟩)
        | (go_at_call 34; refine (hi_sign _ _ (by omega) (by omega)).mono ?_; rintro e1 w1 ⟨rfl, rfl⟩))
    go_loopw [12] (fun s wr => ∃ (i : Int) (n : Nat), s = .int .i64 i ∧ wr = w.alloc (.cells (ints p) 24) ∧ Line b (sgn (b % 8 - a % 8) + 8 * sgn (b / 8 - a / 8)) i n ∧ clearRun p (sgn (b % 8 - a % 8) + 8 * sgn (b / 8 - a / 8)) n i = hitsB p a b) (fun s _ => (b - intOf s).natAbs)
    case atStart => exact ⟨_, _, rfl, rfl, hL, hHs.out.symm⟩
    case round =>
      obtain ⟨i, n, rfl, rfl, hLi, hcl⟩ := hrel
      cases hLi with
      | nil =>
        have hcs := show Shut _ from hcl
        clear hcl hL
        go_wp2_with fail
        go_ret
        exact ⟨by rw [← hcs.out]; rfl, hbw.out⟩
      | cons _ n i0 i1 ine hdec hnext =>
        have ci := hc'.out i i0 i1
        have hne : (i == b) = false := by simpa using ine
        rw [clear_step] at hcl
        have hds := show Shut _ from And.intro hdec hnext
        clear hL hdec hnext ine
        by_cases hz : pcAt p i = 0
        · rw [decide_eq_true hz] at hcl
          rw [hz] at ci
          have hcs := show Shut _ from hcl
          clear hcl hz
          go_wp2_with fail
          go_roundw
          case rel => exact ⟨_, n, rfl, trivial, hds.out.2, hcs.out⟩
          case measure => exact hds.out.1
        · rw [decide_eq_false hz] at hcl
          have hz2 : (pcAt p i == 0) = false := by simpa using hz
          have hcs := show Shut _ from hcl
          clear hcl hz
          generalize pcAt p i = y at *
          go_wp2_with fail
          go_ret
          exact ⟨by rw [← hcs.out]; rfl, hbw.out⟩
theorem hj_2 (p : List Int) (hp : Pos p) (a b : Int) (a0 : 0 ≤ a) (a1 : a ≤ 63) (b0 : 0 ≤ b) (b1 : b ≤ 63) (w : World) (hab : a ≠ b) (hx0 : pcAt p a ≠ 0) (k1 : kindOf (pcAt p a) ≠ 1) (k5 : kindOf (pcAt p a) ≠ 5) (k6 : kindOf (pcAt p a) ≠ 6) (hT : b / 8 - a / 8 = 0) :
    Calls Tryd.prog 15 #[.agg (ints p), .int .i64 a, .int .i64 b] w fun e w' => e = .returned (.bool (hitsB p a b)) ∧ Below w.heap.size w w' := by
  have hrow := heap_alloc_new w (.cells (ints p) 24)
  have hBW : Below w.heap.size w (w.alloc (.cells (ints p) 24)) := (Below.refl _ _).alloc (Nat.le_refl _) _
  have hcell : ∀ i : Int, 0 ≤ i → i ≤ 63 → (w.alloc (.cells (ints p) 24)).cell? ⟨w.heap.size, i.toNat, none⟩ = some (.int .i64 (pcAt p i)) := fun i h0 h1 => row_cell hrow i.toNat (by rw [hp.len]; omega)
  clear hrow
  have ca := hcell a a0 a1
  have xa0 : 0 ≤ pcAt p a := hp.lo _ (by omega)
  have xa1 : pcAt p a ≤ 12 := hp.hi _ (by omega)
  have hlines := lines_all a.toNat (by omega) b.toNat (by omega)
  rw [Int.toNat_of_nonneg a0, Int.toNat_of_nonneg b0] at hlines
  have hab2 : (a == b) = false := by simpa using hab
  have hx2 : (pcAt p a == 0) = false := by simpa using hx0
  have hk1 : (kindOf (pcAt p a) == 1) = false := by simpa using k1
  have hk5 : (kindOf (pcAt p a) == 5) = false := by simpa using k5
  have hk6 : (kindOf (pcAt p a) == 6) = false := by simpa using k6
  have hH : hitsB p a b = if (inLine a b && decide (kindOf (pcAt p a) ≠ 4)) || (inSlant a b && decide (kindOf (pcAt p a) ≠ 3)) then clearRun p (wayOf a b) (lineN a b) (a + wayOf a b) else false := by
    rw [hitsB, if_neg (by simp [hab, hx0]), if_neg k1, if_neg k5, if_neg k6]
  have t0 : (b % 8 - a % 8 == 0) = false := by first | (simp; omega) | (simp; done)
  have t1 : (b / 8 - a / 8 == 0) = true := by first | (simp; omega) | (simp; done)
  have t2 : (b % 8 - a % 8 == b / 8 - a / 8) = false := by first | (simp; omega) | (simp; done)
  have t3 : (b % 8 - a % 8 == -(b / 8 - a / 8)) = false := by first | (simp; omega) | (simp; done)
  have hin : inLine a b = true := by unfold inLine; simp; omega
  have hsl : inSlant a b = false := by unfold inSlant; simp; omega
  rw [hin, hsl] at hH
  obtain ⟨s10, s11⟩ := sgn_range (b % 8 - a % 8)
  obtain ⟨s20, s21⟩ := sgn_range (b / 8 - a / 8)
  have hc' := show Shut _ from hcell
  have hbw := show Shut _ from hBW
  have hw : wayOf a b = sgn (b % 8 - a % 8) + 8 * sgn (b / 8 - a / 8) := rfl
  have hnn : a.toNat ≠ b.toNat := fun h => hab (by omega)
  have hL : Line b (wayOf a b) (a + wayOf a b) (lineN a b) := line_of _ _ _ _ (hlines (by rw [hin, hsl]; simp [hnn]))
  rw [hw] at hL hH
  have hHs := show Shut _ from hH
  clear hH hw hnn hin hsl hlines hcell hBW hT hab hx0 k1 k5 k6
  generalize hxe : pcAt p a = x at *
  generalize lineN a b = N at *
  by_cases k3 : kindOf x = 3
  · rw [k3] at hHs
    go_enter Tryd.func15, Tryd.ntmps15
    go_wp2_with (first
        | (go_at_call 32; refine (po_file _ _ (by omega) (by omega)).mono ?_; rintro e1 w1 ⟨rfl, rfl⟩)
        | (go_at_call 25; refine (po_rank _ _ (by omega) (by omega)).mono ?_; rintro e1 w1 ⟨rfl, rfl⟩)
        | (go_at_call 24; refine (po_kindOf _ _ (by omega)).mono ?_; rintro e1 w1 ⟨rfl, rfl⟩)
        | (go_at_call 34; refine (hi_sign _ _ (by omega) (by omega)).mono ?_; rintro e1 w1 ⟨rfl, rfl⟩))
    go_loopw [12] (fun s wr => ∃ (i : Int) (n : Nat), s = .int .i64 i ∧ wr = w.alloc (.cells (ints p) 24) ∧ Line b (sgn (b % 8 - a % 8) + 8 * sgn (b / 8 - a / 8)) i n ∧ clearRun p (sgn (b % 8 - a % 8) + 8 * sgn (b / 8 - a / 8)) n i = hitsB p a b) (fun s _ => (b - intOf s).natAbs)
    case atStart => exact ⟨_, _, rfl, rfl, hL, hHs.out.symm⟩
    case round =>
      obtain ⟨i, n, rfl, rfl, hLi, hcl⟩ := hrel
      cases hLi with
      | nil =>
        have hcs := show Shut _ from hcl
        clear hcl hL
        go_wp2_with fail
        go_ret
        exact ⟨by rw [← hcs.out]; rfl, hbw.out⟩
      | cons _ n i0 i1 ine hdec hnext =>
        have ci := hc'.out i i0 i1
        have hne : (i == b) = false := by simpa using ine
        rw [clear_step] at hcl
        have hds := show Shut _ from And.intro hdec hnext
        clear hL hdec hnext ine
        by_cases hz : pcAt p i = 0
        · rw [decide_eq_true hz] at hcl
          rw [hz] at ci
          have hcs := show Shut _ from hcl
          clear hcl hz
          go_wp2_with fail
          go_roundw
          case rel => exact ⟨_, n, rfl, trivial, hds.out.2, hcs.out⟩
          case measure => exact hds.out.1
        · rw [decide_eq_false hz] at hcl
          have hz2 : (pcAt p i == 0) = false := by simpa using hz
          have hcs := show Shut _ from hcl
          clear hcl hz
          generalize pcAt p i = y at *
          go_wp2_with fail
          go_ret
          exact ⟨by rw [← hcs.out]; rfl, hbw.out⟩
  by_cases k4 : kindOf x = 4
  · rw [k4] at hHs
    go_enter Tryd.func15, Tryd.ntmps15
    go_wp2_with (first
        | (go_at_call 32; refine (po_file _ _ (by omega) (by omega)).mono ?_; rintro e1 w1 ⟨rfl, rfl⟩)
        | (go_at_call 25; refine (po_rank _ _ (by omega) (by omega)).mono ?_; rintro e1 w1 ⟨rfl, rfl⟩)
        | (go_at_call 24; refine (po_kindOf _ _ (by omega)).mono ?_; rintro e1 w1 ⟨rfl, rfl⟩)
        | (go_at_call 34; refine (hi_sign _ _ (by omega) (by omega)).mono ?_; rintro e1 w1 ⟨rfl, rfl⟩))
    go_ret
    exact ⟨by rw [hHs.out]; rfl, hbw.out⟩
  · have hk3 : (kindOf x == 3) = false := by simpa using k3
    have hk4 : (kindOf x == 4) = false := by simpa using k4
    rw [show decide (kindOf x ≠ 3) = true from by simpa using k3, show decide (kindOf x ≠ 4) = true from by simpa using k4] at hHs
    clear k3 k4
    go_enter Tryd.func15, Tryd.ntmps15
    go_wp2_with (first
        | (go_at_call 32; refine (po_file _ _ (by omega) (by omega)).mono ?_; rintro e1 w1 ⟨rfl, rfl⟩)
        | (go_at_call 25; refine (po_rank _ _ (by omega) (by omega)).mono ?_; rintro e1 w1 ⟨rfl, rfl⟩)
        | (go_at_call 24; refine (po_kindOf _ _ (by omega)).mono ?_; rintro e1 w1 ⟨rfl, rfl⟩)
        | (go_at_call 34; refine (hi_sign _ _ (by omega) (by omega)).mono ?_; rintro e1 w1 ⟨rfl, rfl⟩))
    go_loopw [12] (fun s wr => ∃ (i : Int) (n : Nat), s = .int .i64 i ∧ wr = w.alloc (.cells (ints p) 24) ∧ Line b (sgn (b % 8 - a % 8) + 8 * sgn (b / 8 - a / 8)) i n ∧ clearRun p (sgn (b % 8 - a % 8) + 8 * sgn (b / 8 - a / 8)) n i = hitsB p a b) (fun s _ => (b - intOf s).natAbs)
    case atStart => exact ⟨_, _, rfl, rfl, hL, hHs.out.symm⟩
    case round =>
      obtain ⟨i, n, rfl, rfl, hLi, hcl⟩ := hrel
      cases hLi with
      | nil =>
        have hcs := show Shut _ from hcl
        clear hcl hL
        go_wp2_with fail
        go_ret
        exact ⟨by rw [← hcs.out]; rfl, hbw.out⟩
      | cons _ n i0 i1 ine hdec hnext =>
        have ci := hc'.out i i0 i1
        have hne : (i == b) = false := by simpa using ine
        rw [clear_step] at hcl
        have hds := show Shut _ from And.intro hdec hnext
        clear hL hdec hnext ine
        by_cases hz : pcAt p i = 0
        · rw [decide_eq_true hz] at hcl
          rw [hz] at ci
          have hcs := show Shut _ from hcl
          clear hcl hz
          go_wp2_with fail
          go_roundw
          case rel => exact ⟨_, n, rfl, trivial, hds.out.2, hcs.out⟩
          case measure => exact hds.out.1
        · rw [decide_eq_false hz] at hcl
          have hz2 : (pcAt p i == 0) = false := by simpa using hz
          have hcs := show Shut _ from hcl
          clear hcl hz
          generalize pcAt p i = y at *
          go_wp2_with fail
          go_ret
          exact ⟨by rw [← hcs.out]; rfl, hbw.out⟩
theorem hj_3 (p : List Int) (hp : Pos p) (a b : Int) (a0 : 0 ≤ a) (a1 : a ≤ 63) (b0 : 0 ≤ b) (b1 : b ≤ 63) (w : World) (hab : a ≠ b) (hx0 : pcAt p a ≠ 0) (k1 : kindOf (pcAt p a) ≠ 1) (k5 : kindOf (pcAt p a) ≠ 5) (k6 : kindOf (pcAt p a) ≠ 6) (hT : b % 8 - a % 8 = b / 8 - a / 8) :
    Calls Tryd.prog 15 #[.agg (ints p), .int .i64 a, .int .i64 b] w fun e w' => e = .returned (.bool (hitsB p a b)) ∧ Below w.heap.size w w' := by
  have hrow := heap_alloc_new w (.cells (ints p) 24)
  have hBW : Below w.heap.size w (w.alloc (.cells (ints p) 24)) := (Below.refl _ _).alloc (Nat.le_refl _) _
  have hcell : ∀ i : Int, 0 ≤ i → i ≤ 63 → (w.alloc (.cells (ints p) 24)).cell? ⟨w.heap.size, i.toNat, none⟩ = some (.int .i64 (pcAt p i)) := fun i h0 h1 => row_cell hrow i.toNat (by rw [hp.len]; omega)
  clear hrow
  have ca := hcell a a0 a1
  have xa0 : 0 ≤ pcAt p a := hp.lo _ (by omega)
  have xa1 : pcAt p a ≤ 12 := hp.hi _ (by omega)
  have hlines := lines_all a.toNat (by omega) b.toNat (by omega)
  rw [Int.toNat_of_nonneg a0, Int.toNat_of_nonneg b0] at hlines
  have hab2 : (a == b) = false := by simpa using hab
  have hx2 : (pcAt p a == 0) = false := by simpa using hx0
  have hk1 : (kindOf (pcAt p a) == 1) = false := by simpa using k1
  have hk5 : (kindOf (pcAt p a) == 5) = false := by simpa using k5
  have hk6 : (kindOf (pcAt p a) == 6) = false := by simpa using k6
  have hH : hitsB p a b = if (inLine a b && decide (kindOf (pcAt p a) ≠ 4)) || (inSlant a b && decide (kindOf (pcAt p a) ≠ 3)) then clearRun p (wayOf a b) (lineN a b) (a + wayOf a b) else false := by
    rw [hitsB, if_neg (by simp [hab, hx0]), if_neg k1, if_neg k5, if_neg k6]
  have t0 : (b % 8 - a % 8 == 0) = false := by first | (simp; omega) | (simp; done)
  have t1 : (b / 8 - a / 8 == 0) = false := by first | (simp; omega) | (simp; done)
  have t2 : (b % 8 - a % 8 == b / 8 - a / 8) = true := by first | (simp; omega) | (simp; done)
  have t3 : (b % 8 - a % 8 == -(b / 8 - a / 8)) = false := by first | (simp; omega) | (simp; done)
  have hin : inLine a b = false := by unfold inLine; simp; omega
  have hsl : inSlant a b = true := by unfold inSlant; simp; omega
  rw [hin, hsl] at hH
  obtain ⟨s10, s11⟩ := sgn_range (b % 8 - a % 8)
  obtain ⟨s20, s21⟩ := sgn_range (b / 8 - a / 8)
  have hc' := show Shut _ from hcell
  have hbw := show Shut _ from hBW
  have hw : wayOf a b = sgn (b % 8 - a % 8) + 8 * sgn (b / 8 - a / 8) := rfl
  have hnn : a.toNat ≠ b.toNat := fun h => hab (by omega)
  have hL : Line b (wayOf a b) (a + wayOf a b) (lineN a b) := line_of _ _ _ _ (hlines (by rw [hin, hsl]; simp [hnn]))
  rw [hw] at hL hH
  have hHs := show Shut _ from hH
  clear hH hw hnn hin hsl hlines hcell hBW hT hab hx0 k1 k5 k6
  generalize hxe : pcAt p a = x at *
  generalize lineN a b = N at *
  by_cases k3 : kindOf x = 3
  · rw [k3] at hHs
    go_enter Tryd.func15, Tryd.ntmps15
    go_wp2_with (first
        | (go_at_call 32; refine (po_file _ _ (by omega) (by omega)).mono ?_; rintro e1 w1 ⟨rfl, rfl⟩)
        | (go_at_call 25; refine (po_rank _ _ (by omega) (by omega)).mono ?_; rintro e1 w1 ⟨rfl, rfl⟩)
        | (go_at_call 24; refine (po_kindOf _ _ (by omega)).mono ?_; rintro e1 w1 ⟨rfl, rfl⟩)
        | (go_at_call 34; refine (hi_sign _ _ (by omega) (by omega)).mono ?_; rintro e1 w1 ⟨rfl, rfl⟩))
    go_ret
    exact ⟨by rw [hHs.out]; rfl, hbw.out⟩
  by_cases k4 : kindOf x = 4
  · rw [k4] at hHs
    go_enter Tryd.func15, Tryd.ntmps15
    go_wp2_with (first
        | (go_at_call 32; refine (po_file _ _ (by omega) (by omega)).mono ?_; rintro e1 w1 ⟨rfl, rfl⟩)
        | (go_at_call 25; refine (po_rank _ _ (by omega) (by omega)).mono ?_; rintro e1 w1 ⟨rfl, rfl⟩)
        | (go_at_call 24; refine (po_kindOf _ _ (by omega)).mono ?_; rintro e1 w1 ⟨rfl, rfl⟩)
        | (go_at_call 34; refine (hi_sign _ _ (by omega) (by omega)).mono ?_; rintro e1 w1 ⟨rfl, rfl⟩))
    go_loopw [12] (fun s wr => ∃ (i : Int) (n : Nat), s = .int .i64 i ∧ wr = w.alloc (.cells (ints p) 24) ∧ Line b (sgn (b % 8 - a % 8) + 8 * sgn (b / 8 - a / 8)) i n ∧ clearRun p (sgn (b % 8 - a % 8) + 8 * sgn (b / 8 - a / 8)) n i = hitsB p a b) (fun s _ => (b - intOf s).natAbs)
    case atStart => exact ⟨_, _, rfl, rfl, hL, hHs.out.symm⟩
    case round =>
      obtain ⟨i, n, rfl, rfl, hLi, hcl⟩ := hrel
      cases hLi with
      | nil =>
        have hcs := show Shut _ from hcl
        clear hcl hL
        go_wp2_with fail
        go_ret
        exact ⟨by rw [← hcs.out]; rfl, hbw.out⟩
      | cons _ n i0 i1 ine hdec hnext =>
        have ci := hc'.out i i0 i1
        have hne : (i == b) = false := by simpa using ine
        rw [clear_step] at hcl
        have hds := show Shut _ from And.intro hdec hnext
        clear hL hdec hnext ine
        by_cases hz : pcAt p i = 0
        · rw [decide_eq_true hz] at hcl
          rw [hz] at ci
          have hcs := show Shut _ from hcl
          clear hcl hz
          go_wp2_with fail
          go_roundw
          case rel => exact ⟨_, n, rfl, trivial, hds.out.2, hcs.out⟩
          case measure => exact hds.out.1
        · rw [decide_eq_false hz] at hcl
          have hz2 : (pcAt p i == 0) = false := by simpa using hz
          have hcs := show Shut _ from hcl
          clear hcl hz
          generalize pcAt p i = y at *
          go_wp2_with fail
          go_ret
          exact ⟨by rw [← hcs.out]; rfl, hbw.out⟩
  · have hk3 : (kindOf x == 3) = false := by simpa using k3
    have hk4 : (kindOf x == 4) = false := by simpa using k4
    rw [show decide (kindOf x ≠ 3) = true from by simpa using k3, show decide (kindOf x ≠ 4) = true from by simpa using k4] at hHs
    clear k3 k4
    go_enter Tryd.func15, Tryd.ntmps15
    go_wp2_with (first
        | (go_at_call 32; refine (po_file _ _ (by omega) (by omega)).mono ?_; rintro e1 w1 ⟨rfl, rfl⟩)
        | (go_at_call 25; refine (po_rank _ _ (by omega) (by omega)).mono ?_; rintro e1 w1 ⟨rfl, rfl⟩)
        | (go_at_call 24; refine (po_kindOf _ _ (by omega)).mono ?_; rintro e1 w1 ⟨rfl, rfl⟩)
        | (go_at_call 34; refine (hi_sign _ _ (by omega) (by omega)).mono ?_; rintro e1 w1 ⟨rfl, rfl⟩))
    go_loopw [12] (fun s wr => ∃ (i : Int) (n : Nat), s = .int .i64 i ∧ wr = w.alloc (.cells (ints p) 24) ∧ Line b (sgn (b % 8 - a % 8) + 8 * sgn (b / 8 - a / 8)) i n ∧ clearRun p (sgn (b % 8 - a % 8) + 8 * sgn (b / 8 - a / 8)) n i = hitsB p a b) (fun s _ => (b - intOf s).natAbs)
    case atStart => exact ⟨_, _, rfl, rfl, hL, hHs.out.symm⟩
    case round =>
      obtain ⟨i, n, rfl, rfl, hLi, hcl⟩ := hrel
      cases hLi with
      | nil =>
        have hcs := show Shut _ from hcl
        clear hcl hL
        go_wp2_with fail
        go_ret
        exact ⟨by rw [← hcs.out]; rfl, hbw.out⟩
      | cons _ n i0 i1 ine hdec hnext =>
        have ci := hc'.out i i0 i1
        have hne : (i == b) = false := by simpa using ine
        rw [clear_step] at hcl
        have hds := show Shut _ from And.intro hdec hnext
        clear hL hdec hnext ine
        by_cases hz : pcAt p i = 0
        · rw [decide_eq_true hz] at hcl
          rw [hz] at ci
          have hcs := show Shut _ from hcl
          clear hcl hz
          go_wp2_with fail
          go_roundw
          case rel => exact ⟨_, n, rfl, trivial, hds.out.2, hcs.out⟩
          case measure => exact hds.out.1
        · rw [decide_eq_false hz] at hcl
          have hz2 : (pcAt p i == 0) = false := by simpa using hz
          have hcs := show Shut _ from hcl
          clear hcl hz
          generalize pcAt p i = y at *
          go_wp2_with fail
          go_ret
          exact ⟨by rw [← hcs.out]; rfl, hbw.out⟩
theorem hj_4 (p : List Int) (hp : Pos p) (a b : Int) (a0 : 0 ≤ a) (a1 : a ≤ 63) (b0 : 0 ≤ b) (b1 : b ≤ 63) (w : World) (hab : a ≠ b) (hx0 : pcAt p a ≠ 0) (k1 : kindOf (pcAt p a) ≠ 1) (k5 : kindOf (pcAt p a) ≠ 5) (k6 : kindOf (pcAt p a) ≠ 6) (hT : b % 8 - a % 8 = -(b / 8 - a / 8)) :
    Calls Tryd.prog 15 #[.agg (ints p), .int .i64 a, .int .i64 b] w fun e w' => e = .returned (.bool (hitsB p a b)) ∧ Below w.heap.size w w' := by
  have hrow := heap_alloc_new w (.cells (ints p) 24)
  have hBW : Below w.heap.size w (w.alloc (.cells (ints p) 24)) := (Below.refl _ _).alloc (Nat.le_refl _) _
  have hcell : ∀ i : Int, 0 ≤ i → i ≤ 63 → (w.alloc (.cells (ints p) 24)).cell? ⟨w.heap.size, i.toNat, none⟩ = some (.int .i64 (pcAt p i)) := fun i h0 h1 => row_cell hrow i.toNat (by rw [hp.len]; omega)
  clear hrow
  have ca := hcell a a0 a1
  have xa0 : 0 ≤ pcAt p a := hp.lo _ (by omega)
  have xa1 : pcAt p a ≤ 12 := hp.hi _ (by omega)
  have hlines := lines_all a.toNat (by omega) b.toNat (by omega)
  rw [Int.toNat_of_nonneg a0, Int.toNat_of_nonneg b0] at hlines
  have hab2 : (a == b) = false := by simpa using hab
  have hx2 : (pcAt p a == 0) = false := by simpa using hx0
  have hk1 : (kindOf (pcAt p a) == 1) = false := by simpa using k1
  have hk5 : (kindOf (pcAt p a) == 5) = false := by simpa using k5
  have hk6 : (kindOf (pcAt p a) == 6) = false := by simpa using k6
  have hH : hitsB p a b = if (inLine a b && decide (kindOf (pcAt p a) ≠ 4)) || (inSlant a b && decide (kindOf (pcAt p a) ≠ 3)) then clearRun p (wayOf a b) (lineN a b) (a + wayOf a b) else false := by
    rw [hitsB, if_neg (by simp [hab, hx0]), if_neg k1, if_neg k5, if_neg k6]
  have t0 : (b % 8 - a % 8 == 0) = false := by first | (simp; omega) | (simp; done)
  have t1 : (b / 8 - a / 8 == 0) = false := by first | (simp; omega) | (simp; done)
  have t2 : (b % 8 - a % 8 == b / 8 - a / 8) = false := by first | (simp; omega) | (simp; done)
  have t3 : (b % 8 - a % 8 == -(b / 8 - a / 8)) = true := by first | (simp; omega) | (simp; done)
  have hin : inLine a b = false := by unfold inLine; simp; omega
  have hsl : inSlant a b = true := by unfold inSlant; simp; omega
  rw [hin, hsl] at hH
  obtain ⟨s10, s11⟩ := sgn_range (b % 8 - a % 8)
  obtain ⟨s20, s21⟩ := sgn_range (b / 8 - a / 8)
  have hc' := show Shut _ from hcell
  have hbw := show Shut _ from hBW
  have hw : wayOf a b = sgn (b % 8 - a % 8) + 8 * sgn (b / 8 - a / 8) := rfl
  have hnn : a.toNat ≠ b.toNat := fun h => hab (by omega)
  have hL : Line b (wayOf a b) (a + wayOf a b) (lineN a b) := line_of _ _ _ _ (hlines (by rw [hin, hsl]; simp [hnn]))
  rw [hw] at hL hH
  have hHs := show Shut _ from hH
  clear hH hw hnn hin hsl hlines hcell hBW hT hab hx0 k1 k5 k6
  generalize hxe : pcAt p a = x at *
  generalize lineN a b = N at *
  by_cases k3 : kindOf x = 3
  · rw [k3] at hHs
    go_enter Tryd.func15, Tryd.ntmps15
    go_wp2_with (first
        | (go_at_call 32; refine (po_file _ _ (by omega) (by omega)).mono ?_; rintro e1 w1 ⟨rfl, rfl⟩)
        | (go_at_call 25; refine (po_rank _ _ (by omega) (by omega)).mono ?_; rintro e1 w1 ⟨rfl, rfl⟩)
        | (go_at_call 24; refine (po_kindOf _ _ (by omega)).mono ?_; rintro e1 w1 ⟨rfl, rfl⟩)
        | (go_at_call 34; refine (hi_sign _ _ (by omega) (by omega)).mono ?_; rintro e1 w1 ⟨rfl, rfl⟩))
    go_ret
    exact ⟨by rw [hHs.out]; rfl, hbw.out⟩
  by_cases k4 : kindOf x = 4
  · rw [k4] at hHs
    go_enter Tryd.func15, Tryd.ntmps15
    go_wp2_with (first
        | (go_at_call 32; refine (po_file _ _ (by omega) (by omega)).mono ?_; rintro e1 w1 ⟨rfl, rfl⟩)
        | (go_at_call 25; refine (po_rank _ _ (by omega) (by omega)).mono ?_; rintro e1 w1 ⟨rfl, rfl⟩)
        | (go_at_call 24; refine (po_kindOf _ _ (by omega)).mono ?_; rintro e1 w1 ⟨rfl, rfl⟩)
        | (go_at_call 34; refine (hi_sign _ _ (by omega) (by omega)).mono ?_; rintro e1 w1 ⟨rfl, rfl⟩))
    go_loopw [12] (fun s wr => ∃ (i : Int) (n : Nat), s = .int .i64 i ∧ wr = w.alloc (.cells (ints p) 24) ∧ Line b (sgn (b % 8 - a % 8) + 8 * sgn (b / 8 - a / 8)) i n ∧ clearRun p (sgn (b % 8 - a % 8) + 8 * sgn (b / 8 - a / 8)) n i = hitsB p a b) (fun s _ => (b - intOf s).natAbs)
    case atStart => exact ⟨_, _, rfl, rfl, hL, hHs.out.symm⟩
    case round =>
      obtain ⟨i, n, rfl, rfl, hLi, hcl⟩ := hrel
      cases hLi with
      | nil =>
        have hcs := show Shut _ from hcl
        clear hcl hL
        go_wp2_with fail
        go_ret
        exact ⟨by rw [← hcs.out]; rfl, hbw.out⟩
      | cons _ n i0 i1 ine hdec hnext =>
        have ci := hc'.out i i0 i1
        have hne : (i == b) = false := by simpa using ine
        rw [clear_step] at hcl
        have hds := show Shut _ from And.intro hdec hnext
        clear hL hdec hnext ine
        by_cases hz : pcAt p i = 0
        · rw [decide_eq_true hz] at hcl
          rw [hz] at ci
          have hcs := show Shut _ from hcl
          clear hcl hz
          go_wp2_with fail
          go_roundw
          case rel => exact ⟨_, n, rfl, trivial, hds.out.2, hcs.out⟩
          case measure => exact hds.out.1
        · rw [decide_eq_false hz] at hcl
          have hz2 : (pcAt p i == 0) = false := by simpa using hz
          have hcs := show Shut _ from hcl
          clear hcl hz
          generalize pcAt p i = y at *
          go_wp2_with fail
          go_ret
          exact ⟨by rw [← hcs.out]; rfl, hbw.out⟩
  · have hk3 : (kindOf x == 3) = false := by simpa using k3
    have hk4 : (kindOf x == 4) = false := by simpa using k4
    rw [show decide (kindOf x ≠ 3) = true from by simpa using k3, show decide (kindOf x ≠ 4) = true from by simpa using k4] at hHs
    clear k3 k4
    go_enter Tryd.func15, Tryd.ntmps15
    go_wp2_with (first
        | (go_at_call 32; refine (po_file _ _ (by omega) (by omega)).mono ?_; rintro e1 w1 ⟨rfl, rfl⟩)
        | (go_at_call 25; refine (po_rank _ _ (by omega) (by omega)).mono ?_; rintro e1 w1 ⟨rfl, rfl⟩)
        | (go_at_call 24; refine (po_kindOf _ _ (by omega)).mono ?_; rintro e1 w1 ⟨rfl, rfl⟩)
        | (go_at_call 34; refine (hi_sign _ _ (by omega) (by omega)).mono ?_; rintro e1 w1 ⟨rfl, rfl⟩))
    go_loopw [12] (fun s wr => ∃ (i : Int) (n : Nat), s = .int .i64 i ∧ wr = w.alloc (.cells (ints p) 24) ∧ Line b (sgn (b % 8 - a % 8) + 8 * sgn (b / 8 - a / 8)) i n ∧ clearRun p (sgn (b % 8 - a % 8) + 8 * sgn (b / 8 - a / 8)) n i = hitsB p a b) (fun s _ => (b - intOf s).natAbs)
    case atStart => exact ⟨_, _, rfl, rfl, hL, hHs.out.symm⟩
    case round =>
      obtain ⟨i, n, rfl, rfl, hLi, hcl⟩ := hrel
      cases hLi with
      | nil =>
        have hcs := show Shut _ from hcl
        clear hcl hL
        go_wp2_with fail
        go_ret
        exact ⟨by rw [← hcs.out]; rfl, hbw.out⟩
      | cons _ n i0 i1 ine hdec hnext =>
        have ci := hc'.out i i0 i1
        have hne : (i == b) = false := by simpa using ine
        rw [clear_step] at hcl
        have hds := show Shut _ from And.intro hdec hnext
        clear hL hdec hnext ine
        by_cases hz : pcAt p i = 0
        · rw [decide_eq_true hz] at hcl
          rw [hz] at ci
          have hcs := show Shut _ from hcl
          clear hcl hz
          go_wp2_with fail
          go_roundw
          case rel => exact ⟨_, n, rfl, trivial, hds.out.2, hcs.out⟩
          case measure => exact hds.out.1
        · rw [decide_eq_false hz] at hcl
          have hz2 : (pcAt p i == 0) = false := by simpa using hz
          have hcs := show Shut _ from hcl
          clear hcl hz
          generalize pcAt p i = y at *
          go_wp2_with fail
          go_ret
          exact ⟨by rw [← hcs.out]; rfl, hbw.out⟩
theorem hj_5 (p : List Int) (hp : Pos p) (a b : Int) (a0 : 0 ≤ a) (a1 : a ≤ 63) (b0 : 0 ≤ b) (b1 : b ≤ 63) (w : World) (hab : a ≠ b) (hx0 : pcAt p a ≠ 0) (k1 : kindOf (pcAt p a) ≠ 1) (k5 : kindOf (pcAt p a) ≠ 5) (k6 : kindOf (pcAt p a) ≠ 6) (hT : b % 8 - a % 8 ≠ 0 ∧ b / 8 - a / 8 ≠ 0 ∧ b % 8 - a % 8 ≠ b / 8 - a / 8 ∧ b % 8 - a % 8 ≠ -(b / 8 - a / 8)) :
    Calls Tryd.prog 15 #[.agg (ints p), .int .i64 a, .int .i64 b] w fun e w' => e = .returned (.bool (hitsB p a b)) ∧ Below w.heap.size w w' := by
  have hrow := heap_alloc_new w (.cells (ints p) 24)
  have hBW : Below w.heap.size w (w.alloc (.cells (ints p) 24)) := (Below.refl _ _).alloc (Nat.le_refl _) _
  have hcell : ∀ i : Int, 0 ≤ i → i ≤ 63 → (w.alloc (.cells (ints p) 24)).cell? ⟨w.heap.size, i.toNat, none⟩ = some (.int .i64 (pcAt p i)) := fun i h0 h1 => row_cell hrow i.toNat (by rw [hp.len]; omega)
  clear hrow
  have ca := hcell a a0 a1
  have xa0 : 0 ≤ pcAt p a := hp.lo _ (by omega)
  have xa1 : pcAt p a ≤ 12 := hp.hi _ (by omega)
  have hlines := lines_all a.toNat (by omega) b.toNat (by omega)
  rw [Int.toNat_of_nonneg a0, Int.toNat_of_nonneg b0] at hlines
  have hab2 : (a == b) = false := by simpa using hab
  have hx2 : (pcAt p a == 0) = false := by simpa using hx0
  have hk1 : (kindOf (pcAt p a) == 1) = false := by simpa using k1
  have hk5 : (kindOf (pcAt p a) == 5) = false := by simpa using k5
  have hk6 : (kindOf (pcAt p a) == 6) = false := by simpa using k6
  have hH : hitsB p a b = if (inLine a b && decide (kindOf (pcAt p a) ≠ 4)) || (inSlant a b && decide (kindOf (pcAt p a) ≠ 3)) then clearRun p (wayOf a b) (lineN a b) (a + wayOf a b) else false := by
    rw [hitsB, if_neg (by simp [hab, hx0]), if_neg k1, if_neg k5, if_neg k6]
  have t0 : (b % 8 - a % 8 == 0) = false := by first | (simp; omega) | (simp; done)
  have t1 : (b / 8 - a / 8 == 0) = false := by first | (simp; omega) | (simp; done)
  have t2 : (b % 8 - a % 8 == b / 8 - a / 8) = false := by first | (simp; omega) | (simp; done)
  have t3 : (b % 8 - a % 8 == -(b / 8 - a / 8)) = false := by first | (simp; omega) | (simp; done)
  have hin : inLine a b = false := by unfold inLine; simp; omega
  have hsl : inSlant a b = false := by unfold inSlant; simp; omega
  rw [hin, hsl] at hH
  obtain ⟨s10, s11⟩ := sgn_range (b % 8 - a % 8)
  obtain ⟨s20, s21⟩ := sgn_range (b / 8 - a / 8)
  have hc' := show Shut _ from hcell
  have hbw := show Shut _ from hBW
  have hw : wayOf a b = sgn (b % 8 - a % 8) + 8 * sgn (b / 8 - a / 8) := rfl
  have hnn : a.toNat ≠ b.toNat := fun h => hab (by omega)
  have hHs := show Shut _ from hH
  clear hH hw hnn hin hsl hlines hcell hBW hT hab hx0 k1 k5 k6
  generalize hxe : pcAt p a = x at *
  by_cases k3 : kindOf x = 3
  · rw [k3] at hHs
    go_enter Tryd.func15, Tryd.ntmps15
    go_wp2_with (first
        | (go_at_call 32; refine (po_file _ _ (by omega) (by omega)).mono ?_; rintro e1 w1 ⟨rfl, rfl⟩)
        | (go_at_call 25; refine (po_rank _ _ (by omega) (by omega)).mono ?_; rintro e1 w1 ⟨rfl, rfl⟩)
        | (go_at_call 24; refine (po_kindOf _ _ (by omega)).mono ?_; rintro e1 w1 ⟨rfl, rfl⟩)
        | (go_at_call 34; refine (hi_sign _ _ (by omega) (by omega)).mono ?_; rintro e1 w1 ⟨rfl, rfl⟩))
    go_ret
    exact ⟨by rw [hHs.out]; rfl, hbw.out⟩
  by_cases k4 : kindOf x = 4
  · rw [k4] at hHs
    go_enter Tryd.func15, Tryd.ntmps15
    go_wp2_with (first
        | (go_at_call 32; refine (po_file _ _ (by omega) (by omega)).mono ?_; rintro e1 w1 ⟨rfl, rfl⟩)
        | (go_at_call 25; refine (po_rank _ _ (by omega) (by omega)).mono ?_; rintro e1 w1 ⟨rfl, rfl⟩)
        | (go_at_call 24; refine (po_kindOf _ _ (by omega)).mono ?_; rintro e1 w1 ⟨rfl, rfl⟩)
        | (go_at_call 34; refine (hi_sign _ _ (by omega) (by omega)).mono ?_; rintro e1 w1 ⟨rfl, rfl⟩))
    go_ret
    exact ⟨by rw [hHs.out]; rfl, hbw.out⟩
  · have hk3 : (kindOf x == 3) = false := by simpa using k3
    have hk4 : (kindOf x == 4) = false := by simpa using k4
    rw [show decide (kindOf x ≠ 3) = true from by simpa using k3, show decide (kindOf x ≠ 4) = true from by simpa using k4] at hHs
    clear k3 k4
    go_enter Tryd.func15, Tryd.ntmps15
    go_wp2_with (first
        | (go_at_call 32; refine (po_file _ _ (by omega) (by omega)).mono ?_; rintro e1 w1 ⟨rfl, rfl⟩)
        | (go_at_call 25; refine (po_rank _ _ (by omega) (by omega)).mono ?_; rintro e1 w1 ⟨rfl, rfl⟩)
        | (go_at_call 24; refine (po_kindOf _ _ (by omega)).mono ?_; rintro e1 w1 ⟨rfl, rfl⟩)
        | (go_at_call 34; refine (hi_sign _ _ (by omega) (by omega)).mono ?_; rintro e1 w1 ⟨rfl, rfl⟩))
    go_ret
    exact ⟨by rw [hHs.out]; rfl, hbw.out⟩
theorem hi_hits (p : List Int) (hp : Pos p) (a b : Int) (a0 : 0 ≤ a) (a1 : a ≤ 63) (b0 : 0 ≤ b) (b1 : b ≤ 63) (w : World) :
    Calls Tryd.prog 15 #[.agg (ints p), .int .i64 a, .int .i64 b] w fun e w' => e = .returned (.bool (hitsB p a b)) ∧ Below w.heap.size w w' := by
  by_cases hk : a = b ∨ pcAt p a = 0 ∨ kindOf (pcAt p a) = 1 ∨ kindOf (pcAt p a) = 5 ∨ kindOf (pcAt p a) = 6
  · exact hi_small p hp a b a0 a1 b0 b1 w hk
  have hab : a ≠ b := fun h => hk (Or.inl h)
  have hx0 : pcAt p a ≠ 0 := fun h => hk (Or.inr (Or.inl h))
  have k1 : kindOf (pcAt p a) ≠ 1 := fun h => hk (Or.inr (Or.inr (Or.inl h)))
  have k5 : kindOf (pcAt p a) ≠ 5 := fun h => hk (Or.inr (Or.inr (Or.inr (Or.inl h))))
  have k6 : kindOf (pcAt p a) ≠ 6 := fun h => hk (Or.inr (Or.inr (Or.inr (Or.inr h))))
  by_cases t1 : b % 8 - a % 8 = 0
  · exact hj_1 p hp a b a0 a1 b0 b1 w hab hx0 k1 k5 k6 t1
  by_cases t2 : b / 8 - a / 8 = 0
  · exact hj_2 p hp a b a0 a1 b0 b1 w hab hx0 k1 k5 k6 t2
  by_cases t3 : b % 8 - a % 8 = b / 8 - a / 8
  · exact hj_3 p hp a b a0 a1 b0 b1 w hab hx0 k1 k5 k6 t3
  by_cases t4 : b % 8 - a % 8 = -(b / 8 - a / 8)
  · exact hj_4 p hp a b a0 a1 b0 b1 w hab hx0 k1 k5 k6 t4
  exact hj_5 p hp a b a0 a1 b0 b1 w hab hx0 k1 k5 k6 ⟨t1, t2, t3, t4⟩
end Go.Proofs.YtplkcmlpomjojaaDoor
