/- The reference's boards whose pieces went: laws.bdMoved at the two ways of FnBdRotate. For every board of 64 integers. (Printed by gen_mv.py.) -/
import Derived.Test.YtndnmepapmnnlaaDoorRo
namespace Go.Proofs.YtndnmepapmnnlaaDoor
open Go Go.RowKit
set_option maxHeartbeats 2000000
set_option linter.unusedSimpArgs false
set_option linter.unusedVariables false
set_option maxRecDepth 100000

def outP (σ : Nat → Nat) (p : List Int) (k : Nat) : List Int := (List.range 64).map fun j => if σ j < k then p.getD (σ j) 0 else 0
theorem outP_len (σ : Nat → Nat) (p : List Int) (k : Nat) : (outP σ p k).length = 64 := by simp [outP]
theorem outP_zero (σ : Nat → Nat) (p : List Int) : outP σ p 0 = List.replicate 64 0 := by
  unfold outP
  simp only [Nat.not_lt_zero, if_false]
  rfl
theorem outP_all (σ : Nat → Nat) (p : List Int) (hσ : ∀ j, j < 64 → σ j < 64) : outP σ p 64 = perm σ p := by
  unfold outP perm
  apply List.map_congr_left
  intro j hj
  rw [if_pos (hσ j (List.mem_range.1 hj))]
theorem outP_set (σ : Nat → Nat) (p : List Int) (k t : Nat) (ht : t < 64) (h1 : σ t = k) (h2 : ∀ j, j < 64 → σ j = k → j = t) : (outP σ p k).set t (p.getD k 0) = outP σ p (k + 1) := by
  apply List.ext_getElem
  · simp [outP]
  · intro j g1 g2
    have hj : j < 64 := by simpa [outP] using g2
    rw [List.getElem_set]
    by_cases e : t = j
    · subst e; simp [outP, h1]
    · rw [if_neg e]
      simp only [outP, List.getElem_map, List.getElem_range]
      by_cases c : σ j < k
      · rw [if_pos c, if_pos (by omega)]
      · rw [if_neg c, if_neg (fun h => e (h2 j hj (by omega)).symm)]
theorem mv_wrap (x : Int) (h0 : -1000 ≤ x) (h1 : x ≤ 1000) : IntKind.i64.wrap x = x := by
  rw [IntKind.wrap_i64]; omega
def turnS (j : Nat) : Nat := 63 - j
/-- The place to which a quarter takes a square. -/
def rotT (k : Nat) : Nat := 8 * (7 - k % 8) + k / 8

theorem mv_rot (p : List Int) (hl : p.length = 64) (w : World) :
    Calls Tryd.prog 14 #[.agg (ints p), .agg #[.int .i64 (0), .int .i64 (1), .int .i64 (0), .int .i64 (-1), .int .i64 (0), .int .i64 (7)]] w fun e' w' => e' = .returned (.agg (ints (perm rotS p))) ∧ Below w.heap.size w w' := by
  go_enter Tryd.func14, Tryd.ntmps14
  go_wp2_with fail
  have hW : ∃ W : World, (((w.alloc (.cells (ints p) 22)).alloc (.cells (ints [0, 1, 0, -1, 0, 7]) 36)).alloc (.cells (ints (List.replicate 64 0)) 22)).alloc (.cells (ints (List.replicate 64 0)) 22) = W ∧ W.heap[w.heap.size]? = some (.cells (ints p) 22 (0, 0)) ∧ W.heap[w.heap.size + 1]? = some (.cells (ints [0, 1, 0, -1, 0, 7]) 36 (0, 0)) ∧ W.heap[w.heap.size + 1 + 1]? = some (.cells (ints (List.replicate 64 0)) 22 (0, 0)) ∧ W.heap[w.heap.size + 1 + 1 + 1]? = some (.cells (ints (outP rotS p 0)) 22 (0, 0)) ∧ Below w.heap.size w W :=
    ⟨_, rfl, heap_keep (heap_keep (heap_alloc2_old w _ _)), heap_keep (heap_keep (heap_alloc2_new w _ _)), heap_keep (heap_at _ _ _ (by simp)), by rw [outP_zero]; exact heap_at _ _ _ (by simp), ((((Below.refl _ _).alloc (Nat.le_refl _) _).alloc (by simp) _).alloc (by simp; omega) _).alloc (by simp; omega) _⟩
  obtain ⟨W, hWe, hr0, hr1, hr2, hr3, hBW⟩ := hW
  change Code.wp _ _ _ _ ((((w.alloc (.cells (ints p) 22)).alloc (.cells (ints [0, 1, 0, -1, 0, 7]) 36)).alloc (.cells (ints (List.replicate 64 0)) 22)).alloc (.cells (ints (List.replicate 64 0)) 22))
  rw [hWe]
  clear hWe
  generalize hb0 : w.heap.size = b0 at *
  generalize hb1 : b0 + 1 = b1 at *
  generalize hb2 : b1 + 1 = b2 at *
  generalize hb3 : b2 + 1 = b3 at *
  have hd : b0 ≠ b3 ∧ b1 ≠ b3 ∧ b2 ≠ b3 ∧ b0 ≤ b3 ∧ b0 ≤ b2 ∧ b2 ≠ b0 := by omega
  clear hb1 hb2 hb3
  go_loopw [6] (fun i wr => ∃ k : Nat, k ≤ 64 ∧ i = .int .i64 (k : Int) ∧ wr.heap[b0]? = some (.cells (ints p) 22 (0, 0)) ∧ wr.heap[b1]? = some (.cells (ints [0, 1, 0, -1, 0, 7]) 36 (0, 0)) ∧ wr.heap[b2]? = some (.cells (ints (List.replicate 64 0)) 22 (0, 0)) ∧ wr.heap[b3]? = some (.cells (ints (outP rotS p k)) 22 (0, 0)) ∧ Below b0 w wr) (fun i _ => (64 - intOf i).toNat)
  case atStart => exact ⟨0, by omega, rfl, hr0, hr1, hr2, hr3, hBW⟩
  case round =>
    clear hr0 hr1 hr2 hr3 hBW
    obtain ⟨k, hk, rfl, hr0, hr1, hr2, hr3, hB⟩ := hrel
    by_cases hlt : k < 64
    · have pc := row_cell hr0 k (by omega)
      have ht : rotT k < 64 := by first | omega | (unfold rotT; omega)
      have tc := row_cell hr3 (rotT k) (by rw [outP_len]; exact ht)
      have tf := frozen_of_row wr b3 (rotT k) _ _ hr3
      have hset := row_set hr3 (rotT k) (p.getD k 0)
      rw [outP_set rotS p k (rotT k) ht (by first | (unfold rotS rotT; omega) | (unfold turnS; omega)) (fun j hj h => by first | (unfold rotS at h; unfold rotT; omega) | (unfold turnS at h; omega))] at hset
      have q0 : wr.cell? ⟨b1, 0, none⟩ = some (.int .i64 (0)) := cell_of_row wr b1 0 _ _ _ hr1
      have q1 : wr.cell? ⟨b1, 1, none⟩ = some (.int .i64 (1)) := cell_of_row wr b1 1 _ _ _ hr1
      have q2 : wr.cell? ⟨b1, 2, none⟩ = some (.int .i64 (0)) := cell_of_row wr b1 2 _ _ _ hr1
      have q3 : wr.cell? ⟨b1, 3, none⟩ = some (.int .i64 (-1)) := cell_of_row wr b1 3 _ _ _ hr1
      have q4 : wr.cell? ⟨b1, 4, none⟩ = some (.int .i64 (0)) := cell_of_row wr b1 4 _ _ _ hr1
      have q5 : wr.cell? ⟨b1, 5, none⟩ = some (.int .i64 (7)) := cell_of_row wr b1 5 _ _ _ hr1
      have h0 := (heap_setCell_other wr ⟨b3, rotT k, none⟩ b0 (.int .i64 (p.getD k 0)) hd.1).trans hr0
      have h1 := (heap_setCell_other wr ⟨b3, rotT k, none⟩ b1 (.int .i64 (p.getD k 0)) hd.2.1).trans hr1
      have h2 := (heap_setCell_other wr ⟨b3, rotT k, none⟩ b2 (.int .i64 (p.getD k 0)) hd.2.2.1).trans hr2
      have hB2 := hB.setCell (p := ⟨b3, rotT k, none⟩) hd.2.2.2.1 (.int .i64 (p.getD k 0))
      have hhid := show Shut _ from And.intro h0 (And.intro h1 (And.intro h2 (And.intro hset (And.intro hB2 (row_cell h0 k (by omega))))))
      have hX : IntKind.i64.wrap (IntKind.i64.wrap (IntKind.i64.wrap 0 + IntKind.i64.wrap ((k : Int) / 8))) = (k : Int) / 8 := by simp (disch := omega) only [mv_wrap]; omega
      have hY : IntKind.i64.wrap (IntKind.i64.wrap (IntKind.i64.wrap (-((k : Int) % 8)) + IntKind.i64.wrap 0) + 7) = 7 - (k : Int) % 8 := by simp (disch := omega) only [mv_wrap]; omega
      have hsq : atSq ((k : Int) / 8) (7 - (k : Int) % 8) = (((rotT k : Nat)) : Int) := by
        unfold atSq
        rw [if_neg (by omega)]
        first | omega | (unfold rotT; omega)
      have hds := show Shut _ from hd
      clear hr0 hr1 hr2 hr3 hB hset h0 h1 h2 hB2 hd
      generalize p.getD k 0 = v at *
      generalize (outP rotS p k).getD (rotT k) 0 = old at *
      generalize hT : (rotT k) = T at *
      have hTa : (0 : Int) ≤ (T : Int) := by omega
      have hTb : (T : Int) < (64 : Int) := by omega
      have hTc : (T : Int) < ((64 : Nat) : Int) := by omega
      clear hT
      go_wp2_with (first
        | (go_at_call 29; refine (po_file _ _ (by omega) (by omega)).mono ?_; rintro e1 w1 ⟨rfl, rfl⟩)
        | (go_at_call 30; refine (po_rank _ _ (by omega) (by omega)).mono ?_; rintro e1 w1 ⟨rfl, rfl⟩))
      go_region_held3 (fun w' : World => w'.cell? ⟨b1, 0, none⟩ = some (.int .i64 (0)) ∧ w'.cell? ⟨b1, 1, none⟩ = some (.int .i64 (1)) ∧ w'.cell? ⟨b1, 2, none⟩ = some (.int .i64 (0)) ∧ w'.cell? ⟨b1, 3, none⟩ = some (.int .i64 (-1)) ∧ w'.cell? ⟨b1, 4, none⟩ = some (.int .i64 (0)) ∧ w'.cell? ⟨b1, 5, none⟩ = some (.int .i64 (7)) ∧ w'.cell? ⟨b0, k, none⟩ = some (.int .i64 v))
        (first
          | exact ⟨q0, q1, q2, q3, q4, q5, pc⟩
          | exact ⟨cell_of_row _ _ 0 _ _ _ hhid.out.2.1, cell_of_row _ _ 1 _ _ _ hhid.out.2.1, cell_of_row _ _ 2 _ _ _ hhid.out.2.1, cell_of_row _ _ 3 _ _ _ hhid.out.2.1, cell_of_row _ _ 4 _ _ _ hhid.out.2.1, cell_of_row _ _ 5 _ _ _ hhid.out.2.1, hhid.out.2.2.2.2.2⟩)
        (first
          | (go_at_call 31; refine (po_at _ _ _ (by omega) (by omega) (by omega) (by omega)).mono ?_; rintro e1 w1 ⟨rfl, rfl⟩; rw [hsq]))
      go_wp2
      go_roundw
      case rel => exact ⟨k + 1, by omega, by go_num, hhid.out.1, hhid.out.2.1, hhid.out.2.2.1, hhid.out.2.2.2.1, hhid.out.2.2.2.2.1.drew⟩
      case measure => simp [intOf]; omega
    · obtain rfl : k = 64 := by omega
      rw [outP_all rotS p (fun j hj => by first | (unfold rotS; omega) | (unfold turnS; omega))] at hr3
      have hlo := perm_len rotS p
      go_wp2_with (first
        | ((with_reducible refine at_load_row hr3 Tryd.underlying22 rfl ?_ ?_ ?_); (rw [ints_size, hlo]; kernel_rfl); rfl)
        | ((with_reducible refine at_store_row (ints (perm rotS p)) hr2 ?_ ?_ ?_ ?_ ?_ ?_); (rw [ints_size, hlo]; kernel_rfl); (rw [ints_size, ints_size, hlo, List.length_replicate]); exact ints_one _; rfl; rfl))
      (try simp only [Exit.inBlock, Exit.then])
      subst hb0
      exact bodyPost_ret (results_cell1 rfl _ _ b2 22 (ints (perm rotS p)) (0, 0) _ rfl (setRow_heap _ _ _ (ints (perm rotS p)) _ _ hr2) Tryd.underlying22 rfl (by rw [ints_size, hlo]; kernel_rfl)) rfl ⟨rfl, below_setRow hB (by omega) _⟩

theorem mv_turn (p : List Int) (hl : p.length = 64) (w : World) :
    Calls Tryd.prog 14 #[.agg (ints p), .agg #[.int .i64 (-1), .int .i64 (0), .int .i64 (7), .int .i64 (0), .int .i64 (-1), .int .i64 (7)]] w fun e' w' => e' = .returned (.agg (ints (perm turnS p))) ∧ Below w.heap.size w w' := by
  go_enter Tryd.func14, Tryd.ntmps14
  go_wp2_with fail
  have hW : ∃ W : World, (((w.alloc (.cells (ints p) 22)).alloc (.cells (ints [-1, 0, 7, 0, -1, 7]) 36)).alloc (.cells (ints (List.replicate 64 0)) 22)).alloc (.cells (ints (List.replicate 64 0)) 22) = W ∧ W.heap[w.heap.size]? = some (.cells (ints p) 22 (0, 0)) ∧ W.heap[w.heap.size + 1]? = some (.cells (ints [-1, 0, 7, 0, -1, 7]) 36 (0, 0)) ∧ W.heap[w.heap.size + 1 + 1]? = some (.cells (ints (List.replicate 64 0)) 22 (0, 0)) ∧ W.heap[w.heap.size + 1 + 1 + 1]? = some (.cells (ints (outP turnS p 0)) 22 (0, 0)) ∧ Below w.heap.size w W :=
    ⟨_, rfl, heap_keep (heap_keep (heap_alloc2_old w _ _)), heap_keep (heap_keep (heap_alloc2_new w _ _)), heap_keep (heap_at _ _ _ (by simp)), by rw [outP_zero]; exact heap_at _ _ _ (by simp), ((((Below.refl _ _).alloc (Nat.le_refl _) _).alloc (by simp) _).alloc (by simp; omega) _).alloc (by simp; omega) _⟩
  obtain ⟨W, hWe, hr0, hr1, hr2, hr3, hBW⟩ := hW
  change Code.wp _ _ _ _ ((((w.alloc (.cells (ints p) 22)).alloc (.cells (ints [-1, 0, 7, 0, -1, 7]) 36)).alloc (.cells (ints (List.replicate 64 0)) 22)).alloc (.cells (ints (List.replicate 64 0)) 22))
  rw [hWe]
  clear hWe
  generalize hb0 : w.heap.size = b0 at *
  generalize hb1 : b0 + 1 = b1 at *
  generalize hb2 : b1 + 1 = b2 at *
  generalize hb3 : b2 + 1 = b3 at *
  have hd : b0 ≠ b3 ∧ b1 ≠ b3 ∧ b2 ≠ b3 ∧ b0 ≤ b3 ∧ b0 ≤ b2 ∧ b2 ≠ b0 := by omega
  clear hb1 hb2 hb3
  go_loopw [6] (fun i wr => ∃ k : Nat, k ≤ 64 ∧ i = .int .i64 (k : Int) ∧ wr.heap[b0]? = some (.cells (ints p) 22 (0, 0)) ∧ wr.heap[b1]? = some (.cells (ints [-1, 0, 7, 0, -1, 7]) 36 (0, 0)) ∧ wr.heap[b2]? = some (.cells (ints (List.replicate 64 0)) 22 (0, 0)) ∧ wr.heap[b3]? = some (.cells (ints (outP turnS p k)) 22 (0, 0)) ∧ Below b0 w wr) (fun i _ => (64 - intOf i).toNat)
  case atStart => exact ⟨0, by omega, rfl, hr0, hr1, hr2, hr3, hBW⟩
  case round =>
    clear hr0 hr1 hr2 hr3 hBW
    obtain ⟨k, hk, rfl, hr0, hr1, hr2, hr3, hB⟩ := hrel
    by_cases hlt : k < 64
    · have pc := row_cell hr0 k (by omega)
      have ht : 63 - k < 64 := by first | omega | (unfold rotT; omega)
      have tc := row_cell hr3 (63 - k) (by rw [outP_len]; exact ht)
      have tf := frozen_of_row wr b3 (63 - k) _ _ hr3
      have hset := row_set hr3 (63 - k) (p.getD k 0)
      rw [outP_set turnS p k (63 - k) ht (by first | (unfold rotS rotT; omega) | (unfold turnS; omega)) (fun j hj h => by first | (unfold rotS at h; unfold rotT; omega) | (unfold turnS at h; omega))] at hset
      have q0 : wr.cell? ⟨b1, 0, none⟩ = some (.int .i64 (-1)) := cell_of_row wr b1 0 _ _ _ hr1
      have q1 : wr.cell? ⟨b1, 1, none⟩ = some (.int .i64 (0)) := cell_of_row wr b1 1 _ _ _ hr1
      have q2 : wr.cell? ⟨b1, 2, none⟩ = some (.int .i64 (7)) := cell_of_row wr b1 2 _ _ _ hr1
      have q3 : wr.cell? ⟨b1, 3, none⟩ = some (.int .i64 (0)) := cell_of_row wr b1 3 _ _ _ hr1
      have q4 : wr.cell? ⟨b1, 4, none⟩ = some (.int .i64 (-1)) := cell_of_row wr b1 4 _ _ _ hr1
      have q5 : wr.cell? ⟨b1, 5, none⟩ = some (.int .i64 (7)) := cell_of_row wr b1 5 _ _ _ hr1
      have h0 := (heap_setCell_other wr ⟨b3, 63 - k, none⟩ b0 (.int .i64 (p.getD k 0)) hd.1).trans hr0
      have h1 := (heap_setCell_other wr ⟨b3, 63 - k, none⟩ b1 (.int .i64 (p.getD k 0)) hd.2.1).trans hr1
      have h2 := (heap_setCell_other wr ⟨b3, 63 - k, none⟩ b2 (.int .i64 (p.getD k 0)) hd.2.2.1).trans hr2
      have hB2 := hB.setCell (p := ⟨b3, 63 - k, none⟩) hd.2.2.2.1 (.int .i64 (p.getD k 0))
      have hhid := show Shut _ from And.intro h0 (And.intro h1 (And.intro h2 (And.intro hset (And.intro hB2 (row_cell h0 k (by omega))))))
      have hX : IntKind.i64.wrap (IntKind.i64.wrap (IntKind.i64.wrap (-((k : Int) % 8)) + IntKind.i64.wrap 0) + 7) = 7 - (k : Int) % 8 := by simp (disch := omega) only [mv_wrap]; omega
      have hY : IntKind.i64.wrap (IntKind.i64.wrap (IntKind.i64.wrap 0 + IntKind.i64.wrap (-((k : Int) / 8))) + 7) = 7 - (k : Int) / 8 := by simp (disch := omega) only [mv_wrap]; omega
      have hsq : atSq (7 - (k : Int) % 8) (7 - (k : Int) / 8) = (((63 - k : Nat)) : Int) := by
        unfold atSq
        rw [if_neg (by omega)]
        first | omega | (unfold rotT; omega)
      have hds := show Shut _ from hd
      clear hr0 hr1 hr2 hr3 hB hset h0 h1 h2 hB2 hd
      generalize p.getD k 0 = v at *
      generalize (outP turnS p k).getD (63 - k) 0 = old at *
      generalize hT : (63 - k) = T at *
      have hTa : (0 : Int) ≤ (T : Int) := by omega
      have hTb : (T : Int) < (64 : Int) := by omega
      have hTc : (T : Int) < ((64 : Nat) : Int) := by omega
      clear hT
      go_wp2_with (first
        | (go_at_call 29; refine (po_file _ _ (by omega) (by omega)).mono ?_; rintro e1 w1 ⟨rfl, rfl⟩)
        | (go_at_call 30; refine (po_rank _ _ (by omega) (by omega)).mono ?_; rintro e1 w1 ⟨rfl, rfl⟩))
      go_region_held3 (fun w' : World => w'.cell? ⟨b1, 0, none⟩ = some (.int .i64 (-1)) ∧ w'.cell? ⟨b1, 1, none⟩ = some (.int .i64 (0)) ∧ w'.cell? ⟨b1, 2, none⟩ = some (.int .i64 (7)) ∧ w'.cell? ⟨b1, 3, none⟩ = some (.int .i64 (0)) ∧ w'.cell? ⟨b1, 4, none⟩ = some (.int .i64 (-1)) ∧ w'.cell? ⟨b1, 5, none⟩ = some (.int .i64 (7)) ∧ w'.cell? ⟨b0, k, none⟩ = some (.int .i64 v))
        (first
          | exact ⟨q0, q1, q2, q3, q4, q5, pc⟩
          | exact ⟨cell_of_row _ _ 0 _ _ _ hhid.out.2.1, cell_of_row _ _ 1 _ _ _ hhid.out.2.1, cell_of_row _ _ 2 _ _ _ hhid.out.2.1, cell_of_row _ _ 3 _ _ _ hhid.out.2.1, cell_of_row _ _ 4 _ _ _ hhid.out.2.1, cell_of_row _ _ 5 _ _ _ hhid.out.2.1, hhid.out.2.2.2.2.2⟩)
        (first
          | (go_at_call 31; refine (po_at _ _ _ (by omega) (by omega) (by omega) (by omega)).mono ?_; rintro e1 w1 ⟨rfl, rfl⟩; rw [hsq]))
      go_wp2
      go_roundw
      case rel => exact ⟨k + 1, by omega, by go_num, hhid.out.1, hhid.out.2.1, hhid.out.2.2.1, hhid.out.2.2.2.1, hhid.out.2.2.2.2.1.drew⟩
      case measure => simp [intOf]; omega
    · obtain rfl : k = 64 := by omega
      rw [outP_all turnS p (fun j hj => by first | (unfold rotS; omega) | (unfold turnS; omega))] at hr3
      have hlo := perm_len turnS p
      go_wp2_with (first
        | ((with_reducible refine at_load_row hr3 Tryd.underlying22 rfl ?_ ?_ ?_); (rw [ints_size, hlo]; kernel_rfl); rfl)
        | ((with_reducible refine at_store_row (ints (perm turnS p)) hr2 ?_ ?_ ?_ ?_ ?_ ?_); (rw [ints_size, hlo]; kernel_rfl); (rw [ints_size, ints_size, hlo, List.length_replicate]); exact ints_one _; rfl; rfl))
      (try simp only [Exit.inBlock, Exit.then])
      subst hb0
      exact bodyPost_ret (results_cell1 rfl _ _ b2 22 (ints (perm turnS p)) (0, 0) _ rfl (setRow_heap _ _ _ (ints (perm turnS p)) _ _ hr2) Tryd.underlying22 rfl (by rw [ints_size, hlo]; kernel_rfl)) rfl ⟨rfl, below_setRow hB (by omega) _⟩
end Go.Proofs.YtndnmepapmnnlaaDoor
