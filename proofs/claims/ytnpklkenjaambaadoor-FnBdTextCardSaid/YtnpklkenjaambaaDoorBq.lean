/- A board of the package read back: its 64 squares, and the map of its squares with pieces. For every board of pieces from 0 to 12. -/
import Derived.Test.YtnpklkenjaambaaDoorBp
import Derived.Test.YtnpklkenjaambaaDoorHk
namespace Go.Proofs.YtnpklkenjaambaaDoor
open Go Go.RowKit
set_option maxHeartbeats 2000000
set_option linter.unusedSimpArgs false
set_option linter.unusedVariables false
set_option maxRecDepth 100000

/-- The first k squares are there. -/
def outTo (p : List Int) (k : Nat) : List Int := (List.range 64).map fun i => if i < k then p.getD i 0 else 0
theorem outTo_len (p : List Int) (k : Nat) : (outTo p k).length = 64 := by simp [outTo]
theorem outTo_zero (p : List Int) : outTo p 0 = List.replicate 64 0 := by
  unfold outTo
  simp only [Nat.not_lt_zero, if_false]
  rfl
theorem outTo_set (p : List Int) (k : Nat) (h : k < 64) : (outTo p k).set k (p.getD k 0) = outTo p (k + 1) := by
  apply List.ext_getElem
  · simp [outTo]
  · intro i h1 h2
    rw [List.getElem_set]
    by_cases e : k = i
    · subst e; simp [outTo]
    · rw [if_neg e]
      simp only [outTo, List.getElem_map, List.getElem_range]
      by_cases c : i < k
      · rw [if_pos c, if_pos (by omega)]
      · rw [if_neg c, if_neg (by omega)]
theorem outTo_all (p : List Int) (h : p.length = 64) : outTo p 64 = p := by
  apply List.ext_getElem
  · simp [outTo, h]
  · intro i h1 h2
    have : i < 64 := by omega
    simp [outTo, this, h2]
theorem bq_plain (p : List Int) (hp : Brd p) (g : Nat) (w : World) (hA : IntSl w 1 .i8 allL) (hg : w.heap[g]? = some (.cells (brd p) 59 (0, 0))) :
    Calls Tryd.prog 27 #[.pointer (some ⟨g, 0, none⟩)] w fun e' w' => e' = .returned (.agg (ints p)) ∧ Below w.heap.size w w' := by
  have hglt : g < w.heap.size := (Array.getElem?_eq_some_iff.1 hg).1
  go_enter Tryd.func27, Tryd.ntmps27
  go_wp2_with fail
  change Code.wp _ _ _ _ ((w.alloc (.cells (ints (List.replicate 64 0)) 30)).alloc (.cells (ints (List.replicate 64 0)) 30))
  have hr1 : ((w.alloc (.cells (ints (List.replicate 64 0)) 30)).alloc (.cells (ints (List.replicate 64 0)) 30)).heap[w.heap.size + 1]? = some (.cells (ints (outTo p 0)) 30 (0, 0)) := by rw [outTo_zero]; exact heap_alloc2_new w _ _
  have hr0 : ((w.alloc (.cells (ints (List.replicate 64 0)) 30)).alloc (.cells (ints (List.replicate 64 0)) 30)).heap[w.heap.size]? = some (.cells (ints (List.replicate 64 0)) 30 (0, 0)) := heap_alloc2_old w _ _
  have hBW : Below w.heap.size w ((w.alloc (.cells (ints (List.replicate 64 0)) 30)).alloc (.cells (ints (List.replicate 64 0)) 30)) := ((Below.refl _ _).alloc (Nat.le_refl _) _).alloc (by simp) _
  generalize ((w.alloc (.cells (ints (List.replicate 64 0)) 30)).alloc (.cells (ints (List.replicate 64 0)) 30)) = W at *
  go_loopw [5] (fun i wr => ∃ k : Nat, k ≤ 64 ∧ i = .int .i64 (k : Int) ∧ wr.heap[w.heap.size + 1]? = some (.cells (ints (outTo p k)) 30 (0, 0)) ∧ wr.heap[w.heap.size]? = some (.cells (ints (List.replicate 64 0)) 30 (0, 0)) ∧ Below w.heap.size w wr) (fun i _ => (64 - intOf i).toNat)
  case atStart => exact ⟨0, by omega, rfl, hr1, hr0, hBW⟩
  case round =>
    obtain ⟨k, hk, rfl, hrr, hr0r, hbel⟩ := hrel
    clear hr1 hr0 hBW
    by_cases hlt : k < 64
    · have hlo := hp.lo k
      have hhi := hp.hi k
      have hgr := (hbel.block g hglt).trans hg
      have hc := row_cell hrr k (by rw [outTo_len]; exact hlt)
      have hf := frozen_of_row wr (w.heap.size + 1) k _ _ hrr
      have hpc := bo_piece p _ _ _ _ _ g (k : Int) wr (hA.below hbel) hgr (by omega) (by omega) (by simpa using hlo) (by simpa using hhi)
      simp only [Int.toNat_natCast] at hpc
      have hset := row_set hrr k (p.getD k 0)
      rw [outTo_set p k hlt] at hset
      have hoth := (heap_setCell_other wr ⟨w.heap.size + 1, k, none⟩ w.heap.size (.int .i64 (p.getD k 0)) (by simp)).trans hr0r
      have hbs := hbel.setCell (p := ⟨w.heap.size + 1, k, none⟩) (by simp) (.int .i64 (p.getD k 0))
      have hhid : True → _ := fun _ => And.intro hset (And.intro hoth hbs)
      clear hset hoth hbs hgr hrr hr0r
      generalize p.getD k 0 = v at *
      go_wp2_with (go_at_call 43; refine hpc.mono ?_; rintro e1 w1 ⟨rfl, rfl⟩)
      go_roundw
      case rel => exact ⟨k + 1, by omega, by go_num, hhid trivial⟩
      case measure => simp [intOf]; omega
    · obtain rfl : k = 64 := by omega
      rw [outTo_all p hp.len] at hrr
      go_wp2_with (first
        | (with_reducible refine at_load_row hrr Tryd.underlying30 rfl ?_ rfl ?_; (rw [ints_size, hp.len]; kernel_rfl))
        | ((with_reducible refine at_store_row (ints p) hr0r ?_ ?_ ?_ ?_ ?_ ?_); (rw [ints_size, hp.len]; kernel_rfl); (rw [ints_size, ints_size, hp.len, List.length_replicate]); exact ints_one p; rfl; rfl))
      (try simp only [Exit.inBlock, Exit.then])
      exact bodyPost_ret (results_cell1 rfl _ _ w.heap.size 30 (ints p) (0, 0) _ rfl (setRow_heap _ _ _ (ints p) _ _ hr0r) Tryd.underlying30 rfl (by rw [ints_size, hp.len]; kernel_rfl)) rfl ⟨rfl, below_setRow hbel (Nat.le_refl _) _⟩
/-- How many of the first k squares have a piece. -/
def men (p : List Int) (k : Nat) : Nat := ((List.range k).filter fun i => decide (0 < p.getD i 0)).length
theorem men_yes (p : List Int) (k : Nat) (h : 0 < p.getD k 0) : men p (k + 1) = men p k + 1 := by
  unfold men
  rw [List.range_succ, List.filter_append]
  simp at h
  simp [h]
theorem men_no (p : List Int) (k : Nat) (h : ¬ 0 < p.getD k 0) : men p (k + 1) = men p k := by
  unfold men
  rw [List.range_succ, List.filter_append]
  simp at h
  simp [h]
theorem men_le (p : List Int) (k : Nat) : men p k ≤ k := by
  have := List.length_filter_le (fun i => decide (0 < p.getD i 0)) (List.range k)
  simpa [men] using this
end Go.Proofs.YtnpklkenjaambaaDoor
