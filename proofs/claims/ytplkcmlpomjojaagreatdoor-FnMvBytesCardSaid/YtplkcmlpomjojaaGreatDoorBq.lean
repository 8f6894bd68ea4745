/- A board of the package read back: its 64 squares, and the map of its squares with pieces. For every board of pieces from 0 to 12. -/
import Derived.Test.YtplkcmlpomjojaaGreatDoorGa
namespace Go.Proofs.YtplkcmlpomjojaaGreatDoor
open Go Go.RowKit
set_option maxHeartbeats 2000000
set_option linter.unusedSimpArgs false
set_option linter.unusedVariables false
set_option maxRecDepth 100000

/-- The first k squares are there. -/
def outTo (p : List Int) (k : Nat) : List Int := (List.range 64).map fun i => if i < k then p.getD i 0 else 0
theorem outTo_len (p : List Int) (k : Nat) : (outTo p k).length = 64 := by simp [outTo]
theorem outTo_zero (p : List Int) : outTo p 0 = List.replicate 64 0 := by
  unfold outTo
  simp only [Nat.not_lt_zero, if_false]
  rfl
theorem outTo_set (p : List Int) (k : Nat) (h : k < 64) : (outTo p k).set k (p.getD k 0) = outTo p (k + 1) := by
  apply List.ext_getElem
  · simp [outTo]
  · intro i h1 h2
    rw [List.getElem_set]
    by_cases e : k = i
    · subst e; simp [outTo]
    · rw [if_neg e]
      simp only [outTo, List.getElem_map, List.getElem_range]
      by_cases c : i < k
      · rw [if_pos c, if_pos (by omega)]
      · rw [if_neg c, if_neg (by omega)]
theorem outTo_all (p : List Int) (h : p.length = 64) : outTo p 64 = p := by
  apply List.ext_getElem
  · simp [outTo, h]
  · intro i h1 h2
    have : i < 64 := by omega
    simp [outTo, this, h2]
theorem bq_plain (p : List Int) (hp : Brd p) (g : Nat) (w : World) (hA : IntSl w 1 .i8 allL) (hg : w.heap[g]? = some (.cells (brd p) 125 (0, 0))) :
    Calls Tryz.prog 72 #[.pointer (some ⟨g, 0, none⟩)] w fun e' w' => e' = .returned (.agg (ints p)) ∧ Below w.heap.size w w' := by
  have hglt : g < w.heap.size := (Array.getElem?_eq_some_iff.1 hg).1
  go_enter Tryz.func72, Tryz.ntmps72
  go_wp2_with fail
  change Code.wp _ _ _ _ ((w.alloc (.cells (ints (List.replicate 64 0)) 22)).alloc (.cells (ints (List.replicate 64 0)) 22))
  have hr1 : ((w.alloc (.cells (ints (List.replicate 64 0)) 22)).alloc (.cells (ints (List.replicate 64 0)) 22)).heap[w.heap.size + 1]? = some (.cells (ints (outTo p 0)) 22 (0, 0)) := by rw [outTo_zero]; exact heap_alloc2_new w _ _
  have hr0 : ((w.alloc (.cells (ints (List.replicate 64 0)) 22)).alloc (.cells (ints (List.replicate 64 0)) 22)).heap[w.heap.size]? = some (.cells (ints (List.replicate 64 0)) 22 (0, 0)) := heap_alloc2_old w _ _
  have hBW : Below w.heap.size w ((w.alloc (.cells (ints (List.replicate 64 0)) 22)).alloc (.cells (ints (List.replicate 64 0)) 22)) := ((Below.refl _ _).alloc (Nat.le_refl _) _).alloc (by simp) _
  generalize ((w.alloc (.cells (ints (List.replicate 64 0)) 22)).alloc (.cells (ints (List.replicate 64 0)) 22)) = W at *
  go_loopw [5] (fun i wr => ∃ k : Nat, k ≤ 64 ∧ i = .int .i64 (k : Int) ∧ wr.heap[w.heap.size + 1]? = some (.cells (ints (outTo p k)) 22 (0, 0)) ∧ wr.heap[w.heap.size]? = some (.cells (ints (List.replicate 64 0)) 22 (0, 0)) ∧ Below w.heap.size w wr) (fun i _ => (64 - intOf i).toNat)
  case atStart => exact ⟨0, by omega, rfl, hr1, hr0, hBW⟩
  case round =>
    obtain ⟨k, hk, rfl, hrr, hr0r, hbel⟩ := hrel
    clear hr1 hr0 hBW
    by_cases hlt : k < 64
    · have hlo := hp.lo k
      have hhi := hp.hi k
      have hgr := (hbel.block g hglt).trans hg
      have hc := row_cell hrr k (by rw [outTo_len]; exact hlt)
      have hf := frozen_of_row wr (w.heap.size + 1) k _ _ hrr
      have hpc := bo_piece p _ _ _ _ _ g (k : Int) wr (hA.below hbel) hgr (by omega) (by omega) (by simpa using hlo) (by simpa using hhi)
      simp only [Int.toNat_natCast] at hpc
      have hset := row_set hrr k (p.getD k 0)
      rw [outTo_set p k hlt] at hset
      have hoth := (heap_setCell_other wr ⟨w.heap.size + 1, k, none⟩ w.heap.size (.int .i64 (p.getD k 0)) (by simp)).trans hr0r
      have hbs := hbel.setCell (p := ⟨w.heap.size + 1, k, none⟩) (by simp) (.int .i64 (p.getD k 0))
      have hhid : True → _ := fun _ => And.intro hset (And.intro hoth hbs)
      clear hset hoth hbs hgr hrr hr0r
      generalize p.getD k 0 = v at *
      go_wp2_with (go_at_call 99; refine hpc.mono ?_; rintro e1 w1 ⟨rfl, rfl⟩)
      go_roundw
      case rel => exact ⟨k + 1, by omega, by go_num, hhid trivial⟩
      case measure => simp [intOf]; omega
    · obtain rfl : k = 64 := by omega
      rw [outTo_all p hp.len] at hrr
      go_wp2_with (first
        | (with_reducible refine at_load_row hrr Tryz.underlying22 rfl ?_ rfl ?_; (rw [ints_size, hp.len]; kernel_rfl))
        | ((with_reducible refine at_store_row (ints p) hr0r ?_ ?_ ?_ ?_ ?_ ?_); (rw [ints_size, hp.len]; kernel_rfl); (rw [ints_size, ints_size, hp.len, List.length_replicate]); exact ints_one p; rfl; rfl))
      (try simp only [Exit.inBlock, Exit.then])
      exact bodyPost_ret (results_cell1 rfl _ _ w.heap.size 22 (ints p) (0, 0) _ rfl (setRow_heap _ _ _ (ints p) _ _ hr0r) Tryz.underlying22 rfl (by rw [ints_size, hp.len]; kernel_rfl)) rfl ⟨rfl, below_setRow hbel (Nat.le_refl _) _⟩
/-- How many of the first k squares have a piece. -/
def men (p : List Int) (k : Nat) : Nat := ((List.range k).filter fun i => decide (0 < p.getD i 0)).length
theorem men_yes (p : List Int) (k : Nat) (h : 0 < p.getD k 0) : men p (k + 1) = men p k + 1 := by
  unfold men
  rw [List.range_succ, List.filter_append]
  simp at h
  simp [h]
theorem men_no (p : List Int) (k : Nat) (h : ¬ 0 < p.getD k 0) : men p (k + 1) = men p k := by
  unfold men
  rw [List.range_succ, List.filter_append]
  simp at h
  simp [h]
theorem men_le (p : List Int) (k : Nat) : men p k ≤ k := by
  have := List.length_filter_le (fun i => decide (0 < p.getD i 0)) (List.range k)
  simpa [men] using this
theorem bq_map (p : List Int) (hp : Brd p) (g : Nat) (w : World) (hA : IntSl w 1 .i8 allL) (hg : w.heap[g]? = some (.cells (brd p) 125 (0, 0))) :
    Calls Tryz.prog 173 #[.pointer (some ⟨g, 0, none⟩)] w fun e' w' => ∃ b, e' = .returned (.map (some b)) ∧ w.heap.size ≤ b ∧ IMap w' b (mapOf p 64) (men p 64) ∧ Below w.heap.size w w' := by
  have hmm := run_makeMap' Tryz.prog
  have hglt : g < w.heap.size := (Array.getElem?_eq_some_iff.1 hg).1
  go_enter Tryz.func173, Tryz.ntmps173
  go_wp2_with fail
  go_loopw [7] (fun i wr => ∃ k : Nat, k ≤ 64 ∧ i = .int .i64 (k : Int) ∧ IMap wr w.heap.size (mapOf p k) (men p k) ∧ Below w.heap.size w wr) (fun i _ => (64 - intOf i).toNat)
  case atStart => exact ⟨0, by omega, rfl, by rw [mapOf_zero]; exact imap_new w, (Below.refl _ _).alloc (Nat.le_refl _) _⟩
  case round =>
    obtain ⟨k, hk, rfl, hmap, hbel⟩ := hrel
    by_cases hlt : k < 64
    · have hlo := hp.lo k
      have hhi := hp.hi k
      have hgr := (hbel.block g hglt).trans hg
      obtain ⟨o, hrun, him⟩ := imap_update (P := Tryz.prog) (T := 153) (K := 73) (E := 133) (by kernel_rfl) (by kernel_rfl) hmap (k : Int) (.int .i8 (p.getD k 0))
      rw [mapOf_none] at him
      have hgr' : True → _ := fun _ => hgr
      clear hgr
      by_cases h0 : 0 < p.getD k 0
      · rw [mapOf_yes p k h0] at him
        have hm := men_yes p k h0
        have hpc := bo_piece p _ _ _ _ _ g (k : Int) wr (hA.below hbel) (hgr' trivial) (by omega) (by omega) (by simpa using hlo) (by simpa using hhi)
        simp only [Int.toNat_natCast] at hpc
        generalize p.getD k 0 = v at *
        go_wp2_with (go_at_call 99; refine hpc.mono ?_; rintro e1 w1 ⟨rfl, rfl⟩)
        go_roundw
        case rel => exact ⟨k + 1, by omega, by go_num, by rw [hm]; simpa using him, below_setBlock hbel (Nat.le_refl _) o⟩
        case measure => simp [intOf]; omega
      · rw [mapOf_no p k h0] at hmap
        clear hrun him
        have hm := men_no p k h0
        have hpc := bo_piece p _ _ _ _ _ g (k : Int) wr (hA.below hbel) (hgr' trivial) (by omega) (by omega) (by simpa using hlo) (by simpa using hhi)
        simp only [Int.toNat_natCast] at hpc
        have hz : p.getD k 0 = 0 := by omega
        rw [hz] at hpc
        clear hz h0 hlo hhi
        go_wp2_with (go_at_call 99; refine hpc.mono ?_; rintro e1 w1 ⟨rfl, rfl⟩)
        go_roundw
        case rel => exact ⟨k + 1, by omega, by go_num, by rw [hm]; exact hmap, hbel⟩
        case measure => simp [intOf]; omega
    · obtain rfl : k = 64 := by omega
      go_wp2_with fail
      go_ret
      exact ⟨_, rfl, Nat.le_refl _, hmap, hbel⟩
end Go.Proofs.YtplkcmlpomjojaaGreatDoor
