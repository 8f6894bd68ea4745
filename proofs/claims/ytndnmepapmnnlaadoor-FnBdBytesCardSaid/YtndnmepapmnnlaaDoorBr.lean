/- The reference's words for boards: whether a board has pieces alone, how many men, how many of a kind, where a king stands. -/
import Derived.Test.YtndnmepapmnnlaaDoorBq
namespace Go.Proofs.YtndnmepapmnnlaaDoor
open Go Go.RowKit
set_option maxHeartbeats 2000000
set_option linter.unusedSimpArgs false
set_option linter.unusedVariables false
set_option maxRecDepth 100000

def right (p : List Int) : Bool := (List.range 64).all fun i => decide (0 ≤ p.getD i 0) && decide (p.getD i 0 ≤ 12)
theorem right_brd (p : List Int) (hl : p.length = 64) (h : right p = true) : Brd p := by
  have hh : ∀ s : Nat, 0 ≤ p.getD s 0 ∧ p.getD s 0 ≤ 12 := fun s => by
    by_cases hs : s < 64
    · have := List.all_eq_true.1 h s (List.mem_range.2 hs)
      simpa using this
    · have : p.getD s 0 = 0 := by simp [List.getD, List.getElem?_eq_none (show p.length ≤ s by omega)]
      rw [this]; decide
  exact ⟨hl, fun s => (hh s).1, fun s => (hh s).2⟩
theorem right_no (p : List Int) (k : Nat) (hk : k < 64) (h : ¬ (0 ≤ p.getD k 0 ∧ p.getD k 0 ≤ 12)) : right p = false := by
  cases hr : right p with
  | false => rfl
  | true =>
    have := List.all_eq_true.1 hr k (List.mem_range.2 hk)
    simp at this h
    exact absurd this.2 (by have := h this.1; omega)
theorem right_yes (p : List Int) (h : ∀ k, k < 64 → 0 ≤ p.getD k 0 ∧ p.getD k 0 ≤ 12) : right p = true := by
  unfold right
  rw [List.all_eq_true]
  intro k hk
  have := h k (List.mem_range.1 hk)
  simpa using this

theorem br_right (p : List Int) (hl : p.length = 64) (w : World) :
    Calls Tryd.prog 7 #[.agg (ints p)] w fun e' w' => e' = .returned (.bool (right p)) ∧ Below w.heap.size w w' := by
  go_enter Tryd.func7, Tryd.ntmps7
  go_wp2_with fail
  have hrow := heap_alloc_new w (.cells (ints p) 22)
  have hBW : Below w.heap.size w (w.alloc (.cells (ints p) 22)) := (Below.refl _ _).alloc (Nat.le_refl _) _
  generalize w.alloc (.cells (ints p) 22) = W at *
  go_loopw [3] (fun i wr => ∃ k : Nat, k ≤ 64 ∧ i = .int .i64 (k : Int) ∧ wr = W ∧ ∀ j, j < k → 0 ≤ p.getD j 0 ∧ p.getD j 0 ≤ 12) (fun i _ => (64 - intOf i).toNat)
  case atStart => exact ⟨0, by omega, rfl, rfl, fun j hj => by omega⟩
  case round =>
    obtain ⟨k, hk, rfl, rfl, hall⟩ := hrel
    by_cases hlt : k < 64
    · have hc := row_cell hrow k (by omega)
      have hall' : True → ∀ j, j < k → 0 ≤ p.getD j 0 ∧ p.getD j 0 ≤ 12 := fun _ => hall
      have hno := right_no p k hlt
      have hyes : 0 ≤ p.getD k 0 → p.getD k 0 ≤ 12 → ∀ j, j < k + 1 → 0 ≤ p.getD j 0 ∧ p.getD j 0 ≤ 12 := fun h1 h2 j hj => by
        by_cases e : j = k
        · subst e; exact ⟨h1, h2⟩
        · exact hall j (by omega)
      have hhid : True → _ := fun _ => And.intro hno hyes
      clear hall hrow hno hyes
      generalize p.getD k 0 = v at *
      by_cases h1 : v < 0
      · go_wp2_with fail
        go_ret
        exact ⟨by first | rfl | (rw [(hhid trivial).1 (by omega)]; rfl), hBW⟩
      by_cases h2 : 12 < v
      · go_wp2_with fail
        go_ret
        exact ⟨by first | rfl | (rw [(hhid trivial).1 (by omega)]; rfl), hBW⟩
      · go_wp2_with fail
        go_roundw
        case rel => exact ⟨k + 1, by omega, by go_num, trivial, (hhid trivial).2 (by omega) (by omega)⟩
        case measure => simp [intOf]; omega
    · obtain rfl : k = 64 := by omega
      have hr := right_yes p hall
      clear hall
      go_wp2_with fail
      go_ret
      exact ⟨by rw [hr]; rfl, hBW⟩

theorem br_men (q : List Int) (hl : q.length = 69) (hq : ∀ s : Nat, s < 64 → 0 ≤ q.getD s 0) (w : World) :
    Calls Tryd.prog 9 #[.agg (ints q)] w fun e' w' => e' = .returned (.int .i64 (men q 64 : Nat)) ∧ Below w.heap.size w w' := by
  go_enter Tryd.func9, Tryd.ntmps9
  go_wp2_with fail
  have hrow := heap_alloc_new w (.cells (ints q) 25)
  have hBW : Below w.heap.size w (w.alloc (.cells (ints q) 25)) := (Below.refl _ _).alloc (Nat.le_refl _) _
  generalize w.alloc (.cells (ints q) 25) = W at *
  go_loopw [3, 4] (fun n i wr => ∃ k : Nat, k ≤ 64 ∧ i = .int .i64 (k : Int) ∧ n = .int .i64 (men q k : Nat) ∧ wr = W) (fun _ i _ => (64 - intOf i).toNat)
  case atStart => exact ⟨0, by omega, rfl, rfl, rfl⟩
  case round =>
    obtain ⟨k, hk, rfl, rfl, rfl⟩ := hrel
    have hle := men_le q k
    by_cases hlt : k < 64
    · have hc := row_cell hrow k (by omega)
      have hnn := hq k hlt
      by_cases h0 : 0 < q.getD k 0
      · have hm := men_yes q k h0
        clear hrow
        generalize q.getD k 0 = v at *
        generalize men q k = m at *
        go_wp2_with fail
        go_roundw
        case rel => exact ⟨k + 1, by omega, by go_num, by rw [hm]; go_num, trivial⟩
        case measure => simp [intOf]; omega
      · have hm := men_no q k h0
        have hz : q.getD k 0 = 0 := by omega
        rw [hz] at hc
        clear hrow hz h0 hnn
        generalize hmk : men q k = m at *
        go_wp2_with fail
        go_roundw
        case rel => exact ⟨k + 1, by omega, by go_num, by rw [hm], trivial⟩
        case measure => simp [intOf]; omega
    · obtain rfl : k = 64 := by omega
      clear hrow
      generalize hmk : men q 64 = m at *
      go_wp2_with fail
      go_ret
      exact ⟨by rw [hmk]; rfl, hBW⟩

theorem br_of (k s : Int) (w : World) (n : Nat) (h0 : 0 ≤ k) (h1 : k ≤ 6) (h2 : 0 ≤ s) (h3 : s ≤ 1) :
    Calls Tryd.prog 24 #[.int .i64 k, .int .i64 s] (w.drewN n) fun e w'' => e = .returned (.int .i64 (k + 6 * s)) ∧ ∃ m, w'' = w.drewN m :=
  (po_of k s _ h0 h1 h2 h3).mono fun _ _ ⟨he, hm⟩ => ⟨he, n, hm.symm⟩
/-- On how many of the first n squares k stands. -/
def cnt (q : List Int) (k : Int) (n : Nat) : Nat := ((List.range n).filter fun i => decide (q.getD i 0 = k)).length
theorem cnt_yes (q : List Int) (k : Int) (n : Nat) (h : q.getD n 0 = k) : cnt q k (n + 1) = cnt q k n + 1 := by
  unfold cnt
  rw [List.range_succ, List.filter_append]
  simp at h
  simp [h]
theorem cnt_no (q : List Int) (k : Int) (n : Nat) (h : q.getD n 0 ≠ k) : cnt q k (n + 1) = cnt q k n := by
  unfold cnt
  rw [List.range_succ, List.filter_append]
  simp at h
  simp [h]
theorem cnt_le (q : List Int) (k : Int) (n : Nat) : cnt q k n ≤ n := by
  have := List.length_filter_le (fun i => decide (q.getD i 0 = k)) (List.range n)
  simpa [cnt] using this
theorem br_count (q : List Int) (hl : q.length = 69) (kd sd : Int) (h0 : 0 ≤ kd) (h1 : kd ≤ 6) (h2 : 0 ≤ sd) (h3 : sd ≤ 1) (w : World) :
    Calls Tryd.prog 10 #[.agg (ints q), .int .i64 kd, .int .i64 sd] w fun e' w' => e' = .returned (.int .i64 (cnt q (kd + 6 * sd) 64 : Nat)) ∧ Below w.heap.size w w' := by
  go_enter Tryd.func10, Tryd.ntmps10
  go_wp2_with fail
  have hrow := heap_alloc_new w (.cells (ints q) 25)
  have hBW : Below w.heap.size w (w.alloc (.cells (ints q) 25)) := (Below.refl _ _).alloc (Nat.le_refl _) _
  generalize w.alloc (.cells (ints q) 25) = W at *
  go_loopw [7, 8] (fun n i wr => ∃ k : Nat, k ≤ 64 ∧ i = .int .i64 (k : Int) ∧ n = .int .i64 (cnt q (kd + 6 * sd) k : Nat) ∧ wr.heap[w.heap.size]? = some (.cells (ints q) 25 (0, 0)) ∧ Below w.heap.size w wr) (fun _ i _ => (64 - intOf i).toNat)
  case atStart => exact ⟨0, by omega, rfl, rfl, hrow, hBW⟩
  case round =>
    obtain ⟨k, hk, rfl, rfl, hrr, hbr⟩ := hrel
    clear hrow hBW
    have hle := cnt_le q (kd + 6 * sd) k
    by_cases hlt : k < 64
    · have hc := row_cell hrr k (by omega)
      have hhid : True → _ := fun _ => And.intro hrr hbr
      clear hrr hbr
      by_cases e : q.getD k 0 = kd + 6 * sd
      · have hm : True → _ := fun _ => cnt_yes q _ k e
        rw [e] at hc
        clear e
        generalize hmk : cnt q (kd + 6 * sd) k = m at *
        go_wp2_with fail
        go_quiet (first | (go_at_call 24; refine br_of _ _ _ _ h0 h1 h2 h3))
        go_wp2
        go_roundw
        case rel => exact ⟨k + 1, by omega, by go_num, by rw [hm trivial]; go_num, (hhid trivial).1, (hhid trivial).2.trans ((drewN_below wr _).mono (hhid trivial).2.size)⟩
        case measure => simp [intOf]; omega
      · have hm : True → _ := fun _ => cnt_no q _ k e
        have hne : (q.getD k 0 == kd + 6 * sd) = false := by simp; simpa using e
        generalize hmk : cnt q (kd + 6 * sd) k = m at *
        generalize q.getD k 0 = v at *
        clear e
        go_wp2_with fail
        go_quiet (first | (go_at_call 24; refine br_of _ _ _ _ h0 h1 h2 h3))
        go_wp2
        go_roundw
        case rel => exact ⟨k + 1, by omega, by go_num, by rw [hm trivial], (hhid trivial).1, (hhid trivial).2.trans ((drewN_below wr _).mono (hhid trivial).2.size)⟩
        case measure => simp [intOf]; omega
    · obtain rfl : k = 64 := by omega
      clear hrr
      generalize hmk : cnt q (kd + 6 * sd) 64 = m at *
      go_wp2_with fail
      go_ret
      exact ⟨by rw [hmk]; rfl, hbr⟩
/-- The first square, from i on, of n ones, on which k stands; -1 without one. -/
def firstK (q : List Int) (k : Int) : Nat → Nat → Int
  | _, 0 => -1
  | i, n + 1 => if q.getD i 0 = k then (i : Int) else firstK q k (i + 1) n
theorem br_kingAt (q : List Int) (hl : q.length = 69) (sd : Int) (h2 : 0 ≤ sd) (h3 : sd ≤ 1) (w : World) :
    Calls Tryd.prog 12 #[.agg (ints q), .int .i64 sd] w fun e' w' => e' = .returned (.int .i64 (firstK q (1 + 6 * sd) 0 64)) ∧ Below w.heap.size w w' := by
  go_enter Tryd.func12, Tryd.ntmps12
  go_wp2_with fail
  have hrow := heap_alloc_new w (.cells (ints q) 25)
  have hBW : Below w.heap.size w (w.alloc (.cells (ints q) 25)) := (Below.refl _ _).alloc (Nat.le_refl _) _
  generalize w.alloc (.cells (ints q) 25) = W at *
  generalize htot : firstK q (1 + 6 * sd) 0 64 = tot
  have htot' := show Shut _ from htot
  clear htot
  go_loopw [5] (fun i wr => ∃ k : Nat, k ≤ 64 ∧ i = .int .i64 (k : Int) ∧ firstK q (1 + 6 * sd) k (64 - k) = tot ∧ wr.heap[w.heap.size]? = some (.cells (ints q) 25 (0, 0)) ∧ Below w.heap.size w wr) (fun i _ => (64 - intOf i).toNat)
  case atStart => exact ⟨0, by omega, rfl, htot'.out, hrow, hBW⟩
  case round =>
    obtain ⟨k, hk, rfl, ht, hrr, hbr⟩ := hrel
    clear hrow hBW
    by_cases hlt : k < 64
    · have hc := row_cell hrr k (by omega)
      have hst : 64 - k = (64 - (k + 1)) + 1 := by omega
      rw [hst, firstK] at ht
      have hhid : True → _ := fun _ => And.intro hrr hbr
      clear hrr hbr hst
      by_cases e : q.getD k 0 = 1 + 6 * sd
      · rw [if_pos e] at ht
        rw [e] at hc
        clear e
        have ht' := show Shut _ from ht
        clear ht
        go_wp2_with fail
        go_quiet (first | (go_at_call 24; refine br_of 1 _ _ _ (by omega) (by omega) h2 h3))
        go_wp2
        go_ret
        exact ⟨by rw [htot'.out, ← ht'.out]; rfl, (hhid trivial).2.trans ((drewN_below wr _).mono (hhid trivial).2.size)⟩
      · rw [if_neg e] at ht
        have hne : (q.getD k 0 == 1 + 6 * sd) = false := by simp; simpa using e
        have ht' := show Shut _ from ht
        clear ht
        generalize q.getD k 0 = v at *
        clear e
        go_wp2_with fail
        go_quiet (first | (go_at_call 24; refine br_of 1 _ _ _ (by omega) (by omega) h2 h3))
        go_wp2
        go_roundw
        case rel => exact ⟨k + 1, by omega, by go_num, ht'.out, (hhid trivial).1, (hhid trivial).2.trans ((drewN_below wr _).mono (hhid trivial).2.size)⟩
        case measure => simp [intOf]; omega
    · obtain rfl : k = 64 := by omega
      clear hrr
      have ht' := show Shut _ from ht
      clear ht
      go_wp2_with fail
      go_ret
      exact ⟨by rw [htot'.out, ← ht'.out]; rfl, hbr⟩
end Go.Proofs.YtndnmepapmnnlaaDoor
