/- The reference's words for positions: on how many squares a piece stands, and where a king. -/
import Derived.Test.YtplkcmlpomjojaaDoorPi
import Derived.Test.YtplkcmlpomjojaaDoorAp
namespace Go.Proofs.YtplkcmlpomjojaaDoor
open Go Go.RowKit
set_option maxHeartbeats 2000000
set_option linter.unusedSimpArgs false
set_option linter.unusedVariables false
set_option maxRecDepth 100000

theorem br_of (k s : Int) (w : World) (n : Nat) (h0 : 0 ≤ k) (h1 : k ≤ 6) (h2 : 0 ≤ s) (h3 : s ≤ 1) :
    Calls Tryd.prog 39 #[.int .i64 k, .int .i64 s] (w.drewN n) fun e w'' => e = .returned (.int .i64 (k + 6 * s)) ∧ ∃ m, w'' = w.drewN m :=
  (po_of k s _ h0 h1 h2 h3).mono fun _ _ ⟨he, hm⟩ => ⟨he, n, hm.symm⟩
/-- On how many of the first n squares k stands. -/
def cnt (q : List Int) (k : Int) (n : Nat) : Nat := ((List.range n).filter fun i => decide (q.getD i 0 = k)).length
theorem cnt_yes (q : List Int) (k : Int) (n : Nat) (h : q.getD n 0 = k) : cnt q k (n + 1) = cnt q k n + 1 := by
  unfold cnt
  rw [List.range_succ, List.filter_append]
  simp at h
  simp [h]
theorem cnt_no (q : List Int) (k : Int) (n : Nat) (h : q.getD n 0 ≠ k) : cnt q k (n + 1) = cnt q k n := by
  unfold cnt
  rw [List.range_succ, List.filter_append]
  simp at h
  simp [h]
theorem cnt_le (q : List Int) (k : Int) (n : Nat) : cnt q k n ≤ n := by
  have := List.length_filter_le (fun i => decide (q.getD i 0 = k)) (List.range n)
  simpa [cnt] using this
theorem br_count (q : List Int) (hl : q.length = 69) (kd sd : Int) (h0 : 0 ≤ kd) (h1 : kd ≤ 6) (h2 : 0 ≤ sd) (h3 : sd ≤ 1) (w : World) :
    Calls Tryd.prog 26 #[.agg (ints q), .int .i64 kd, .int .i64 sd] w fun e' w' => e' = .returned (.int .i64 (cnt q (kd + 6 * sd) 64 : Nat)) ∧ Below w.heap.size w w' := by
  go_enter Tryd.func26, Tryd.ntmps26
  go_wp2_with fail
  have hrow := heap_alloc_new w (.cells (ints q) 24)
  have hBW : Below w.heap.size w (w.alloc (.cells (ints q) 24)) := (Below.refl _ _).alloc (Nat.le_refl _) _
  generalize w.alloc (.cells (ints q) 24) = W at *
  go_loopw [7, 8] (fun n i wr => ∃ k : Nat, k ≤ 64 ∧ i = .int .i64 (k : Int) ∧ n = .int .i64 (cnt q (kd + 6 * sd) k : Nat) ∧ wr.heap[w.heap.size]? = some (.cells (ints q) 24 (0, 0)) ∧ Below w.heap.size w wr) (fun _ i _ => (64 - intOf i).toNat)
  case atStart => exact ⟨0, by omega, rfl, rfl, hrow, hBW⟩
  case round =>
    obtain ⟨k, hk, rfl, rfl, hrr, hbr⟩ := hrel
    clear hrow hBW
    have hle := cnt_le q (kd + 6 * sd) k
    by_cases hlt : k < 64
    · have hc := row_cell hrr k (by omega)
      have hhid : True → _ := fun _ => And.intro hrr hbr
      clear hrr hbr
      by_cases e : q.getD k 0 = kd + 6 * sd
      · have hm : True → _ := fun _ => cnt_yes q _ k e
        rw [e] at hc
        clear e
        generalize hmk : cnt q (kd + 6 * sd) k = m at *
        go_wp2_with fail
        go_quiet (first | (go_at_call 39; refine br_of _ _ _ _ h0 h1 h2 h3))
        go_wp2
        go_roundw
        case rel => exact ⟨k + 1, by omega, by go_num, by rw [hm trivial]; go_num, (hhid trivial).1, (hhid trivial).2.trans ((drewN_below wr _).mono (hhid trivial).2.size)⟩
        case measure => simp [intOf]; omega
      · have hm : True → _ := fun _ => cnt_no q _ k e
        have hne : (q.getD k 0 == kd + 6 * sd) = false := by simp; simpa using e
        generalize hmk : cnt q (kd + 6 * sd) k = m at *
        generalize q.getD k 0 = v at *
        clear e
        go_wp2_with fail
        go_quiet (first | (go_at_call 39; refine br_of _ _ _ _ h0 h1 h2 h3))
        go_wp2
        go_roundw
        case rel => exact ⟨k + 1, by omega, by go_num, by rw [hm trivial], (hhid trivial).1, (hhid trivial).2.trans ((drewN_below wr _).mono (hhid trivial).2.size)⟩
        case measure => simp [intOf]; omega
    · obtain rfl : k = 64 := by omega
      clear hrr
      generalize hmk : cnt q (kd + 6 * sd) 64 = m at *
      go_wp2_with fail
      go_ret
      exact ⟨by rw [hmk]; rfl, hbr⟩
/-- The first square, from i on, of n ones, on which k stands; -1 without one. -/
def firstK (q : List Int) (k : Int) : Nat → Nat → Int
  | _, 0 => -1
  | i, n + 1 => if q.getD i 0 = k then (i : Int) else firstK q k (i + 1) n
theorem br_kingAt (q : List Int) (hl : q.length = 69) (sd : Int) (h2 : 0 ≤ sd) (h3 : sd ≤ 1) (w : World) :
    Calls Tryd.prog 29 #[.agg (ints q), .int .i64 sd] w fun e' w' => e' = .returned (.int .i64 (firstK q (1 + 6 * sd) 0 64)) ∧ Below w.heap.size w w' := by
  go_enter Tryd.func29, Tryd.ntmps29
  go_wp2_with fail
  have hrow := heap_alloc_new w (.cells (ints q) 24)
  have hBW : Below w.heap.size w (w.alloc (.cells (ints q) 24)) := (Below.refl _ _).alloc (Nat.le_refl _) _
  generalize w.alloc (.cells (ints q) 24) = W at *
  generalize htot : firstK q (1 + 6 * sd) 0 64 = tot
  have htot' := show Shut _ from htot
  clear htot
  go_loopw [5] (fun i wr => ∃ k : Nat, k ≤ 64 ∧ i = .int .i64 (k : Int) ∧ firstK q (1 + 6 * sd) k (64 - k) = tot ∧ wr.heap[w.heap.size]? = some (.cells (ints q) 24 (0, 0)) ∧ Below w.heap.size w wr) (fun i _ => (64 - intOf i).toNat)
  case atStart => exact ⟨0, by omega, rfl, htot'.out, hrow, hBW⟩
  case round =>
    obtain ⟨k, hk, rfl, ht, hrr, hbr⟩ := hrel
    clear hrow hBW
    by_cases hlt : k < 64
    · have hc := row_cell hrr k (by omega)
      have hst : 64 - k = (64 - (k + 1)) + 1 := by omega
      rw [hst, firstK] at ht
      have hhid : True → _ := fun _ => And.intro hrr hbr
      clear hrr hbr hst
      by_cases e : q.getD k 0 = 1 + 6 * sd
      · rw [if_pos e] at ht
        rw [e] at hc
        clear e
        have ht' := show Shut _ from ht
        clear ht
        go_wp2_with fail
        go_quiet (first | (go_at_call 39; refine br_of 1 _ _ _ (by omega) (by omega) h2 h3))
        go_wp2
        go_ret
        exact ⟨by rw [htot'.out, ← ht'.out]; rfl, (hhid trivial).2.trans ((drewN_below wr _).mono (hhid trivial).2.size)⟩
      · rw [if_neg e] at ht
        have hne : (q.getD k 0 == 1 + 6 * sd) = false := by simp; simpa using e
        have ht' := show Shut _ from ht
        clear ht
        generalize q.getD k 0 = v at *
        clear e
        go_wp2_with fail
        go_quiet (first | (go_at_call 39; refine br_of 1 _ _ _ (by omega) (by omega) h2 h3))
        go_wp2
        go_roundw
        case rel => exact ⟨k + 1, by omega, by go_num, ht'.out, (hhid trivial).1, (hhid trivial).2.trans ((drewN_below wr _).mono (hhid trivial).2.size)⟩
        case measure => simp [intOf]; omega
    · obtain rfl : k = 64 := by omega
      clear hrr
      have ht' := show Shut _ from ht
      clear ht
      go_wp2_with fail
      go_ret
      exact ⟨by rw [htot'.out, ← ht'.out]; rfl, hbr⟩
end Go.Proofs.YtplkcmlpomjojaaDoor
