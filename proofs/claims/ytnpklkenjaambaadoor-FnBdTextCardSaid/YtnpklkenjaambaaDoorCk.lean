/- The reference's words for positions: on how many squares a piece stands, and where a king. -/
import Derived.Test.YtnpklkenjaambaaDoorPi
import Derived.Test.YtnpklkenjaambaaDoorAp
namespace Go.Proofs.YtnpklkenjaambaaDoor
open Go Go.RowKit
set_option maxHeartbeats 2000000
set_option linter.unusedSimpArgs false
set_option linter.unusedVariables false
set_option maxRecDepth 100000

/-- On how many of the first n squares k stands. -/
def cnt (q : List Int) (k : Int) (n : Nat) : Nat := ((List.range n).filter fun i => decide (q.getD i 0 = k)).length
theorem cnt_yes (q : List Int) (k : Int) (n : Nat) (h : q.getD n 0 = k) : cnt q k (n + 1) = cnt q k n + 1 := by
  unfold cnt
  rw [List.range_succ, List.filter_append]
  simp at h
  simp [h]
theorem cnt_no (q : List Int) (k : Int) (n : Nat) (h : q.getD n 0 ≠ k) : cnt q k (n + 1) = cnt q k n := by
  unfold cnt
  rw [List.range_succ, List.filter_append]
  simp at h
  simp [h]
theorem cnt_le (q : List Int) (k : Int) (n : Nat) : cnt q k n ≤ n := by
  have := List.length_filter_le (fun i => decide (q.getD i 0 = k)) (List.range n)
  simpa [cnt] using this
/-- The first square, from i on, of n ones, on which k stands; -1 without one. -/
def firstK (q : List Int) (k : Int) : Nat → Nat → Int
  | _, 0 => -1
  | i, n + 1 => if q.getD i 0 = k then (i : Int) else firstK q k (i + 1) n
end Go.Proofs.YtnpklkenjaambaaDoor
