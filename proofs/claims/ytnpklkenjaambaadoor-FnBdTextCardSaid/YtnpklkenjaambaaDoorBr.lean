/- The reference's words for boards: whether a board has pieces alone, how many men, how many of a kind, where a king stands. -/
import Derived.Test.YtnpklkenjaambaaDoorBq
import Derived.Test.YtnpklkenjaambaaDoorCk
namespace Go.Proofs.YtnpklkenjaambaaDoor
open Go Go.RowKit
set_option maxHeartbeats 2000000
set_option linter.unusedSimpArgs false
set_option linter.unusedVariables false
set_option maxRecDepth 100000

def right (p : List Int) : Bool := (List.range 64).all fun i => decide (0 ≤ p.getD i 0) && decide (p.getD i 0 ≤ 12)
theorem right_brd (p : List Int) (hl : p.length = 64) (h : right p = true) : Brd p := by
  have hh : ∀ s : Nat, 0 ≤ p.getD s 0 ∧ p.getD s 0 ≤ 12 := fun s => by
    by_cases hs : s < 64
    · have := List.all_eq_true.1 h s (List.mem_range.2 hs)
      simpa using this
    · have : p.getD s 0 = 0 := by simp [List.getD, List.getElem?_eq_none (show p.length ≤ s by omega)]
      rw [this]; decide
  exact ⟨hl, fun s => (hh s).1, fun s => (hh s).2⟩
theorem right_no (p : List Int) (k : Nat) (hk : k < 64) (h : ¬ (0 ≤ p.getD k 0 ∧ p.getD k 0 ≤ 12)) : right p = false := by
  cases hr : right p with
  | false => rfl
  | true =>
    have := List.all_eq_true.1 hr k (List.mem_range.2 hk)
    simp at this h
    exact absurd this.2 (by have := h this.1; omega)
theorem right_yes (p : List Int) (h : ∀ k, k < 64 → 0 ≤ p.getD k 0 ∧ p.getD k 0 ≤ 12) : right p = true := by
  unfold right
  rw [List.all_eq_true]
  intro k hk
  have := h k (List.mem_range.1 hk)
  simpa using this

theorem br_right (p : List Int) (hl : p.length = 64) (w : World) :
    Calls Tryd.prog 9 #[.agg (ints p)] w fun e' w' => e' = .returned (.bool (right p)) ∧ Below w.heap.size w w' := by
  go_enter Tryd.func9, Tryd.ntmps9
  go_wp2_with fail
  have hrow := heap_alloc_new w (.cells (ints p) 30)
  have hBW : Below w.heap.size w (w.alloc (.cells (ints p) 30)) := (Below.refl _ _).alloc (Nat.le_refl _) _
  generalize w.alloc (.cells (ints p) 30) = W at *
  go_loopw [3] (fun i wr => ∃ k : Nat, k ≤ 64 ∧ i = .int .i64 (k : Int) ∧ wr = W ∧ ∀ j, j < k → 0 ≤ p.getD j 0 ∧ p.getD j 0 ≤ 12) (fun i _ => (64 - intOf i).toNat)
  case atStart => exact ⟨0, by omega, rfl, rfl, fun j hj => by omega⟩
  case round =>
    obtain ⟨k, hk, rfl, rfl, hall⟩ := hrel
    by_cases hlt : k < 64
    · have hc := row_cell hrow k (by omega)
      have hall' : True → ∀ j, j < k → 0 ≤ p.getD j 0 ∧ p.getD j 0 ≤ 12 := fun _ => hall
      have hno := right_no p k hlt
      have hyes : 0 ≤ p.getD k 0 → p.getD k 0 ≤ 12 → ∀ j, j < k + 1 → 0 ≤ p.getD j 0 ∧ p.getD j 0 ≤ 12 := fun h1 h2 j hj => by
        by_cases e : j = k
        · subst e; exact ⟨h1, h2⟩
        · exact hall j (by omega)
      have hhid : True → _ := fun _ => And.intro hno hyes
      clear hall hrow hno hyes
      generalize p.getD k 0 = v at *
      by_cases h1 : v < 0
      · go_wp2_with fail
        go_ret
        exact ⟨by first | rfl | (rw [(hhid trivial).1 (by omega)]; rfl), hBW⟩
      by_cases h2 : 12 < v
      · go_wp2_with fail
        go_ret
        exact ⟨by first | rfl | (rw [(hhid trivial).1 (by omega)]; rfl), hBW⟩
      · go_wp2_with fail
        go_roundw
        case rel => exact ⟨k + 1, by omega, by go_num, trivial, (hhid trivial).2 (by omega) (by omega)⟩
        case measure => simp [intOf]; omega
    · obtain rfl : k = 64 := by omega
      have hr := right_yes p hall
      clear hall
      go_wp2_with fail
      go_ret
      exact ⟨by rw [hr]; rfl, hBW⟩

end Go.Proofs.YtnpklkenjaambaaDoor
