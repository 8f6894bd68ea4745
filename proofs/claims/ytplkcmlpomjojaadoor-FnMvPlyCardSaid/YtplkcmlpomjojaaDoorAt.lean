/- spec.Attacked: whether a side's piece attacks a square. For every position of pieces from 0 to 12. -/
import Derived.Test.YtplkcmlpomjojaaDoorHj
namespace Go.Proofs.YtplkcmlpomjojaaDoor
open Go Go.RowKit
set_option maxHeartbeats 4000000
set_option linter.unusedSimpArgs false
set_option linter.unusedVariables false
set_option maxRecDepth 100000

def atkOne (p : List Int) (s c : Int) (i : Nat) : Bool := decide (pcAt p i ≠ 0) && (decide (sideOf (pcAt p i) = c) && hitsB p i s)
/-- Whether a piece of the side c attacks the square s. -/
def attackedB (p : List Int) (s c : Int) : Bool := (List.range 64).any (atkOne p s c)
theorem att_yes (p : List Int) (s c : Int) (k : Nat) (hk : k < 64) (h : atkOne p s c k = true) : attackedB p s c = true :=
  List.any_eq_true.2 ⟨k, List.mem_range.2 hk, h⟩
theorem att_no (p : List Int) (s c : Int) (h : ∀ k, k < 64 → atkOne p s c k = false) : attackedB p s c = false := by
  rw [attackedB, List.any_eq_false]
  intro k hk
  rw [h k (List.mem_range.1 hk)]
  decide
theorem at_attacked (p : List Int) (hp : Pos p) (s c : Int) (s0 : 0 ≤ s) (s1 : s ≤ 63) (w : World) :
    Calls Tryd.prog 7 #[.agg (ints p), .int .i64 s, .int .i64 c] w fun e w' => e = .returned (.bool (attackedB p s c)) ∧ Below w.heap.size w w' := by
  go_enter Tryd.func7, Tryd.ntmps7
  go_wp2_with fail
  have hrow := heap_alloc_new w (.cells (ints p) 24)
  have hBW : Below w.heap.size w (w.alloc (.cells (ints p) 24)) := (Below.refl _ _).alloc (Nat.le_refl _) _
  generalize w.alloc (.cells (ints p) 24) = W at *
  go_loopw [7] (fun i wr => ∃ k : Nat, k ≤ 64 ∧ i = .int .i64 (k : Int) ∧ wr.heap[w.heap.size]? = some (.cells (ints p) 24 (0, 0)) ∧ Below w.heap.size w wr ∧ ∀ j, j < k → atkOne p s c j = false) (fun i _ => (64 - intOf i).toNat)
  case atStart => exact ⟨0, by omega, rfl, hrow, hBW, fun j hj => by omega⟩
  case round =>
    clear hrow hBW
    obtain ⟨k, hk, rfl, hr, hB, hall⟩ := hrel
    by_cases hlt : k < 64
    · have hc := row_cell hr k (by rw [hp.len]; omega)
      have hone : atkOne p s c k = (decide (p.getD k 0 ≠ 0) && (decide (sideOf (p.getD k 0) = c) && hitsB p k s)) := rfl
      have hnext : atkOne p s c k = false → ∀ j, j < k + 1 → atkOne p s c j = false := fun h j hj => by
        by_cases e : j = k
        · subst e; exact h
        · exact hall j (by omega)
      have hlo := hp.lo k hlt
      have hhi := hp.hi k hlt
      have hhid := show Shut _ from And.intro hone (And.intro hnext hB)
      clear hone hnext hB hall
      generalize hx : p.getD k 0 = x at *
      have hxs := show Shut _ from hx
      clear hx
      by_cases h0 : x = 0
      · subst h0
        go_wp2_with fail
        go_roundw
        case rel => exact ⟨k + 1, by omega, by go_num, hr, hhid.out.2.2, hhid.out.2.1 (hhid.out.1.trans (by simp))⟩
        case measure => simp [intOf]; omega
      have hx0 : (x == 0) = false := by simpa using h0
      have hx1 : (x != 0) = true := by simp [h0]
      have hne := show Shut _ from h0
      clear h0
      by_cases hs : sideOf x = c
      · subst hs
        have hss : (sideOf x == sideOf x) = true := by simp
        go_wp2_with (first
          | (go_at_call 14; refine (hi_side _ _ (by omega)).mono ?_; rintro e1 w1 ⟨rfl, rfl⟩)
          | ((with_reducible refine at_load_rowG hr Tryd.underlying24 rfl ?_ ?_ ?_ ?_); (rw [ints_size, hp.len]; kernel_rfl); rfl; rfl))
        refine (hi_hits p hp k s (by omega) (by omega) s0 s1 _).mono ?_
        rintro e1 w1 ⟨rfl, hb1⟩
        have hr1 := (hb1.block _ (Array.getElem?_eq_some_iff.1 hr).1).trans hr
        have hB1 := hhid.out.2.2.trans (hb1.mono hhid.out.2.2.size)
        clear hr hb1
        cases hh : hitsB p k s with
        | true =>
          go_wp2_with fail
          go_ret
          have hone : atkOne p s (sideOf x) k = true := hhid.out.1.trans (by have h1 : ¬ x = 0 := hne.out; rw [hh]; simp [h1])
          exact ⟨by rw [att_yes p s _ k hlt hone]; rfl, hB1⟩
        | false =>
          have hone : atkOne p s (sideOf x) k = false := hhid.out.1.trans (by rw [hh]; simp)
          have hall := show Shut _ from hhid.out.2.1 hone
          clear hone
          go_wp2_with fail
          go_roundw
          case rel => exact ⟨k + 1, by omega, by go_num, hr1, hB1, hall.out⟩
          case measure => simp [intOf]; omega
      · have hss : (sideOf x == c) = false := by simpa using hs
        have hns := show Shut _ from hs
        clear hs
        go_wp2_with (first
          | (go_at_call 14; refine (hi_side _ _ (by omega)).mono ?_; rintro e1 w1 ⟨rfl, rfl⟩))
        go_roundw
        case rel => exact ⟨k + 1, by omega, by go_num, hr, hhid.out.2.2, hhid.out.2.1 (hhid.out.1.trans (by have h1 : ¬ sideOf x = c := hns.out; simp [h1]))⟩
        case measure => simp [intOf]; omega
    · obtain rfl : k = 64 := by omega
      have hn := show Shut _ from att_no p s c hall
      clear hall
      go_wp2_with fail
      go_ret
      exact ⟨by rw [hn.out]; rfl, hB⟩
def kingAt (p : List Int) (c : Int) : Int := firstK p (1 + 6 * c) 0 64
def checkedB (p : List Int) (c : Int) : Bool := decide (0 ≤ kingAt p c) && attackedB p (kingAt p c) (1 - c)
theorem firstK_range (p : List Int) (k : Int) : ∀ n i, -1 ≤ firstK p k i n ∧ (firstK p k i n < i + n)
  | 0, i => by simp only [firstK]; omega
  | n + 1, i => by
    have := firstK_range p k n (i + 1)
    rw [firstK]
    split <;> omega
theorem kingAt_range (p : List Int) (c : Int) : -1 ≤ kingAt p c ∧ kingAt p c ≤ 63 := by
  have := firstK_range p (1 + 6 * c) 64 0
  unfold kingAt
  omega
end Go.Proofs.YtplkcmlpomjojaaDoor
