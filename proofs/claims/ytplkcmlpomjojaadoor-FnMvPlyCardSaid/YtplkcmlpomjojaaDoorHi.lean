/- spec.Hits: whether the piece on a square attacks another square. For every position of pieces from 0 to 12. -/
import Derived.Test.YtplkcmlpomjojaaDoorCk
import Derived.Test.YtplkcmlpomjojaaDoorPc
import Derived.Test.YtplkcmlpomjojaaDoorPo
import Derived.Deep.Light
namespace Go.Proofs.YtplkcmlpomjojaaDoor
open Go Go.RowKit
set_option maxHeartbeats 4000000
set_option linter.unusedSimpArgs false
set_option linter.unusedVariables false
set_option maxRecDepth 100000

theorem pcAt_nat (p : List Int) (s : Nat) : pcAt p (s : Int) = p.getD s 0 := rfl
/-- A position: a board of pieces, and five numbers behind it. -/
structure Pos (p : List Int) : Prop where
  len : p.length = 69
  lo : ∀ s : Nat, s < 64 → 0 ≤ p.getD s 0
  hi : ∀ s : Nat, s < 64 → p.getD s 0 ≤ 12
def sgn (n : Int) : Int := if n < 0 then -1 else if 0 < n then 1 else 0
def upOf (s : Int) : Int := 1 - 2 * s
/-- From i on by 'way' one comes to 'to' behind n steps, over squares of the board. -/
inductive Line (to way : Int) : Int → Nat → Prop
  | nil : Line to way to 0
  | cons (i : Int) (n : Nat) : 0 ≤ i → i ≤ 63 → i ≠ to → (to - (i + way)).natAbs < (to - i).natAbs → Line to way (i + way) n → Line to way i (n + 1)
def lineB (to way : Int) : Nat → Int → Bool
  | 0, i => decide (i = to)
  | n + 1, i => decide (0 ≤ i) && decide (i ≤ 63) && decide (i ≠ to) && decide ((to - (i + way)).natAbs < (to - i).natAbs) && lineB to way n (i + way)
theorem line_of (to way : Int) : ∀ n i, lineB to way n i = true → Line to way i n
  | 0, i, h => by
    obtain rfl : i = to := by simpa [lineB] using h
    exact .nil
  | n + 1, i, h => by
    simp only [lineB, Bool.and_eq_true, decide_eq_true_eq] at h
    exact .cons i n h.1.1.1.1 h.1.1.1.2 h.1.1.2 h.1.2 (line_of to way n _ h.2)
def lineN (a b : Int) : Nat := max (b % 8 - a % 8).natAbs (b / 8 - a / 8).natAbs - 1
def wayOf (a b : Int) : Int := sgn (b % 8 - a % 8) + 8 * sgn (b / 8 - a / 8)
def inLine (a b : Int) : Bool := decide (b % 8 - a % 8 = 0) || decide (b / 8 - a / 8 = 0)
def inSlant (a b : Int) : Bool := decide (b % 8 - a % 8 = b / 8 - a / 8) || decide (b % 8 - a % 8 = -(b / 8 - a / 8))
set_option maxRecDepth 1000000 in
theorem lines_all : ∀ a < 64, ∀ b < 64, (decide (a ≠ b) && (inLine (a : Nat) (b : Nat) || inSlant (a : Nat) (b : Nat))) = true → lineB (b : Nat) (wayOf (a : Nat) (b : Nat)) (lineN (a : Nat) (b : Nat)) ((a : Nat) + wayOf (a : Nat) (b : Nat)) = true := by decide +kernel
/-- n squares from i on by 'way' are empty. -/
def clearRun (p : List Int) (way : Int) : Nat → Int → Bool
  | 0, _ => true
  | n + 1, i => decide (pcAt p i = 0) && clearRun p way n (i + way)
def hitsB (p : List Int) (a b : Int) : Bool :=
  if a = b ∨ pcAt p a = 0 then false
  else if kindOf (pcAt p a) = 1 then decide ((b % 8 - a % 8) * (b % 8 - a % 8) ≤ 1) && decide ((b / 8 - a / 8) * (b / 8 - a / 8) ≤ 1)
  else if kindOf (pcAt p a) = 5 then decide ((b % 8 - a % 8) * (b % 8 - a % 8) + (b / 8 - a / 8) * (b / 8 - a / 8) = 5)
  else if kindOf (pcAt p a) = 6 then decide ((b % 8 - a % 8) * (b % 8 - a % 8) = 1) && decide (b / 8 - a / 8 = upOf (sideOf (pcAt p a)))
  else if (inLine a b && decide (kindOf (pcAt p a) ≠ 4)) || (inSlant a b && decide (kindOf (pcAt p a) ≠ 3)) then clearRun p (wayOf a b) (lineN a b) (a + wayOf a b)
  else false

theorem hi_side (x : Int) (w : World) (h1 : x < 4294967296) :
    Calls Tryd.prog 14 #[.int .i64 x] w fun e w' => e = .returned (.int .i64 (sideOf x)) ∧ w = w' := by
  go_enter Tryd.func14, Tryd.ntmps14
  by_cases h : x > 6
  · go_wp2
    go_ret
    exact ⟨by simp [sideOf, h], rfl⟩
  · go_wp2
    go_ret
    refine ⟨?_, rfl⟩
    show Ending.returned (.int .i64 0) = _
    rw [sideOf, if_neg (by omega)]
theorem hi_up (s : Int) (w : World) (h0 : 0 ≤ s) (h1 : s ≤ 1) :
    Calls Tryd.prog 33 #[.int .i64 s] w fun e w' => e = .returned (.int .i64 (upOf s)) ∧ w = w' := by
  go_enter Tryd.func33, Tryd.ntmps33
  go_wp2
  go_ret
  exact ⟨rfl, rfl⟩
theorem hi_sign (n : Int) (w : World) (h0 : -100 ≤ n) (h1 : n ≤ 100) :
    Calls Tryd.prog 34 #[.int .i64 n] w fun e w' => e = .returned (.int .i64 (sgn n)) ∧ w = w' := by
  go_enter Tryd.func34, Tryd.ntmps34
  by_cases h : n < 0
  · go_wp2
    go_ret
    exact ⟨by simp [sgn, h], rfl⟩
  by_cases h2 : 0 < n
  · go_wp2
    go_ret
    exact ⟨by simp [sgn, h, h2], rfl⟩
  · go_wp2
    go_ret
    refine ⟨?_, rfl⟩
    show Ending.returned (.int .i64 0) = _
    have e : sgn n = 0 := by unfold sgn; rw [if_neg (by omega), if_neg (by omega)]
    rw [e]
theorem sgn_range (n : Int) : -1 ≤ sgn n ∧ sgn n ≤ 1 := by
  unfold sgn
  by_cases h : n < 0
  · rw [if_pos h]; omega
  · rw [if_neg h]
    by_cases h2 : 0 < n
    · rw [if_pos h2]; omega
    · rw [if_neg h2]; omega
theorem sq_range (n : Int) (h0 : -7 ≤ n) (h1 : n ≤ 7) : 0 ≤ n * n ∧ n * n ≤ 49 ∧ IntKind.i64.wrap (n * n) = n * n := by
  have h : n = -7 ∨ n = -6 ∨ n = -5 ∨ n = -4 ∨ n = -3 ∨ n = -2 ∨ n = -1 ∨ n = 0 ∨ n = 1 ∨ n = 2 ∨ n = 3 ∨ n = 4 ∨ n = 5 ∨ n = 6 ∨ n = 7 := by omega
  rcases h with rfl | rfl | rfl | rfl | rfl | rfl | rfl | rfl | rfl | rfl | rfl | rfl | rfl | rfl | rfl <;> decide
theorem clear_step (p : List Int) (way : Int) (n : Nat) (i : Int) : clearRun p way (n + 1) i = (decide (pcAt p i = 0) && clearRun p way n (i + way)) := rfl

theorem ret_bool {a b : Bool} (h : a = b) : Ending.returned (.bool a) = .returned (.bool b) := by rw [h]
theorem hi_small (p : List Int) (hp : Pos p) (a b : Int) (a0 : 0 ≤ a) (a1 : a ≤ 63) (b0 : 0 ≤ b) (b1 : b ≤ 63) (w : World) (hk : a = b ∨ pcAt p a = 0 ∨ kindOf (pcAt p a) = 1 ∨ kindOf (pcAt p a) = 5 ∨ kindOf (pcAt p a) = 6) :
    Calls Tryd.prog 15 #[.agg (ints p), .int .i64 a, .int .i64 b] w fun e w' => e = .returned (.bool (hitsB p a b)) ∧ Below w.heap.size w w' := by
  have hrow := heap_alloc_new w (.cells (ints p) 24)
  have hBW : Below w.heap.size w (w.alloc (.cells (ints p) 24)) := (Below.refl _ _).alloc (Nat.le_refl _) _
  have hx : ∀ i : Int, 0 ≤ i → i ≤ 63 → 0 ≤ pcAt p i ∧ pcAt p i ≤ 12 := fun i h0 h1 => ⟨hp.lo _ (by omega), hp.hi _ (by omega)⟩
  have hcell : ∀ i : Int, 0 ≤ i → i ≤ 63 → (w.alloc (.cells (ints p) 24)).cell? ⟨w.heap.size, i.toNat, none⟩ = some (.int .i64 (pcAt p i)) := fun i h0 h1 => row_cell hrow i.toNat (by rw [hp.len]; omega)
  clear hrow
  have ca := hcell a a0 a1
  obtain ⟨xa0, xa1⟩ := hx a a0 a1
  have hlines := show Shut _ from lines_all a.toNat (by omega) b.toNat (by omega)
  rw [Int.toNat_of_nonneg a0, Int.toNat_of_nonneg b0] at hlines
  have hk0 : hitsB p a b = hitsB p a b := rfl
  by_cases hab : a = b
  · subst hab
    go_enter Tryd.func15, Tryd.ntmps15
    go_wp2_with (first
      | (go_at_call 32; refine (po_file _ _ (by omega) (by omega)).mono ?_; rintro e1 w1 ⟨rfl, rfl⟩)
      | (go_at_call 25; refine (po_rank _ _ (by omega) (by omega)).mono ?_; rintro e1 w1 ⟨rfl, rfl⟩))
    go_ret
    exact ⟨by simp [hitsB], hBW⟩
  have hab2 : (a == b) = false := by simpa using hab
  by_cases hx0 : pcAt p a = 0
  · rw [hx0] at ca
    go_enter Tryd.func15, Tryd.ntmps15
    go_wp2_with (first
      | (go_at_call 32; refine (po_file _ _ (by omega) (by omega)).mono ?_; rintro e1 w1 ⟨rfl, rfl⟩)
      | (go_at_call 25; refine (po_rank _ _ (by omega) (by omega)).mono ?_; rintro e1 w1 ⟨rfl, rfl⟩))
    go_ret
    exact ⟨by simp [hitsB, hx0], hBW⟩
  have hx2 : (pcAt p a == 0) = false := by simpa using hx0
  have hH : hitsB p a b = if kindOf (pcAt p a) = 1 then decide ((b % 8 - a % 8) * (b % 8 - a % 8) ≤ 1) && decide ((b / 8 - a / 8) * (b / 8 - a / 8) ≤ 1)
      else if kindOf (pcAt p a) = 5 then decide ((b % 8 - a % 8) * (b % 8 - a % 8) + (b / 8 - a / 8) * (b / 8 - a / 8) = 5)
      else if kindOf (pcAt p a) = 6 then decide ((b % 8 - a % 8) * (b % 8 - a % 8) = 1) && decide (b / 8 - a / 8 = upOf (sideOf (pcAt p a)))
      else if (inLine a b && decide (kindOf (pcAt p a) ≠ 4)) || (inSlant a b && decide (kindOf (pcAt p a) ≠ 3)) then clearRun p (wayOf a b) (lineN a b) (a + wayOf a b)
      else false := by
    rw [hitsB, if_neg (by simp [hab, hx0])]
  have hf : -7 ≤ b % 8 - a % 8 ∧ b % 8 - a % 8 ≤ 7 := by omega
  have hr : -7 ≤ b / 8 - a / 8 ∧ b / 8 - a / 8 ≤ 7 := by omega
  obtain ⟨ff0, ff1, ff⟩ := sq_range _ hf.1 hf.2
  obtain ⟨rr0, rr1, rr⟩ := sq_range _ hr.1 hr.2
  rw [show hitsB p a b = hitsB p a b from rfl] at hk0
  have hHs := show Shut _ from hH
  have hc' := show Shut _ from hcell
  have hab' := show Shut _ from hab
  clear hH hk0 hx hcell hab hx0
  generalize hxe : pcAt p a = x at *
  have sd0 : 0 ≤ sideOf x ∧ sideOf x ≤ 1 := by unfold sideOf; split <;> omega
  obtain ⟨sd0, sd1⟩ := sd0
  by_cases k1 : kindOf x = 1
  · have hid := show Shut _ from hBW
    clear hBW hf hr
    rw [if_pos k1] at hHs
    go_enter Tryd.func15, Tryd.ntmps15
    go_wp2_with (first
      | (go_at_call 32; refine (po_file _ _ (by omega) (by omega)).mono ?_; rintro e1 w1 ⟨rfl, rfl⟩)
      | (go_at_call 25; refine (po_rank _ _ (by omega) (by omega)).mono ?_; rintro e1 w1 ⟨rfl, rfl⟩)
      | (go_at_call 24; refine (po_kindOf _ _ (by omega)).mono ?_; rintro e1 w1 ⟨rfl, rfl⟩)
      | (go_at_call 14; refine (hi_side _ _ (by omega)).mono ?_; rintro e1 w1 ⟨rfl, rfl⟩)
      | (go_at_call 33; refine (hi_up _ _ (by omega) (by omega)).mono ?_; rintro e1 w1 ⟨rfl, rfl⟩)
      | (go_at_call 34; refine (hi_sign _ _ (by omega) (by omega)).mono ?_; rintro e1 w1 ⟨rfl, rfl⟩))
    all_goals
      go_ret
      refine ⟨?_, hid.out⟩
      rw [hHs.out]
      refine ret_bool ?_
      go_light
      first
      | (simp [*]; done)
      | (rw [Bool.eq_iff_iff]; simp [*]; done)
      | (rw [Bool.eq_iff_iff]; simp [*]; omega)
      | (trace_state; sorry)
  by_cases k5 : kindOf x = 5
  · have hid := show Shut _ from hBW
    clear hBW hf hr
    rw [if_neg k1, if_pos k5] at hHs
    go_enter Tryd.func15, Tryd.ntmps15
    go_wp2_with (first
      | (go_at_call 32; refine (po_file _ _ (by omega) (by omega)).mono ?_; rintro e1 w1 ⟨rfl, rfl⟩)
      | (go_at_call 25; refine (po_rank _ _ (by omega) (by omega)).mono ?_; rintro e1 w1 ⟨rfl, rfl⟩)
      | (go_at_call 24; refine (po_kindOf _ _ (by omega)).mono ?_; rintro e1 w1 ⟨rfl, rfl⟩)
      | (go_at_call 14; refine (hi_side _ _ (by omega)).mono ?_; rintro e1 w1 ⟨rfl, rfl⟩)
      | (go_at_call 33; refine (hi_up _ _ (by omega) (by omega)).mono ?_; rintro e1 w1 ⟨rfl, rfl⟩)
      | (go_at_call 34; refine (hi_sign _ _ (by omega) (by omega)).mono ?_; rintro e1 w1 ⟨rfl, rfl⟩))
    all_goals
      go_ret
      refine ⟨?_, hid.out⟩
      rw [hHs.out]
      refine ret_bool ?_
      go_light
      first
      | (simp [*]; done)
      | (rw [Bool.eq_iff_iff]; simp [*]; done)
      | (rw [Bool.eq_iff_iff]; simp [*]; omega)
      | (trace_state; sorry)
  by_cases k6 : kindOf x = 6
  · have hid := show Shut _ from hBW
    clear hBW hf hr
    rw [if_neg k1, if_neg k5, if_pos k6] at hHs
    go_enter Tryd.func15, Tryd.ntmps15
    go_wp2_with (first
      | (go_at_call 32; refine (po_file _ _ (by omega) (by omega)).mono ?_; rintro e1 w1 ⟨rfl, rfl⟩)
      | (go_at_call 25; refine (po_rank _ _ (by omega) (by omega)).mono ?_; rintro e1 w1 ⟨rfl, rfl⟩)
      | (go_at_call 24; refine (po_kindOf _ _ (by omega)).mono ?_; rintro e1 w1 ⟨rfl, rfl⟩)
      | (go_at_call 14; refine (hi_side _ _ (by omega)).mono ?_; rintro e1 w1 ⟨rfl, rfl⟩)
      | (go_at_call 33; refine (hi_up _ _ (by omega) (by omega)).mono ?_; rintro e1 w1 ⟨rfl, rfl⟩)
      | (go_at_call 34; refine (hi_sign _ _ (by omega) (by omega)).mono ?_; rintro e1 w1 ⟨rfl, rfl⟩))
    all_goals
      go_ret
      refine ⟨?_, hid.out⟩
      rw [hHs.out]
      refine ret_bool ?_
      go_light
      first
      | (simp [*]; done)
      | (rw [Bool.eq_iff_iff]; simp [*]; done)
      | (rw [Bool.eq_iff_iff]; simp [*]; omega)
      | (trace_state; sorry)
  have hx3 : x ≠ 0 := by simpa using hx2
  rcases hk with h | h | h | h | h
  · exact absurd h hab'.out
  · exact absurd h hx3
  · exact absurd h k1
  · exact absurd h k5
  · exact absurd h k6
end Go.Proofs.YtplkcmlpomjojaaDoor
