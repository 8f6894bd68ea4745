/- spec.left, spec.Takes: the rights that are left behind a move, and what a move takes. For every position of pieces from 0 to 12. -/
import Derived.Test.YtplkcmlpomjojaaDoorRi
import Derived.Test.YtplkcmlpomjojaaDoorRg
import Derived.Test.YtplkcmlpomjojaaDoorRe
namespace Go.Proofs.YtplkcmlpomjojaaDoor
open Go Go.RowKit
set_option maxHeartbeats 4000000
set_option linter.unusedSimpArgs false
set_option linter.unusedVariables false
set_option maxRecDepth 100000

/-- A move: from, to, what a pawn becomes. -/
structure Mv where
  fr : Int
  to : Int
  pr : Int
deriving DecidableEq
def mvL (m : Mv) : List Int := [m.fr, m.to, m.pr]
def touches (m : Mv) (r : Nat) : Bool := decide (m.fr = homeK r) || (decide (m.fr = homeR r) || (decide (m.to = homeK r) || decide (m.to = homeR r)))
def leftTo (c : Int) (m : Mv) : Nat → Int
  | 0 => c
  | n + 1 => leftTo c m n - (if hasR (leftTo c m n) n && touches m n then 2 ^ n else 0)
def leftB (c : Int) (m : Mv) : Int := leftTo c m 4
theorem left_range (c : Int) (m : Mv) (h0 : 0 ≤ c) (h1 : c ≤ 15) : ∀ n, 0 ≤ leftTo c m n ∧ leftTo c m n ≤ 15
  | 0 => ⟨h0, h1⟩
  | n + 1 => by
    obtain ⟨g0, g1⟩ := left_range c m h0 h1 n
    rw [leftTo]
    generalize leftTo c m n = y at *
    by_cases h : (hasR y n && touches m n) = true
    · rw [if_pos h]
      have hr : y / 2 ^ n % 2 = 1 := by simp [hasR] at h; exact h.1
      have hp : (0 : Int) < 2 ^ n := Int.pow_pos (by decide)
      have : 2 ^ n ≤ y := by
        by_cases hlt : y < 2 ^ n
        · rw [Int.ediv_eq_zero_of_lt g0 hlt] at hr; omega
        · omega
      omega
    · rw [if_neg h]; omega
theorem md_left (c : Int) (m : Mv) (h0 : 0 ≤ c) (h1 : c ≤ 15) (w : World) :
    Calls Tryd.prog 47 #[.int .i64 c, .agg (ints (mvL m))] w fun e w' => e = .returned (.int .i64 (leftB c m)) ∧ Below w.heap.size w w' := by
  go_enter Tryd.func47, Tryd.ntmps47
  go_wp2_with fail
  have hrow := heap_alloc_new w (.cells (ints (mvL m)) 52)
  have hBW : Below w.heap.size w (w.alloc (.cells (ints (mvL m)) 52)) := (Below.refl _ _).alloc (Nat.le_refl _) _
  generalize w.alloc (.cells (ints (mvL m)) 52) = W at *
  have cf : W.cell? ⟨w.heap.size, 0, none⟩ = some (.int .i64 m.fr) := row_cell hrow 0 (by simp [mvL])
  have co : W.cell? ⟨w.heap.size, 1, none⟩ = some (.int .i64 m.to) := row_cell hrow 1 (by simp [mvL])
  have hlr := left_range c m h0 h1
  have hBs := show Shut _ from And.intro hBW hlr
  clear hrow hBW hlr
  go_loopw [0, 5] (fun cc i wr => ∃ k : Nat, k ≤ 4 ∧ i = .int .i64 (k : Int) ∧ cc = .int .i64 (leftTo c m k) ∧ wr = W) (fun _ i _ => (4 - intOf i).toNat)
  case atStart => exact ⟨0, by omega, rfl, rfl, rfl⟩
  case round =>
    obtain ⟨k, hk, rfl, rfl, rfl⟩ := hrel
    by_cases hlt : k < 4
    · have hst : leftTo c m (k + 1) = leftTo c m k - (if hasR (leftTo c m k) k && touches m k then 2 ^ k else 0) := rfl
      obtain ⟨y0, y1⟩ := hBs.out.2 k
      have hpw : (2 : Int) ^ k ≤ 8 ∧ 1 ≤ (2 : Int) ^ k := by
        have h4 : k = 0 ∨ k = 1 ∨ k = 2 ∨ k = 3 := by omega
        rcases h4 with rfl | rfl | rfl | rfl <;> decide
      have htc : touches m k = (decide (m.fr = homeK k) || (decide (m.fr = homeR k) || (decide (m.to = homeK k) || decide (m.to = homeR k)))) := rfl
      have hhm := ri_home k hlt
      have hnx := left_range c m h0 h1 (k + 1)
      generalize hy : leftTo c m k = y at *
      generalize homeK k = a at *
      generalize homeR k = b at *
      have hbit : bits .and .i64 (y / 2 ^ k) 1 = y / 2 ^ k % 2 := by
        have g0 : 0 ≤ y / 2 ^ k := Int.ediv_nonneg y0 (Int.le_of_lt (Int.pow_pos (by decide)))
        have g1 : y / 2 ^ k ≤ y := Int.ediv_le_self _ y0
        exact bits_mask .i64 8 (by decide) (fun n h0 h1 => by rw [IntKind.wrap_i64]; omega) 1 (by decide) _ g0 (by omega)
      have hids := show Shut _ from And.intro hst (And.intro htc hhm)
      have hys := show Shut _ from And.intro hy hnx
      clear hst htc hhm hy hnx
      by_cases hb : y / 2 ^ k % 2 = 1
      · rw [hb] at hbit
        have hbs := show Shut (hasR y k = true) from decide_eq_true hb
        clear hb
        by_cases e0 : m.fr = a
        · have e0b : (m.fr == a) = true := by simpa using e0
          have hR : (hasR y k && touches m k) = true := by rw [hbs.out, hids.out.2.1]; simp [e0]
          have hRs := show Shut _ from hR
          clear hR e0
          have hnx := hys.out.2
          rw [hids.out.1, hRs.out, if_pos rfl] at hnx
          obtain ⟨nx0, nx1⟩ := hnx
          go_wp2_with (first | (go_at_call 40; refine (hids.out.2.2 _).mono ?_; rintro e1 w1 ⟨rfl, rfl⟩))
          go_roundw
          case rel => exact ⟨k + 1, by omega, by go_num, by rw [hids.out.1, hRs.out, if_pos rfl], trivial⟩
          case measure => simp [intOf]; omega
        have e0b : (m.fr == a) = false := by simpa using e0
        by_cases e1 : m.fr = b
        · have e1b : (m.fr == b) = true := by simpa using e1
          have hR : (hasR y k && touches m k) = true := by rw [hbs.out, hids.out.2.1]; simp [e1]
          have hRs := show Shut _ from hR
          clear hR e1
          have hnx := hys.out.2
          rw [hids.out.1, hRs.out, if_pos rfl] at hnx
          obtain ⟨nx0, nx1⟩ := hnx
          go_wp2_with (first | (go_at_call 40; refine (hids.out.2.2 _).mono ?_; rintro e1 w1 ⟨rfl, rfl⟩))
          go_roundw
          case rel => exact ⟨k + 1, by omega, by go_num, by rw [hids.out.1, hRs.out, if_pos rfl], trivial⟩
          case measure => simp [intOf]; omega
        have e1b : (m.fr == b) = false := by simpa using e1
        by_cases e2 : m.to = a
        · have e2b : (m.to == a) = true := by simpa using e2
          have hR : (hasR y k && touches m k) = true := by rw [hbs.out, hids.out.2.1]; simp [e2]
          have hRs := show Shut _ from hR
          clear hR e2
          have hnx := hys.out.2
          rw [hids.out.1, hRs.out, if_pos rfl] at hnx
          obtain ⟨nx0, nx1⟩ := hnx
          go_wp2_with (first | (go_at_call 40; refine (hids.out.2.2 _).mono ?_; rintro e1 w1 ⟨rfl, rfl⟩))
          go_roundw
          case rel => exact ⟨k + 1, by omega, by go_num, by rw [hids.out.1, hRs.out, if_pos rfl], trivial⟩
          case measure => simp [intOf]; omega
        have e2b : (m.to == a) = false := by simpa using e2
        by_cases e3 : m.to = b
        · have e3b : (m.to == b) = true := by simpa using e3
          have hR : (hasR y k && touches m k) = true := by rw [hbs.out, hids.out.2.1]; simp [e3]
          have hRs := show Shut _ from hR
          clear hR e3
          have hnx := hys.out.2
          rw [hids.out.1, hRs.out, if_pos rfl] at hnx
          obtain ⟨nx0, nx1⟩ := hnx
          go_wp2_with (first | (go_at_call 40; refine (hids.out.2.2 _).mono ?_; rintro e1 w1 ⟨rfl, rfl⟩))
          go_roundw
          case rel => exact ⟨k + 1, by omega, by go_num, by rw [hids.out.1, hRs.out, if_pos rfl], trivial⟩
          case measure => simp [intOf]; omega
        have e3b : (m.to == b) = false := by simpa using e3
        have hR : (hasR y k && touches m k) = false := by rw [hids.out.2.1]; simp [e0, e1, e2, e3]
        have hRs := show Shut _ from hR
        clear hR e0 e1 e2 e3
        go_wp2_with (first | (go_at_call 40; refine (hids.out.2.2 _).mono ?_; rintro e1 w1 ⟨rfl, rfl⟩))
        go_roundw
        case rel => exact ⟨k + 1, by omega, by go_num, by rw [hids.out.1, hRs.out, if_neg (by decide), Int.sub_zero], trivial⟩
        case measure => simp [intOf]; omega
      · have hb0 : y / 2 ^ k % 2 = 0 := by omega
        rw [hb0] at hbit
        have hR : (hasR y k && touches m k) = false := by rw [show hasR y k = false from decide_eq_false hb]; rfl
        have hRs := show Shut _ from hR
        clear hb hb0 hR
        go_wp2_with (first | (go_at_call 40; refine (hids.out.2.2 _).mono ?_; rintro e1 w1 ⟨rfl, rfl⟩))
        go_roundw
        case rel => exact ⟨k + 1, by omega, by go_num, by rw [hids.out.1, hRs.out, if_neg (by decide), Int.sub_zero], trivial⟩
        case measure => simp [intOf]; omega
    · obtain rfl : k = 4 := by omega
      have hL : leftB c m = leftTo c m 4 := rfl
      have hLs := show Shut _ from hL
      clear hL
      generalize leftTo c m 4 = y at *
      go_wp2_with fail
      go_ret
      exact ⟨by rw [hLs.out]; rfl, hBs.out.1⟩
end Go.Proofs.YtplkcmlpomjojaaDoor
