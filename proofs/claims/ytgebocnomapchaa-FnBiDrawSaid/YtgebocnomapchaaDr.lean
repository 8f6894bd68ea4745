/- The picture of a number: what it is, as a text built rank by rank. For every number. -/
import Derived.Test.YtgebocnomapchaaSq
import Derived.LoopTactic
import Derived.Deep.LoopGhost
namespace Go.Proofs.Ytgebocnomapchaa
open Go Go.RowKit
set_option maxHeartbeats 1000000
set_option linter.unusedSimpArgs false
set_option linter.unusedVariables false

def drHead : ByteArray := ⟨#[10, 32, 65, 32, 66, 32, 67, 32, 68, 32, 69, 32, 70, 32, 71, 32, 72, 10]⟩
def drBit (x : BitVec 64) (s : Nat) : ByteArray := if occ x s then ⟨#[49]⟩ else ⟨#[48]⟩
def drIn (x : BitVec 64) (r : Nat) (s : ByteArray) : Nat → ByteArray
  | 0 => s
  | j + 1 => (drIn x r s j ++ drBit x (8 * r + j)) ++ ⟨#[32]⟩
def drOut (x : BitVec 64) : Nat → ByteArray
  | 0 => drHead
  | k + 1 => drIn x (7 - k) (drOut x k ++ rankDigit (7 - k)) 8 ++ ⟨#[10]⟩
theorem drBit_size (x : BitVec 64) (s : Nat) : (drBit x s).size = 1 := by unfold drBit; split <;> rfl
theorem drIn_size (x : BitVec 64) (r : Nat) (s : ByteArray) (j : Nat) : (drIn x r s j).size = s.size + 2 * j := by
  induction j with
  | zero => rfl
  | succ j ih => simp only [drIn, ByteArray.size_append, ih, drBit_size]; show _ + 1 + 1 = _; omega
theorem rank_size (r : Nat) : (rankDigit r).size = 1 := rfl
theorem drOut_size (x : BitVec 64) (k : Nat) : (drOut x k).size = 18 + 18 * k := by
  induction k with
  | zero => rfl
  | succ k ih => simp only [drOut, ByteArray.size_append, drIn_size, ih, rank_size]; show _ + 1 = _; omega

theorem dr_draw (x : BitVec 64) (w : World) :
    Calls Try.prog 32 #[bbv x] w fun e w' => e = .returned (.string (drOut x 8)) ∧ w = w' := by
  go_enter Try.func32, Try.ntmps32
  go_wp2
  go_loop [3, 4] (fun s r => ∃ k : Nat, k ≤ 8 ∧ s = .string (drOut x k) ∧ r = .int .i64 (7 - (k : Int))) (fun _ r => (intOf r + 1).toNat)
  case atStart => exact ⟨0, by omega, rfl, rfl⟩
  case round =>
    obtain ⟨k, hk, rfl, rfl⟩ := hrel
    by_cases hlt : k < 8
    · have z := drOut_size x k
      have e7 : (7 - (k : Int)).toNat = 7 - k := by omega
      go_wp2_with fail
      refine (sq_rank _ _ (by omega) (by omega)).mono ?_
      rintro e w1 ⟨rfl, rfl⟩
      have z1 : (rankDigit (7 - k)).size = 1 := rfl
      go_wp2_with fail
      go_loop [3, 16] (fun s j => ∃ m : Nat, m ≤ 8 ∧ s = .string (drIn x (7 - k) (drOut x k ++ rankDigit (7 - k)) m) ∧ j = .int .i64 (m : Int)) (fun _ j => (8 - intOf j).toNat)
      case atStart => exact ⟨0, by omega, rfl, rfl⟩
      case round =>
        obtain ⟨m, hm, rfl, rfl⟩ := hrel
        by_cases hlm : m < 8
        · have zi := drIn_size x (7 - k) (drOut x k ++ rankDigit (7 - k)) m
          rw [ByteArray.size_append, z, z1] at zi
          go_wp2_with fail
          refine (sq_new _ _ _ (by omega) (by omega) (by omega) (by omega)).mono ?_
          rintro e w1 ⟨rfl, rfl⟩
          go_wp2_with fail
          refine (sq_occupied x _ _ (by omega) (by omega)).mono ?_
          rintro e w1 ⟨rfl, rfl⟩
          have e8 : ((7 - (k : Int)) * 8 + (m : Int)).toNat = 8 * (7 - k) + m := by omega
          rw [e8]
          by_cases ho : occ x (8 * (7 - k) + m) = true
          · go_wp2
            go_round
            case rel => exact ⟨m + 1, by omega, by simp [drIn, drBit, ho], by go_num⟩
            case measure => simp [intOf]; omega
          · rw [Bool.not_eq_true] at ho
            go_wp2
            go_round
            case rel => exact ⟨m + 1, by omega, by simp [drIn, drBit, ho], by go_num⟩
            case measure => simp [intOf]; omega
        · obtain rfl : m = 8 := by omega
          have zi := drIn_size x (7 - k) (drOut x k ++ rankDigit (7 - k)) 8
          rw [ByteArray.size_append, z, z1] at zi
          go_wp2
          go_round
          case rel => exact ⟨k + 1, by omega, rfl, by go_num⟩
          case measure => simp [intOf]; omega
    · obtain rfl : k = 8 := by omega
      go_wp2
      go_ret
      exact ⟨rfl, rfl⟩
end Go.Proofs.Ytgebocnomapchaa
