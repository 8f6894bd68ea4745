/- The functions on squares and bits: rotation, a square's bit, whether a square is in a number, a rank's digit. Squares are from 0 to 63. -/
import Derived.Test.YtnpklkenjaambaaDoorOc
namespace Go.Proofs.YtnpklkenjaambaaDoor
open Go Go.RowKit
set_option maxHeartbeats 400000
set_option linter.unusedSimpArgs false
set_option linter.unusedVariables false

theorem rot_bit (x : BitVec 64) (s : Nat) (h : s < 64) : ((x <<< ((s + 1) % 64) ||| x >>> (64 - (s + 1) % 64)) &&& 1#64 == 1#64) = occ x s := by
  have e : ∀ y : BitVec 64, (y &&& 1#64 == 1#64) = y.getLsbD 0 := by
    intro y
    rw [Bool.eq_iff_iff]
    constructor
    · intro h
      have h := eq_of_beq h
      have := congrArg (fun z : BitVec 64 => z.getLsbD 0) h
      simpa using this
    · intro h
      apply beq_iff_eq.mpr
      apply BitVec.eq_of_getLsbD_eq
      intro i hi
      by_cases h0 : i = 0
      · subst h0; simpa using h
      · have : (1#64).getLsbD i = false := by
          simp [BitVec.getLsbD_one]; omega
        simp [this]
  rw [e]
  unfold occ
  by_cases h1 : s = 63
  · subst h1
    simp
  · have hm : (s + 1) % 64 = s + 1 := Nat.mod_eq_of_lt (by omega)
    rw [hm]
    simp
theorem sq_rotate (x : BitVec 64) (k : Int) (w : World) (h0 : 0 ≤ k) (h1 : k ≤ 64) :
    Calls Tryd.prog 68 #[bbv x, .int .i64 k] w fun e w' => e = .returned (bbv (x <<< (k % 64).toNat ||| x >>> (64 - k % 64).toNat)) ∧ w = w' := by
  have hk : bits .and .u64 k 63 = k % 64 := bits_mask .u64 64 (by decide) wraps_u64 6 (by decide) k h0 (by omega)
  have g0 : 0 ≤ k % 64 := by omega
  have g1 : k % 64 < 64 := by omega
  have g2 : k % 64 ≤ 64 := by omega
  go_enter Tryd.func68, Tryd.ntmps68
  go_wp2
  go_ret
  exact ⟨rfl, rfl⟩

theorem sq_occupied (x : BitVec 64) (s : Int) (w : World) (h0 : 0 ≤ s) (h1 : s ≤ 63) :
    Calls Tryd.prog 58 #[bbv x, .int .i8 s] w fun e w' => e = .returned (.bool (occ x s.toNat)) ∧ w = w' := by
  go_enter Tryd.func58, Tryd.ntmps58
  go_wp2_with (go_at_call 68; refine (sq_rotate x (s + 1) _ (by omega) (by omega)).mono ?_; rintro e w' ⟨rfl, rfl⟩)
  go_ret
  refine ⟨?_, rfl⟩
  obtain ⟨n, rfl⟩ := Int.eq_ofNat_of_zero_le h0
  have e : (((n : Int) + 1) % 64).toNat = (n + 1) % 64 := by omega
  have e2 : (64 - ((n : Int) + 1) % 64).toNat = 64 - (n + 1) % 64 := by omega
  rw [← rot_bit x _ (by omega)]
  simp only [Int.toNat_natCast, e, e2]
  rfl

theorem sq_new (f r : Int) (w : World) (f0 : 0 ≤ f) (f1 : f ≤ 7) (r0 : 0 ≤ r) (r1 : r ≤ 7) :
    Calls Tryd.prog 52 #[.int .i8 f, .int .i8 r] w fun e w' => e = .returned (.int .i8 (r * 8 + f)) ∧ w = w' := by
  go_enter Tryd.func52, Tryd.ntmps52
  go_wp2
  go_ret
  exact ⟨rfl, rfl⟩

end Go.Proofs.YtnpklkenjaambaaDoor
