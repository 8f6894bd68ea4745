/- The functions on squares and bits: rotation, a square's bit, whether a square is in a number, a rank's digit. Squares are from 0 to 63. -/
import Derived.Test.YtgebocnomapchaaBv
namespace Go.Proofs.Ytgebocnomapchaa
open Go Go.RowKit
set_option maxHeartbeats 400000
set_option linter.unusedSimpArgs false
set_option linter.unusedVariables false

/-- The bit of a square: a1 the greatest. -/
def sqBit (s : Nat) : BitVec 64 := 1#64 <<< (63 - s)
/-- Whether a square is in a number. -/
def occ (x : BitVec 64) (s : Nat) : Bool := x.getLsbD (63 - s)

theorem rot_bit (x : BitVec 64) (s : Nat) (h : s < 64) : ((x <<< ((s + 1) % 64) ||| x >>> (64 - (s + 1) % 64)) &&& 1#64 == 1#64) = occ x s := by
  have e : ∀ y : BitVec 64, (y &&& 1#64 == 1#64) = y.getLsbD 0 := by
    intro y
    rw [Bool.eq_iff_iff]
    constructor
    · intro h
      have h := eq_of_beq h
      have := congrArg (fun z : BitVec 64 => z.getLsbD 0) h
      simpa using this
    · intro h
      apply beq_iff_eq.mpr
      apply BitVec.eq_of_getLsbD_eq
      intro i hi
      by_cases h0 : i = 0
      · subst h0; simpa using h
      · have : (1#64).getLsbD i = false := by
          simp [BitVec.getLsbD_one]; omega
        simp [this]
  rw [e]
  unfold occ
  by_cases h1 : s = 63
  · subst h1
    simp
  · have hm : (s + 1) % 64 = s + 1 := Nat.mod_eq_of_lt (by omega)
    rw [hm]
    simp
theorem sq_rotate (x : BitVec 64) (k : Int) (w : World) (h0 : 0 ≤ k) (h1 : k ≤ 64) :
    Calls Try.prog 42 #[bbv x, .int .i64 k] w fun e w' => e = .returned (bbv (x <<< (k % 64).toNat ||| x >>> (64 - k % 64).toNat)) ∧ w = w' := by
  have hk : bits .and .u64 k 63 = k % 64 := bits_mask .u64 64 (by decide) wraps_u64 6 (by decide) k h0 (by omega)
  have g0 : 0 ≤ k % 64 := by omega
  have g1 : k % 64 < 64 := by omega
  have g2 : k % 64 ≤ 64 := by omega
  go_enter Try.func42, Try.ntmps42
  go_wp2
  go_ret
  exact ⟨rfl, rfl⟩

theorem sq_occupied (x : BitVec 64) (s : Int) (w : World) (h0 : 0 ≤ s) (h1 : s ≤ 63) :
    Calls Try.prog 39 #[bbv x, .int .i8 s] w fun e w' => e = .returned (.bool (occ x s.toNat)) ∧ w = w' := by
  go_enter Try.func39, Try.ntmps39
  go_wp2_with (go_at_call 42; refine (sq_rotate x (s + 1) _ (by omega) (by omega)).mono ?_; rintro e w' ⟨rfl, rfl⟩)
  go_ret
  refine ⟨?_, rfl⟩
  obtain ⟨n, rfl⟩ := Int.eq_ofNat_of_zero_le h0
  have e : (((n : Int) + 1) % 64).toNat = (n + 1) % 64 := by omega
  have e2 : (64 - ((n : Int) + 1) % 64).toNat = 64 - (n + 1) % 64 := by omega
  rw [← rot_bit x _ (by omega)]
  simp only [Int.toNat_natCast, e, e2]
  rfl

theorem sq_new (f r : Int) (w : World) (f0 : 0 ≤ f) (f1 : f ≤ 7) (r0 : 0 ≤ r) (r1 : r ≤ 7) :
    Calls Try.prog 37 #[.int .i8 f, .int .i8 r] w fun e w' => e = .returned (.int .i8 (r * 8 + f)) ∧ w = w' := by
  go_enter Try.func37, Try.ntmps37
  go_wp2
  go_ret
  exact ⟨rfl, rfl⟩

/-- A rank's digit. -/
def rankDigit (r : Nat) : ByteArray := ⟨#[(49 + r).toUInt8]⟩
theorem sq_rank (r : Int) (w : World) (h0 : 0 ≤ r) (h : r ≤ 7) :
    Calls Try.prog 38 #[.int .i8 r] w fun e w' => e = .returned (.string (rankDigit r.toNat)) ∧ w = w' := by
  obtain ⟨r, rfl⟩ := Int.eq_ofNat_of_zero_le h0
  go_enter Try.func38, Try.ntmps38
  go_wp2
  go_ret
  have hr : r = 0 ∨ r = 1 ∨ r = 2 ∨ r = 3 ∨ r = 4 ∨ r = 5 ∨ r = 6 ∨ r = 7 := by omega
  exact ⟨by rcases hr with rfl | rfl | rfl | rfl | rfl | rfl | rfl | rfl <;> kernel_rfl, rfl⟩

theorem sq_bit (s : Int) (w : World) (h0 : 0 ≤ s) (h1 : s ≤ 63) :
    Calls Try.prog 40 #[.int .i8 s] w fun e w' => e = .returned (bbv (sqBit s.toNat)) ∧ w = w' := by
  go_enter Try.func40, Try.ntmps40
  go_wp2
  go_ret
  refine ⟨?_, rfl⟩
  show Ending.returned (.int .u64 (IntKind.u64.wrap (2 ^ (63 - s).toNat))) = _
  obtain ⟨n, rfl⟩ := Int.eq_ofNat_of_zero_le h0
  have e : (63 - (n : Int)).toNat = 63 - n := by omega
  have hn : n = 0 ∨ 0 < n := by omega
  rw [e, wrap_ofInt]
  unfold bbv sqBit
  congr 4
  have hp : ((2 : Int) ^ (63 - n)) = ((2 ^ (63 - n) : Nat) : Int) := by rw [Int.natCast_pow]; rfl
  rw [hp, BitVec.ofInt_natCast]
  apply BitVec.eq_of_toNat_eq
  simp [Nat.shiftLeft_eq]

end Go.Proofs.Ytgebocnomapchaa
