/- A square's bit, and whether a square is in a number. Squares are from 0 to 63. -/
import Derived.Test.YtplkcmlpomjojaaDoorOc
namespace Go.Proofs.YtplkcmlpomjojaaDoor
open Go Go.RowKit
set_option maxHeartbeats 400000
set_option linter.unusedSimpArgs false
set_option linter.unusedVariables false

theorem sq_bit (s : Int) (w : World) (h0 : 0 ≤ s) (h1 : s ≤ 63) :
    Calls Tryd.prog 54 #[.int .i8 s] w fun e w' => e = .returned (bbv (sqBit s.toNat)) ∧ w = w' := by
  go_enter Tryd.func54, Tryd.ntmps54
  go_wp2
  go_ret
  refine ⟨?_, rfl⟩
  show Ending.returned (.int .u64 (IntKind.u64.wrap (2 ^ (63 - s).toNat))) = _
  obtain ⟨n, rfl⟩ := Int.eq_ofNat_of_zero_le h0
  have e : (63 - (n : Int)).toNat = 63 - n := by omega
  have hn : n = 0 ∨ 0 < n := by omega
  rw [e, wrap_ofInt]
  unfold bbv sqBit
  congr 4
  have hp : ((2 : Int) ^ (63 - n)) = ((2 ^ (63 - n) : Nat) : Int) := by rw [Int.natCast_pow]; rfl
  rw [hp, BitVec.ofInt_natCast]
  apply BitVec.eq_of_toNat_eq
  simp [Nat.shiftLeft_eq]

end Go.Proofs.YtplkcmlpomjojaaDoor
