/- Eight bytes, the greatest first, read as a number of 64 bits: encoding/binary's Uint64. For every number. -/
import Derived.Test.YtplkcmlpomjojaaGreatDoorBb
namespace Go.Proofs.YtplkcmlpomjojaaGreatDoor
open Go Go.RowKit
set_option maxHeartbeats 2000000
set_option linter.unusedSimpArgs false
set_option linter.unusedVariables false
set_option maxRecDepth 100000

def part8 (x : BitVec 64) (t : Nat) : BitVec 64 := (x >>> (8 * t)) &&& 255#64
theorem bit255 (i : Nat) (hi : i < 64) : (255#64).getLsbD i = decide (i < 8) := by
  rw [BitVec.getLsbD_ofNat, show (255 : Nat) = 2 ^ 8 - 1 from rfl, Nat.testBit_two_pow_sub_one]
  simp [hi]
theorem part8_bit (x : BitVec 64) (t i : Nat) (hi : i < 64) : (part8 x t <<< (8 * t)).getLsbD i = (decide (i / 8 = t) && x.getLsbD i) := by
  unfold part8
  rw [BitVec.getLsbD_shiftLeft, BitVec.getLsbD_and, BitVec.getLsbD_ushiftRight, bit255 _ (by omega)]
  by_cases h : i / 8 = t
  · rw [show 8 * t + (i - 8 * t) = i by omega]
    have h1 : ¬ i < 8 * t := by omega
    have h2 : i - 8 * t < 8 := by omega
    simp [h, h1, h2, hi]
  · by_cases h1 : i < 8 * t
    · simp [h, h1]
    · have h2 : ¬ i - 8 * t < 8 := by omega
      simp [h, h2]
theorem join8 (x : BitVec 64) : part8 x 0 ||| part8 x 1 <<< 8 ||| part8 x 2 <<< 16 ||| part8 x 3 <<< 24 ||| part8 x 4 <<< 32 ||| part8 x 5 <<< 40 ||| part8 x 6 <<< 48 ||| part8 x 7 <<< 56 = x := by
  apply BitVec.eq_of_getLsbD_eq
  intro i hi
  have e0 : (part8 x 0).getLsbD i = (decide (i / 8 = 0) && x.getLsbD i) := by have := part8_bit x 0 i hi; simpa using this
  have e1 := part8_bit x 1 i hi
  have e2 := part8_bit x 2 i hi
  have e3 := part8_bit x 3 i hi
  have e4 := part8_bit x 4 i hi
  have e5 := part8_bit x 5 i hi
  have e6 := part8_bit x 6 i hi
  have e7 := part8_bit x 7 i hi
  simp only [Nat.mul_one, show 8 * 2 = 16 from rfl, show 8 * 3 = 24 from rfl, show 8 * 4 = 32 from rfl, show 8 * 5 = 40 from rfl, show 8 * 6 = 48 from rfl, show 8 * 7 = 56 from rfl] at e1 e2 e3 e4 e5 e6 e7
  simp only [BitVec.getLsbD_or, e0, e1, e2, e3, e4, e5, e6, e7]
  have : i / 8 = 0 ∨ i / 8 = 1 ∨ i / 8 = 2 ∨ i / 8 = 3 ∨ i / 8 = 4 ∨ i / 8 = 5 ∨ i / 8 = 6 ∨ i / 8 = 7 := by omega
  rcases this with h | h | h | h | h | h | h | h <;> simp [h]
theorem byte_part (x : BitVec 64) (t : Nat) (ht : t ≤ 7) : byteOf x (7 - t) = ((part8 x t).toNat : Int) := by
  unfold byteOf part8
  rw [show 7 - (7 - t) = t by omega]
  congr 1
  rw [BitVec.toNat_and, show (255#64).toNat = 2 ^ 8 - 1 from rfl, Nat.and_two_pow_sub_one_eq_mod]
theorem byte_convert {P : Program} {s d : TypeId} (y : BitVec 64) (w : World) (hs : (P.underlying s).isSome = true) (hd : P.underlying d = some (.int .u64)) : (convert s d (.int .u8 (y.toNat : Int))).run P w = .ok (bbv y) w := by
  obtain ⟨k, hk⟩ := Option.isSome_iff_exists.1 hs
  have e2 : Conv.intToInt .u64 (y.toNat : Int) = pure (bbv y) := by
    unfold Conv.intToInt bbv
    rw [wrap_toNat]
  cases k <;> simp [convert, run_underlying hk, run_underlying hd, e2]
theorem bc_uint (x : BitVec 64) (g o cap : Nat) (w : World) (hc : ∀ j, j < 8 → w.cell? ⟨g, o + j, none⟩ = some (.int .u8 (byteOf x j))) :
    Calls Tryz.prog 118 #[.agg #[], .slice (some ⟨g, o, none⟩) 8 cap] w fun e' w' => e' = .returned (bbv x) ∧ Below w.heap.size w w' := by
  have hcv : ∀ (y : BitVec 64) W, (convert 5 122 (.int .u8 (y.toNat : Int))).run Tryz.prog W = .ok (bbv y) W := fun y W => byte_convert y W (by kernel_rfl) (by kernel_rfl)
  have hgl : g < w.heap.size := lt_of_cell (hc 0 (by omega))
  have q0 := hc 0 (by omega)
  have q1 := hc 1 (by omega)
  have q2 := hc 2 (by omega)
  have q3 := hc 3 (by omega)
  have q4 := hc 4 (by omega)
  have q5 := hc 5 (by omega)
  have q6 := hc 6 (by omega)
  have q7 := hc 7 (by omega)
  rw [show byteOf x 0 = _ from byte_part x 7 (by omega)] at q0
  rw [show byteOf x 1 = _ from byte_part x 6 (by omega)] at q1
  rw [show byteOf x 2 = _ from byte_part x 5 (by omega)] at q2
  rw [show byteOf x 3 = _ from byte_part x 4 (by omega)] at q3
  rw [show byteOf x 4 = _ from byte_part x 3 (by omega)] at q4
  rw [show byteOf x 5 = _ from byte_part x 2 (by omega)] at q5
  rw [show byteOf x 6 = _ from byte_part x 1 (by omega)] at q6
  rw [show byteOf x 7 = _ from byte_part x 0 (by omega)] at q7
  have hj := join8 x
  clear hc
  generalize part8 x 0 = y0 at *
  generalize part8 x 1 = y1 at *
  generalize part8 x 2 = y2 at *
  generalize part8 x 3 = y3 at *
  generalize part8 x 4 = y4 at *
  generalize part8 x 5 = y5 at *
  generalize part8 x 6 = y6 at *
  generalize part8 x 7 = y7 at *
  rw [Nat.add_zero] at q0
  have hj' := show Shut _ from hj
  clear hj
  go_enter Tryz.func118, Tryz.ntmps118
  go_wp2_with fail
  go_quiet (fail)
  go_wp2
  go_ret
  refine ⟨?_, ((Below.refl _ _).alloc (Nat.le_refl _) _).trans ((drewN_below _ _).mono (by simp))⟩
  rw [← hj'.out]
  rfl
end Go.Proofs.YtplkcmlpomjojaaGreatDoor
