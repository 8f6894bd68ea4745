/- FnBiLinear: the walk of the law. -/
import Derived.Test.YtgebocnomapchaaDoorLp
namespace Go.Proofs.YtgebocnomapchaaDoor
open Go Go.RowKit
set_option maxHeartbeats 4000000
set_option linter.unusedSimpArgs false
set_option linter.unusedVariables false
set_option maxRecDepth 100000

theorem bl_law (z a : Int) (z0 : 0 ≤ z) (z1 : z ≤ 18446744073709551615) (a0 : 0 ≤ a) (a1 : a ≤ 255) (w : World)
    (gd : IntTab w 5 .u64 (tabZ bbDiagonalsL)) (ga : IntTab w 6 .u64 (tabZ bbAntiDiagonalsL))
    (gf : IntTab w 7 .u64 (tabZ bbFilesL)) (gr : IntTab w 8 .u64 (tabZ bbRanksL)) :
    Calls Tryd.prog 6 #[.int .u64 z, .int .u8 a] w fun e w' => e = .returned (.bool true) ∧ Below w.heap.size w w' := by
  obtain ⟨x, hx⟩ := bbv_of z z0 z1
  rw [hx]
  obtain ⟨s, hs⟩ := Int.eq_ofNat_of_zero_le (show 0 ≤ a % 64 by omega)
  have hs64 : s < 64 := by omega
  have l1 : ∀ m, (linB x (sqBit s) m &&& ~~~m != BitVec.ofInt 64 0) = false := fun m => by rw [linB_line]; rfl
  have l2 : ∀ m, (linB x (sqBit s) m &&& ~~~m != 0#64) = false := fun m => by rw [linB_line]; rfl
  have e1 := bishop_reach x s hs64
  have e2 := rook_reach x s hs64
  go_enter Tryd.func6, Tryd.ntmps6
  go_wp2_with fail
  refine (mkdi_impl s _ (by omega) (by omega) gd).mono ?_
  rintro e w1 ⟨rfl, q1⟩
  go_wp2_with fail
  refine (mkan_impl s _ (by omega) (by omega) (ga.below q1)).mono ?_
  rintro e w2 ⟨rfl, q2⟩
  have r2 := bstep q1 q2 q1.size
  go_wp2_with fail
  refine (po_file s _ (by omega) (by omega)).mono ?_
  rintro e w2' ⟨rfl, rfl⟩
  go_wp2_with fail
  refine (mkfi_impl (s % 8) _ (by omega) (by omega) (gf.below r2)).mono ?_
  rintro e w3 ⟨rfl, q3⟩
  have r3 := bstep r2 q3 r2.size
  go_wp2_with fail
  refine (po_rank s _ (by omega) (by omega)).mono ?_
  rintro e w3' ⟨rfl, rfl⟩
  go_wp2_with fail
  refine (mkra_impl (s / 8) _ (by omega) (by omega) (gr.below r3)).mono ?_
  rintro e w4 ⟨rfl, q4⟩
  have r4 := bstep r3 q4 r3.size
  go_wp2_with fail
  refine (mksq_impl s _ (by omega) (by omega)).mono ?_
  rintro e w5 ⟨rfl, q5⟩
  have r5 := bstep r4 q5 r4.size
  rw [show ((s : Int) % 8).toNat = s % 8 by omega, show ((s : Int) / 8).toNat = s / 8 by omega]
  simp only [Int.toNat_natCast]
  go_wp2_with (first | (go_at_call 23; refine (la_impl _ _ _ _).mono ?_; rintro e w6 ⟨rfl, rfl⟩))
  refine (bi_reach x 4 s _ (by omega) (by omega) (by omega) (by omega)).mono ?_
  rintro e w6 ⟨rfl, q6⟩
  have r6 := bstep r5 q6 r5.size
  have b1 : (linB x (sqBit s) (tabB bbDiagonalsL s) ||| linB x (sqBit s) (tabB bbAntiDiagonalsL s) == biReach x 4 s) = true := by rw [e1]; exact BEq.refl _
  have b2 : (linB x (sqBit s) (tabB bbFilesL (s % 8)) ||| linB x (sqBit s) (tabB bbRanksL (s / 8)) == biReach x 3 s) = true := by rw [e2]; exact BEq.refl _
  go_wp2_with fail
  refine (bi_reach x 3 s _ (by omega) (by omega) (by omega) (by omega)).mono ?_
  rintro e w7 ⟨rfl, q7⟩
  have r7 := bstep r6 q7 r6.size
  go_wp2_with fail
  go_ret
  exact ⟨rfl, r7⟩
end Go.Proofs.YtgebocnomapchaaDoor
