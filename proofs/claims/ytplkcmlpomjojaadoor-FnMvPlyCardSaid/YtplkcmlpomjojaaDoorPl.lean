/- The engine's Ply. -/
import Derived.Test.YtplkcmlpomjojaaDoorDp
namespace Go.Proofs.YtplkcmlpomjojaaDoor
open Go Go.RowKit
set_option maxHeartbeats 8000000
set_option linter.unusedSimpArgs false
set_option linter.unusedVariables false
set_option maxRecDepth 100000

theorem pl_ply (pg : Nat) (tn : Nat) (htn : tn ≤ 1) (full : Int) (h0 : 1 ≤ full) (h1 : full ≤ 1000000) (w : World) (c4 : w.cell? ⟨pg, 4, none⟩ = some (.int .i64 full)) (c5 : w.cell? ⟨pg, 5, none⟩ = some (.int .i8 ((tn : Int) + 1))) :
    Calls Tryd.prog 21 #[.pointer (some ⟨pg, 0, none⟩)] w fun e w' => e = .returned (.int .i64 (2 * full - 1 + tn)) ∧ w = w' := by
  have hz : (full == 0) = false := by simp; omega
  obtain rfl | rfl : tn = 0 ∨ tn = 1 := by omega
  · go_enter Tryd.func21, Tryd.ntmps21
    go_wp2
    go_ret
    refine ⟨?_, rfl⟩
    have e : 2 * full - 1 + ((0 : Nat) : Int) = (full - 1) * 2 + 1 := by omega
    rw [e]; rfl
  · go_enter Tryd.func21, Tryd.ntmps21
    go_wp2
    go_ret
    refine ⟨?_, rfl⟩
    have e : 2 * full - 1 + ((1 : Nat) : Int) = full * 2 := by omega
    rw [e]; rfl
end Go.Proofs.YtplkcmlpomjojaaDoor
