/- spec.hits, spec.steps: where a pawn hits, and where it goes. For every position of pieces from 0 to 12. -/
import Derived.Test.YtplkcmlpomjojaaDoorAt
import Derived.Test.YtplkcmlpomjojaaDoorRe
namespace Go.Proofs.YtplkcmlpomjojaaDoor
open Go Go.RowKit
set_option maxHeartbeats 4000000
set_option linter.unusedSimpArgs false
set_option linter.unusedVariables false
set_option maxRecDepth 100000

def oneSq (t : Int) : List Int := if 0 ≤ t then [t] else []
/-- The squares that a pawn attacks: those of d, d + 2 .. up to 1. -/
def hitTo (s c : Int) : Nat → List Int
  | 0 => []
  | n + 1 => hitTo s c n ++ oneSq (atSq (s % 8 + (2 * (n : Int) - 1)) (s / 8 + upOf c))
def hitL (s c : Int) : List Int := hitTo s c 2
theorem oneSq_le (t : Int) : (oneSq t).length ≤ 1 := by unfold oneSq; split <;> simp
theorem hitTo_le (s c : Int) : ∀ n, (hitTo s c n).length ≤ n
  | 0 => by simp [hitTo]
  | n + 1 => by
    have h1 := hitTo_le s c n
    have h2 := oneSq_le (atSq (s % 8 + (2 * (n : Int) - 1)) (s / 8 + upOf c))
    rw [hitTo, List.length_append]
    omega
theorem ht_hits (s c : Int) (s0 : 0 ≤ s) (s1 : s ≤ 63) (c0 : 0 ≤ c) (c1 : c ≤ 1) (w : World) :
    Calls Tryd.prog 59 #[.int .i64 s, .int .i64 c] w fun e w' => ∃ v, e = .returned v ∧ ownInts w' w.heap.size v (hitL s c) ∧ Below w.heap.size w w' := by
  obtain ⟨i0, hi, hz0, hz1, hz2⟩ := info_parts po_info1
  go_enter Tryd.func59, Tryd.ntmps59
  go_wp2_with fail
  go_loopw [5, 6] (fun l d wr => ∃ n : Nat, n ≤ 2 ∧ d = .int .i64 (2 * (n : Int) - 1) ∧ ownInts wr w.heap.size l (hitTo s c n) ∧ Below w.heap.size w wr) (fun _ d _ => (3 - intOf d).toNat)
  case atStart => exact ⟨0, by omega, rfl, World.ownsRow_nil _ _ _ _, Below.refl _ _⟩
  case round =>
    obtain ⟨n, hn, rfl, hown, hB⟩ := hrel
    by_cases hlt : n < 2
    · have hu : -1 ≤ upOf c ∧ upOf c ≤ 1 := by unfold upOf; omega
      have hsz := hB.size
      have hle := hitTo_le s c n
      have hrg := atSq_range (s % 8 + (2 * (n : Int) - 1)) (s / 8 + upOf c)
      have hst : hitTo s c (n + 1) = hitTo s c n ++ oneSq (atSq (s % 8 + (2 * (n : Int) - 1)) (s / 8 + upOf c)) := rfl
      have hstS := show Shut _ from hst
      clear hst
      go_wp2_with (first
        | (go_at_call 32; refine (po_file _ _ (by omega) (by omega)).mono ?_; rintro e1 w1 ⟨rfl, rfl⟩)
        | (go_at_call 25; refine (po_rank _ _ (by omega) (by omega)).mono ?_; rintro e1 w1 ⟨rfl, rfl⟩)
        | (go_at_call 33; refine (hi_up _ _ (by omega) (by omega)).mono ?_; rintro e1 w1 ⟨rfl, rfl⟩))
      refine (po_at _ _ _ (by omega) (by omega) (by omega) (by omega)).mono ?_
      rintro e1 w1 ⟨rfl, rfl⟩
      generalize atSq (s % 8 + (2 * (n : Int) - 1)) (s / 8 + upOf c) = t at *
      by_cases ht : 0 ≤ t
      · go_wp2_with (with_reducible refine at_append1 Tryd.underlying27 hi hz0 hz1 hz2 rfl (by decide) rfl w.heap.size _ _ _ hown ?_ hsz ?_ ?_ ?_)
        · omega
        · rfl
        · rfl
        intro v' w' hown' hbel'
        go_wp2_with fail
        go_roundw
        case rel => exact ⟨n + 1, by omega, by go_num, by rw [hstS.out, show oneSq t = [t] from if_pos ht]; unfold ownInts; rw [List.length_append, List.map_append]; exact hown', hB.trans hbel'⟩
        case measure => simp [intOf]; omega
      · go_wp2_with fail
        go_roundw
        case rel => exact ⟨n + 1, by omega, by go_num, by rw [hstS.out, show oneSq t = [] from if_neg (by omega), List.append_nil]; exact hown, hB⟩
        case measure => simp [intOf]; omega
    · obtain rfl : n = 2 := by omega
      go_wp2_with fail
      go_ret
      exact ⟨_, rfl, hown, hB⟩
end Go.Proofs.YtplkcmlpomjojaaDoor
