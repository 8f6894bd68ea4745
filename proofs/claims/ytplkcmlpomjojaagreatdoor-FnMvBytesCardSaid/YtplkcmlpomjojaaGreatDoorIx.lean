/- zzIndex and zzContains at a text of one byte. For every text of at most 1000 bytes. -/
import Derived.Test.YtplkcmlpomjojaaGreatDoorTx
namespace Go.Proofs.YtplkcmlpomjojaaGreatDoor
open Go Go.RowKit
set_option maxHeartbeats 4000000
set_option linter.unusedSimpArgs false
set_option linter.unusedVariables false
set_option maxRecDepth 100000

/-- The place of a byte, -1 without one. -/
def idxB : List UInt8 → UInt8 → Int
  | [], _ => -1
  | x :: l, c => if x = c then 0 else if idxB l c < 0 then -1 else idxB l c + 1
theorem idxB_range : ∀ (l : List UInt8) (c : UInt8), -1 ≤ idxB l c ∧ idxB l c < l.length
  | [], c => by simp [idxB]
  | x :: l, c => by
    have := idxB_range l c
    rw [idxB]
    simp only [List.length_cons]
    split
    · omega
    · split <;> omega
/-- From the place k on. -/
def idxFrom (z : Int) (k : Nat) : Int := if z < 0 then -1 else z + k
theorem ix_index (l : List UInt8) (c : UInt8) (w : World) (hl : l.length ≤ 1000) :
    Calls Tryz.prog 145 #[.string (bs l), .string (bs [c])] w fun e w' => e = .returned (.int .i64 (idxB l c)) ∧ w = w' := by
  have hsz := bs_size l
  have hs1 : (bs [c]).size = 1 := rfl
  go_enter Tryz.func145, Tryz.ntmps145
  go_wp2_with fail
  go_loop [5] (fun i => ∃ k : Nat, k ≤ l.length ∧ i = .int .i64 (k : Int) ∧ idxB l c = idxFrom (idxB (l.drop k) c) k) (fun i => (l.length - (intOf i).toNat))
  case atStart => exact ⟨0, by omega, rfl, by have := (idxB_range l c).1; rw [List.drop_zero, idxFrom]; split <;> omega⟩
  case round =>
    obtain ⟨k, hk, rfl, ht⟩ := hrel
    by_cases hk' : k < l.length
    · have hex : (bs l).extract k (k + 1) = bs [l.getD k 0] := by
        rw [bs_extract, List.take_add_one, List.drop_append_of_le_length (by simp; omega)]
        simp [hk']
      have hdr : l.drop k = l.getD k 0 :: l.drop (k + 1) := by rw [List.drop_eq_getElem_cons hk']; simp [hk']
      rw [hdr] at ht
      generalize l.getD k 0 = x at *
      have hts := show Shut _ from ht
      clear ht hdr
      by_cases hc : x = c
      · subst hc
        have hR : Shut (idxB l x = (k : Int)) := by
          show _ = _
          rw [hts.out, idxB, if_pos rfl, idxFrom, if_neg (by omega)]; omega
        go_wp2_with fail
        go_ret
        exact ⟨by rw [hR.out]; rfl, rfl⟩
      · have hcf : ((bs [x]).toList == (bs [c]).toList) = false := by
          rw [bs_list, bs_list]
          simp [hc]
        have hR : Shut (idxB l c = idxFrom (idxB (l.drop (k + 1)) c) (k + 1)) := by
          show _ = _
          rw [hts.out, idxB, if_neg hc]
          unfold idxFrom
          by_cases h : idxB (l.drop (k + 1)) c < 0
          · rw [if_pos h, if_pos (by omega), if_pos h]
          · rw [if_neg h, if_neg (by omega), if_neg h]
            omega
        go_wp2_with fail
        go_round
        case rel => exact ⟨k + 1, by omega, by go_num, hR.out⟩
        case measure => simp [intOf]; omega
    · obtain rfl : k = l.length := by omega
      have hR : Shut (idxB l c = -1) := by
        show _ = _
        rw [ht, List.drop_length, idxB, idxFrom, if_pos (by omega)]
      clear ht
      go_wp2_with fail
      go_ret
      exact ⟨by rw [hR.out]; rfl, rfl⟩
theorem ix_contains (l : List UInt8) (c : UInt8) (w : World) (hl : l.length ≤ 1000) :
    Calls Tryz.prog 115 #[.string (bs l), .string (bs [c])] w fun e w' => e = .returned (.bool (decide (0 ≤ idxB l c))) ∧ w = w' := by
  go_enter Tryz.func115, Tryz.ntmps115
  go_wp2_with (go_at_call 145; refine (ix_index l c _ hl).mono ?_; rintro e1 w1 ⟨rfl, rfl⟩)
  go_ret
  exact ⟨rfl, rfl⟩
end Go.Proofs.YtplkcmlpomjojaaGreatDoor
