/- The engine's small words: what is seen along slants and lines, the piece of a kind and a colour, the other colour. -/
import Derived.Test.YtplkcmlpomjojaaDoorLc
import Derived.Test.YtplkcmlpomjojaaDoorBo
namespace Go.Proofs.YtplkcmlpomjojaaDoor
open Go Go.RowKit
set_option maxHeartbeats 4000000
set_option linter.unusedSimpArgs false
set_option linter.unusedVariables false
set_option maxRecDepth 100000

/-- The engine's tables. -/
structure Tabs (w : World) : Prop where
  ki : IntTab w 1 .u64 (tabZ bbKingMovesL)
  kn : IntTab w 0 .u64 (tabZ bbKnightMovesL)
  di : IntTab w 2 .u64 (tabZ bbDiagonalsL)
  an : IntTab w 3 .u64 (tabZ bbAntiDiagonalsL)
  fi : IntTab w 5 .u64 (tabZ bbFilesL)
  ra : IntTab w 4 .u64 (tabZ bbRanksL)
theorem Tabs.below {w w' : World} {B : Nat} (h : Tabs w) (hb : Below B w w') (hB : w.heap.size ≤ B) : Tabs w' :=
  have hb' := hb.mono hB
  ⟨h.ki.below hb', h.kn.below hb', h.di.below hb', h.an.below hb', h.fi.below hb', h.ra.below hb'⟩
theorem da_file (s : Int) (w : World) (h0 : 0 ≤ s) (h1 : s ≤ 63) :
    Calls Tryd.prog 64 #[.int .i8 s] w fun e w' => e = .returned (.int .i8 (s % 8)) ∧ w = w' := by
  go_enter Tryd.func64, Tryd.ntmps64
  go_wp2
  go_ret
  exact ⟨rfl, rfl⟩
theorem da_rank (s : Int) (w : World) (h0 : 0 ≤ s) (h1 : s ≤ 63) :
    Calls Tryd.prog 63 #[.int .i8 s] w fun e w' => e = .returned (.int .i8 (s / 8)) ∧ w = w' := by
  have ht : s.tdiv 8 = s / 8 := Int.tdiv_eq_ediv_of_nonneg h0
  have hd0 : 0 ≤ s / 8 := by omega
  have hd1 : s / 8 ≤ 7 := by omega
  go_enter Tryd.func63, Tryd.ntmps63
  go_wp2
  go_ret
  exact ⟨rfl, rfl⟩
/-- What a bishop, a rook sees of the taken squares t. -/
def diaB (t : BitVec 64) (s : Nat) : BitVec 64 := linB t (sqBit s) (tabB bbDiagonalsL s) ||| linB t (sqBit s) (tabB bbAntiDiagonalsL s)
def hvB (t : BitVec 64) (s : Nat) : BitVec 64 := linB t (sqBit s) (tabB bbRanksL (s / 8)) ||| linB t (sqBit s) (tabB bbFilesL (s % 8))
theorem da_dia (t : BitVec 64) (s : Nat) (w : World) (h : s < 64) (hT : Tabs w) :
    Calls Tryd.prog 50 #[bbv t, .int .i8 (s : Int)] w fun e w' => e = .returned (bbv (diaB t s)) ∧ w = w' := by
  have c1 := hT.di.cell s h
  have c2 := hT.an.cell s h
  rw [tab_get _ bbDiagonals_lt s h] at c1
  rw [tab_get _ bbAntiDiagonals_lt s h] at c2
  clear hT
  go_enter Tryd.func50, Tryd.ntmps50
  go_wp2_with (first
    | (go_at_call 54; refine (sq_bit _ _ (by omega) (by omega)).mono ?_; rintro e1 w1 ⟨rfl, rfl⟩)
    | (go_at_call 62; refine (la_linear _ _ _ _).mono ?_; rintro e1 w1 ⟨rfl, rfl⟩))
  go_ret
  exact ⟨rfl, rfl⟩
theorem da_hv (t : BitVec 64) (s : Nat) (w : World) (h : s < 64) (hT : Tabs w) :
    Calls Tryd.prog 51 #[bbv t, .int .i8 (s : Int)] w fun e w' => e = .returned (bbv (hvB t s)) ∧ w = w' := by
  have c1 := hT.fi.cell (s % 8) (show s % 8 < 8 by omega)
  have c2 := hT.ra.cell (s / 8) (show s / 8 < 8 by omega)
  rw [tab_get _ bbFiles_lt _ (show s % 8 < 8 by omega)] at c1
  rw [tab_get _ bbRanks_lt _ (show s / 8 < 8 by omega)] at c2
  clear hT
  have e1 : ((s : Int) % 8).toNat = s % 8 := by omega
  have e2 : ((s : Int) / 8).toNat = s / 8 := by omega
  have q1 : 0 ≤ (s : Int) % 8 := by omega
  have q2 : (s : Int) % 8 < 8 := by omega
  have q3 : 0 ≤ (s : Int) / 8 := by omega
  have q4 : (s : Int) / 8 < 8 := by omega
  go_enter Tryd.func51, Tryd.ntmps51
  go_wp2_with (first
    | (go_at_call 54; refine (sq_bit _ _ (by omega) (by omega)).mono ?_; rintro e1 w1 ⟨rfl, rfl⟩)
    | (go_at_call 64; refine (da_file _ _ (by omega) (by omega)).mono ?_; rintro e1 w1 ⟨rfl, rfl⟩)
    | (go_at_call 63; refine (da_rank _ _ (by omega) (by omega)).mono ?_; rintro e1 w1 ⟨rfl, rfl⟩)
    | (go_at_call 62; refine (la_linear _ _ _ _).mono ?_; rintro e1 w1 ⟨rfl, rfl⟩))
  go_ret
  exact ⟨rfl, rfl⟩
theorem da_color (k : Nat) (h : k < 12) (w : World) :
    Calls Tryd.prog 65 #[.int .i8 ((k : Int) + 1)] w fun e w' => e = .returned (.int .i8 ((k : Int) / 6 + 1)) ∧ w = w' := by
  go_enter Tryd.func65, Tryd.ntmps65
  rcases twelve h with rfl | rfl | rfl | rfl | rfl | rfl | rfl | rfl | rfl | rfl | rfl | rfl
  all_goals (
    go_wp2
    go_ret
    exact ⟨rfl, rfl⟩)
theorem da_type (k : Nat) (h : k < 12) (w : World) :
    Calls Tryd.prog 66 #[.int .i8 ((k : Int) + 1)] w fun e w' => e = .returned (.int .i8 ((k : Int) % 6 + 1)) ∧ w = w' := by
  go_enter Tryd.func66, Tryd.ntmps66
  rcases twelve h with rfl | rfl | rfl | rfl | rfl | rfl | rfl | rfl | rfl | rfl | rfl | rfl
  all_goals (
    go_wp2
    go_ret
    exact ⟨rfl, rfl⟩)
theorem da_other (c : Int) (w : World) (h0 : 0 ≤ c) (h1 : c ≤ 1) :
    Calls Tryd.prog 49 #[.int .i8 (c + 1)] w fun e w' => e = .returned (.int .i8 (2 - c)) ∧ w = w' := by
  obtain rfl | rfl : c = 0 ∨ c = 1 := by omega
  all_goals (
    go_enter Tryd.func49, Tryd.ntmps49
    go_wp2
    go_ret
    exact ⟨rfl, rfl⟩)
theorem da_turn (g : Nat) (v : Value) (w : World) (hc : w.cell? ⟨g, 5, none⟩ = some v) :
    Calls Tryd.prog 48 #[.pointer (some ⟨g, 0, none⟩)] w fun e w' => e = .returned v ∧ w = w' := by
  go_enter Tryd.func48, Tryd.ntmps48
  go_wp2
  go_ret
  exact ⟨rfl, rfl⟩
/-- The piece of a kind and a colour. -/
theorem da_piece (t c : Nat) (ht : t < 6) (hc : c < 2) (w : World) (hA : IntSl w 6 .i8 allL) :
    Calls Tryd.prog 53 #[.int .i8 ((t : Int) + 1), .int .i8 ((c : Int) + 1)] w fun e w' => e = .returned (.int .i8 ((t : Int) + 6 * c + 1)) ∧ w = w' := by
  obtain ⟨⟨q, hq, hqb, hc0, hci⟩, _⟩ := hA
  simp only [show allL.length = 12 from rfl] at hc0 hci
  go_enter Tryd.func53, Tryd.ntmps53
  go_wp2_with fail
  go_loopw [9] (fun i wr => ∃ k : Nat, k ≤ t + 6 * c ∧ i = .int .i64 (k : Int) ∧ wr = w) (fun i _ => (12 - intOf i).toNat)
  case atStart => exact ⟨0, by omega, rfl, rfl⟩
  case round =>
    obtain ⟨k, hk, rfl, rfl⟩ := hrel
    have hlt : k < 12 := by omega
    have hck := hci k hlt
    rw [allL_get k hlt, ← add_at hq] at hck
    clear hci
    by_cases hcol : k / 6 = c
    · have hcb : ((k : Int) / 6 + 1 == (c : Int) + 1) = true := by simp; omega
      by_cases htyp : k % 6 = t
      · have htb : ((k : Int) % 6 + 1 == (t : Int) + 1) = true := by simp; omega
        go_wp2_with (first
          | (go_at_call 65; refine (da_color k hlt _).mono ?_; rintro e1 w1 ⟨rfl, rfl⟩)
          | (go_at_call 66; refine (da_type k hlt _).mono ?_; rintro e1 w1 ⟨rfl, rfl⟩))
        go_ret
        refine ⟨?_, rfl⟩
        have e : (k : Int) = t + 6 * c := by omega
        rw [e]
        rfl
      · have htb : ((k : Int) % 6 + 1 == (t : Int) + 1) = false := by simp; omega
        go_wp2_with (first
          | (go_at_call 65; refine (da_color k hlt _).mono ?_; rintro e1 w1 ⟨rfl, rfl⟩)
          | (go_at_call 66; refine (da_type k hlt _).mono ?_; rintro e1 w1 ⟨rfl, rfl⟩))
        go_roundw
        case rel => exact ⟨k + 1, by omega, by go_num, trivial⟩
        case measure => simp [intOf]; omega
    · have hcb : ((k : Int) / 6 + 1 == (c : Int) + 1) = false := by simp; omega
      go_wp2_with (first
        | (go_at_call 65; refine (da_color k hlt _).mono ?_; rintro e1 w1 ⟨rfl, rfl⟩)
        | (go_at_call 66; refine (da_type k hlt _).mono ?_; rintro e1 w1 ⟨rfl, rfl⟩))
      go_roundw
      case rel => exact ⟨k + 1, by omega, by go_num, trivial⟩
      case measure => simp [intOf]; omega
end Go.Proofs.YtplkcmlpomjojaaDoor
