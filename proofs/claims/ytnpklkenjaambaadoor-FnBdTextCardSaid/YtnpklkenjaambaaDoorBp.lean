/- The thin package's boards: 64 integers to a board of the package and back. For every board of pieces from 0 to 12. -/
import Derived.Test.YtnpklkenjaambaaDoorBn
import Derived.Test.YtnpklkenjaambaaDoorAp
import Derived.Test.YtnpklkenjaambaaDoorEq
namespace Go.Proofs.YtnpklkenjaambaaDoor
open Go Go.RowKit
set_option maxHeartbeats 2000000
set_option linter.unusedSimpArgs false
set_option linter.unusedVariables false
set_option maxRecDepth 100000

/-- A board of pieces. -/
structure Brd (p : List Int) : Prop where
  len : p.length = 64
  lo : ∀ s : Nat, 0 ≤ p.getD s 0
  hi : ∀ s : Nat, p.getD s 0 ≤ 12
/-- The squares below k with pieces, as a map. -/
def mapOf (p : List Int) (k : Nat) : Int → Option Value := fun j => if 0 ≤ j ∧ j < k ∧ 0 < p.getD j.toNat 0 then some (.int .i8 (p.getD j.toNat 0)) else none
theorem mapOf_says (p : List Int) (h : Brd p) : Says (mapOf p 64) p := fun j hj => by
  unfold mapOf
  simp only [Int.toNat_natCast]
  by_cases h0 : 0 < p.getD j 0
  · right; rw [if_pos ⟨by omega, by omega, h0⟩]
  · left; rw [if_neg (by omega)]; have := h.lo j; exact ⟨rfl, by omega⟩
theorem mapOf_none (p : List Int) (k : Nat) : mapOf p k k = none := by unfold mapOf; rw [if_neg (by omega)]
theorem mapOf_yes (p : List Int) (k : Nat) (h : 0 < p.getD k 0) : mput (mapOf p k) k (.int .i8 (p.getD k 0)) = mapOf p (k + 1) := by
  funext j
  unfold mput mapOf
  by_cases e : j = k
  · subst e; rw [if_pos rfl, if_pos ⟨by omega, by omega, by simpa using h⟩, Int.toNat_natCast]
  · rw [if_neg e]
    by_cases c : 0 ≤ j ∧ j < k ∧ 0 < p.getD j.toNat 0
    · rw [if_pos c, if_pos ⟨c.1, by omega, c.2.2⟩]
    · rw [if_neg c, if_neg (fun h => c ⟨h.1, by omega, h.2.2⟩)]
theorem mapOf_no (p : List Int) (k : Nat) (h : ¬ 0 < p.getD k 0) : mapOf p k = mapOf p (k + 1) := by
  funext j
  unfold mapOf
  by_cases e : j = k
  · subst e; simp only [Int.toNat_natCast]; rw [if_neg (by omega), if_neg (by omega)]
  · by_cases c : 0 ≤ j ∧ j < k ∧ 0 < p.getD j.toNat 0
    · rw [if_pos c, if_pos ⟨c.1, by omega, c.2.2⟩]
    · rw [if_neg c, if_neg (fun h => c ⟨h.1, by omega, h.2.2⟩)]
theorem mapOf_zero (p : List Int) : mapOf p 0 = fun _ => none := by funext j; unfold mapOf; rw [if_neg (by omega)]

theorem index_ints {P : Program} {t e : TypeId} {n : Nat} {i : TypeInfo} (hu : P.underlying t = some (.array n e)) (hi : P.info? e = some i) (hs : i.size = 1) (he : P.underlying e = some (.int .i64)) (p : List Int) (hp : p.length = n) (k : Nat) (hk : k < n) (w : World) :
    (Instr.index t (.agg (ints p)) (.int .i64 (k : Int))).run P w = .ok (.int .i64 (p.getD k 0)) w := by
  have h := part_int he p k (by omega) w
  simp [Instr.index, asIntOf, run_underlying hu, hk, run_sizeOf w hi, Program.cellsOf, hi, hs, h]
theorem bp_board (p : List Int) (hp : Brd p) (w : World) (hA : IntSl w 1 .i8 allL) :
    Calls Tryd.prog 23 #[.agg (ints p)] w fun e' w' => ∃ g, e' = .returned (.pointer (some ⟨g, 0, none⟩)) ∧ w.heap.size ≤ g ∧ w'.heap[g]? = some (.cells (brd p) 59 (0, 0)) ∧ Below w.heap.size w w' := by
  have hmm := run_makeMap' Tryd.prog
  obtain ⟨i0, hi, hz0, hz1, hz2⟩ := info_parts (show (Tryd.prog.info? 3).map (fun i => (i.zero, i.size, i.bytes)) = some (some (.int .i64 0), 1, 8) by kernel_rfl)
  go_enter Tryd.func23, Tryd.ntmps23
  go_wp2_with (with_reducible refine at_load_row ((heap_alloc_old _ _ (by simp)).trans (heap_alloc_new w _)) Tryd.underlying30 rfl ?_ rfl ?_; (rw [ints_size, hp.len]; kernel_rfl))
  go_loopw [8] (fun i wr => ∃ k n : Nat, k ≤ 64 ∧ i = .int .i64 (k : Int) ∧ IMap wr (w.heap.size + 1) (mapOf p k) n ∧ Below w.heap.size w wr) (fun i _ => (64 - intOf i).toNat)
  case atStart => exact ⟨0, 0, by omega, rfl, by rw [mapOf_zero]; have := imap_new (w.alloc (.cells (ints p) 30)); simpa using this, ((Below.refl _ _).alloc (Nat.le_refl _) _).alloc (by simp) _⟩
  case round =>
    obtain ⟨k, n, hk, rfl, hmap, hbel⟩ := hrel
    by_cases hlt : k < 64
    · have hix := index_ints (P := Tryd.prog) Tryd.underlying30 hi hz1 (by kernel_rfl) p hp.len k hlt
      have hlo := hp.lo k
      have hhi := hp.hi k
      obtain ⟨o, hrun, him⟩ := imap_update (P := Tryd.prog) (T := 74) (K := 57) (E := 75) (by kernel_rfl) (by kernel_rfl) hmap (k : Int) (.int .i8 (p.getD k 0))
      rw [mapOf_none] at him
      by_cases h0 : 0 < p.getD k 0
      · rw [mapOf_yes p k h0] at him
        generalize p.getD k 0 = v at *
        go_wp2_with fail
        go_roundw
        case rel => exact ⟨k + 1, _, by omega, by go_num, him, below_setBlock hbel (by omega) o⟩
        case measure => simp [intOf]; omega
      · rw [mapOf_no p k h0] at hmap
        clear hrun him
        generalize p.getD k 0 = v at *
        go_wp2_with fail
        go_roundw
        case rel => exact ⟨k + 1, _, by omega, by go_num, hmap, hbel⟩
        case measure => simp [intOf]; omega
    · obtain rfl : k = 64 := by omega
      have hsz := hbel.size
      go_wp2_with (go_at_call 40; refine (bn_new p _ _ _ _ (hA.below hbel) hmap (mapOf_says p hp)).mono ?_; rintro e1 w1 ⟨rfl, hg1, hb1⟩)
      go_ret
      exact ⟨_, rfl, hsz, hg1, hbel.trans (hb1.mono hsz)⟩
end Go.Proofs.YtnpklkenjaambaaDoor
