/- FnBdBytes: the law. For every board, and a package variable that lists the pieces. -/
import Derived.Test.YtndnmepapmnnlaaDoorBh
import Derived.Test.YtndnmepapmnnlaaDoorBt
namespace Go.Proofs.YtndnmepapmnnlaaDoor
open Go Go.RowKit
set_option maxHeartbeats 4000000
set_option linter.unusedSimpArgs false
set_option linter.unusedVariables false
set_option maxRecDepth 100000

theorem bytes_get (F : Nat → BitVec 64) (j : Nat) (hj : j < 8) : ∀ n k, k < n → (bytesOf F n)[8 * k + j]? = some (.int .u8 (byteOf (F k) j))
  | 0, k, h => by omega
  | n + 1, k, h => by
    have hlen : ∀ n, (bytesOf F n).length = 8 * n := fun n => by
      induction n with
      | zero => rfl
      | succ n ih => rw [bytesOf_step, List.length_append, ih]; simp [bytes8]; omega
    rw [bytesOf_step]
    by_cases e : k = n
    · subst e
      rw [List.getElem?_append_right (by rw [hlen]; omega), hlen, show 8 * k + j - 8 * k = j by omega]
      simp [bytes8, hj]
    · rw [List.getElem?_append_left (by rw [hlen]; omega)]
      exact bytes_get F j hj n k (by omega)
theorem byte_range (x : BitVec 64) (j : Nat) : 0 ≤ byteOf x j ∧ byteOf x j ≤ 255 := by unfold byteOf; omega
theorem byte_bit (x : BitVec 64) (i : Nat) (hi : i < 64) : byteOf x (i / 8) / 2 ^ (7 - i % 8) % 2 = if occ x i = true then 1 else 0 := by
  have e1 : byteOf x (i / 8) / 2 ^ (7 - i % 8) % 2 = (((x >>> (8 * (7 - i / 8))).toNat % 256 / 2 ^ (7 - i % 8) % 2 : Nat) : Int) := by
    unfold byteOf
    simp only [Int.natCast_emod, Int.natCast_ediv, Int.natCast_pow]
    rfl
  rw [e1]
  have e2 : (x >>> (8 * (7 - i / 8))).toNat % 256 / 2 ^ (7 - i % 8) % 2 = (if occ x i = true then 1 else 0) := by
    have h0 : Nat.testBit ((x >>> (8 * (7 - i / 8))).toNat % 256) (7 - i % 8) = occ x i := by
      rw [show (256 : Nat) = 2 ^ 8 from rfl, Nat.testBit_mod_two_pow]
      have : 7 - i % 8 < 8 := by omega
      simp only [this, decide_true, Bool.true_and]
      rw [BitVec.toNat_ushiftRight, Nat.testBit_shiftRight]
      unfold occ
      rw [BitVec.getLsbD, show 8 * (7 - i / 8) + (7 - i % 8) = 63 - i by omega]
    rw [← h0, Nat.testBit_eq_decide_div_mod_eq]
    generalize (x >>> (8 * (7 - i / 8))).toNat % 256 / 2 ^ (7 - i % 8) = n
    by_cases h : n % 2 = 1
    · simp [h]
    · have : n % 2 = 0 := by omega
      simp [this]
  rw [e2]
  split <;> rfl
theorem by_lies (p : List Int) (w w0 : World) (v : Value) (h : w.ownsRow w0.heap.size 5 1 v 96 (bytesOf (bbF p) 12)) : ∃ q cap, v = .slice (some ⟨q, 0, none⟩) 96 cap ∧ 96 ≤ cap ∧ w0.heap.size ≤ q ∧ q < w.heap.size ∧ Lies (bbF p) q w := by
  have hf := h
  obtain ⟨hn, ⟨rfl, h0⟩ | ⟨g, cap, cur, rfl, hge, hg, hc, _⟩⟩ := h
  · omega
  · refine ⟨g, cap, rfl, hc, hge, (Array.getElem?_eq_some_iff.1 hg).1, fun k hk j hj => ?_⟩
    have := hf.cellAt (8 * k + j) (by omega)
    exact this.trans (bytes_get (bbF p) j hj 12 k hk)

theorem by_law (b : List Int) (hl : b.length = 64) (w : World) (hA : IntSl w 1 .i8 allL) :
    Calls Tryd.prog 5 #[.agg (ints b)] w fun e' w' => e' = .returned (.bool true) ∧ Below w.heap.size w w' := by
  have hrow := heap_alloc_new w (.cells (ints b) 22)
  have hB0 : Below w.heap.size w (w.alloc (.cells (ints b) 22)) := (Below.refl _ _).alloc (Nat.le_refl _) _
  go_enter Tryd.func5, Tryd.ntmps5
  go_wp2_with (refine at_load_row hrow Tryd.underlying22 rfl ?_ rfl ?_; (rw [ints_size, hl]; kernel_rfl))
  refine (br_right b hl _).mono ?_
  rintro e1 w1 ⟨rfl, hb1⟩
  have r1 := (hb1.block _ (by simp)).trans hrow
  have hB1 := hB0.trans (hb1.mono hB0.size)
  clear hrow hB0
  cases hr : right b with
  | false =>
    go_wp2_with fail
    go_ret
    exact ⟨rfl, hB1⟩
  | true =>
    have hp := right_brd b hl hr
    go_wp2_with ((with_reducible refine at_load_row r1 Tryd.underlying22 rfl ?_ ?_ ?_); (rw [ints_size, hl]; kernel_rfl); rfl)
    refine (bf_impl b hp w1 (hA.below hB1)).mono ?_
    rintro e2 w2 ⟨v, rfl, hown, hb2⟩
    obtain ⟨q, cap, rfl, hcap, hge, hql, hby⟩ := by_lies b w2 w1 v hown
    have r2 := (hb2.block _ (Array.getElem?_eq_some_iff.1 r1).1).trans r1
    have hB2 := hB1.trans (hb2.mono hB1.size)
    clear hown hb2 r1 hB1 hb1
    go_wp2_with fail
    go_loopw [5] (fun i wr => ∃ k : Nat, k ≤ 64 ∧ i = .int .i64 (k : Int) ∧ wr = w2) (fun i _ => (64 - intOf i).toNat)
    case atStart => exact ⟨0, by omega, rfl, rfl⟩
    case round =>
      obtain ⟨i, hi, rfl, rfl⟩ := hrel
      by_cases hlt : i < 64
      · have hci := row_cell r2 i (by omega)
        go_wp2_with fail
        go_loopw [6] (fun m wr2 => ∃ k : Nat, k ≤ 12 ∧ m = .int .i64 ((k : Int) + 1) ∧ wr2 = wr) (fun m _ => (13 - intOf m).toNat)
        case atStart => exact ⟨0, by omega, rfl, rfl⟩
        case round =>
          obtain ⟨k, hk, rfl, rfl⟩ := hrel
          by_cases hlk : k < 12
          · have hcb := hby k hlk (i / 8) (by omega)
            have hrg := byte_range (bbF b k) (i / 8)
            have hbit := byte_bit (bbF b k) i hlt
            have hocc : occ (bbF b k) i = decide (b.getD i 0 = (k : Int) + 1) := occ_bb b ((k : Int) + 1) i hlt
            rw [hocc] at hbit
            have hcb' : wr.cell? ⟨q, 8 * k + i / 8, none⟩ = some (.int .u8 (byteOf (bbF b k) (i / 8))) := hcb
            clear hcb hocc
            generalize byteOf (bbF b k) (i / 8) = v at *
            have hb1 : bits .and .u8 (v / 2 ^ (7 - i % 8)) 1 = v / 2 ^ (7 - i % 8) % 2 := by
              have h0 : 0 ≤ v / 2 ^ (7 - i % 8) := Int.ediv_nonneg hrg.1 (Int.le_of_lt (Int.pow_pos (by decide)))
              have h1 : v / 2 ^ (7 - i % 8) ≤ v := Int.ediv_le_self _ hrg.1
              exact bits_mask .u8 8 (by decide) wraps_u8 1 (by decide) _ h0 (by omega)
            rw [hbit] at hb1
            clear hbit
            have hhid := show Shut _ from hby
            clear hby
            by_cases hx : b.getD i 0 = (k : Int) + 1
            · rw [hx] at hci
              have hb2 : (bits .and .u8 (v / 2 ^ (7 - i % 8)) 1 == 1) = true := by rw [hb1, decide_eq_true hx]; rfl
              clear hb1 hx
              go_wp2_with fail
              go_roundw
              case rel => exact ⟨k + 1, by omega, by go_num, trivial⟩
              case measure => simp [intOf]; omega
            · have hb2 : (bits .and .u8 (v / 2 ^ (7 - i % 8)) 1 == 1) = false := by rw [hb1, decide_eq_false hx]; rfl
              have hne : (b.getD i 0 == (k : Int) + 1) = false := by simpa using hx
              generalize b.getD i 0 = x at *
              clear hb1 hx
              go_wp2_with fail
              go_roundw
              case rel => exact ⟨k + 1, by omega, by go_num, trivial⟩
              case measure => simp [intOf]; omega
          · obtain rfl : k = 12 := by omega
            go_wp2_with fail
            go_roundw
            case rel => exact ⟨i + 1, by omega, by go_num, trivial⟩
            case measure => simp [intOf]; omega
      · obtain rfl : i = 64 := by omega
        go_wp2_with fail
        refine (bh_impl b hp q cap hcap wr (hA.below hB2) hby).mono ?_
        rintro e3 w3 ⟨rfl, hb3⟩
        have r3 := (hb3.block _ (Array.getElem?_eq_some_iff.1 r2).1).trans r2
        have hB3 := hB2.trans (hb3.mono hB2.size)
        clear r2 hB2 hb3 hby
        obtain ⟨ii, hi, hz0, hz1, hz2⟩ := info_parts (show (Tryd.prog.info? 3).map (fun i => (i.zero, i.size, i.bytes)) = some (some (.int .i64 0), 1, 8) by kernel_rfl)
        have hEq : ∀ W, (Op.equalIn 10000 22 (.agg (ints b)) (.agg (ints b))).run Tryd.prog W = .ok true W := fun W => by
          have := eq_ints (P := Tryd.prog) Tryd.underlying22 hi (by kernel_rfl) (by kernel_rfl) b b hl hl W
          simpa using this
        clear hi hz0 hz1 hz2
        go_wp2_with (first
          | ((with_reducible refine at_new_row (ints b) ?_ ?_ ?_ ?_ ?_ ?_); (rw [ints_size, hl]; kernel_rfl); (rw [ints_size, hl]; kernel_rfl); exact ints_one _; rfl; rfl; intro W4 rG4 hC4; have rB4 := (hC4.block _ (Array.getElem?_eq_some_iff.1 r3).1).trans r3; have hB4 := hB3.trans (hC4.mono hB3.size))
          | ((with_reducible refine at_load_rowG rG4 Tryd.underlying22 rfl ?_ ?_ ?_ ?_); (rw [ints_size, hl]; kernel_rfl); rfl; rfl)
          | ((with_reducible refine at_load_rowG rB4 Tryd.underlying22 rfl ?_ ?_ ?_ ?_); (rw [ints_size, hl]; kernel_rfl); rfl; rfl))
        go_ret
        exact ⟨rfl, hB4⟩
end Go.Proofs.YtndnmepapmnnlaaDoor
