/- A picture of a number tells its squares, and has as many digits 1 behind the ranks' numbers as there are squares; for any two numbers. No further condition. -/
import Derived.Test.YtgebocnomapchaaDr
import Derived.Test.YtgebocnomapchaaMa
namespace Go.Proofs.Ytgebocnomapchaa
open Go Go.RowKit
set_option maxHeartbeats 1000000
set_option linter.unusedSimpArgs false
set_option linter.unusedVariables false
set_option maxRecDepth 100000

/-! ### the plain law -/
/-- How many digits 1 a text has. -/
def ones (l : List UInt8) : Nat := l.countP (· == 49)
def onesB (s : ByteArray) : Nat := ones s.data.toList
theorem onesB_append (a b : ByteArray) : onesB (a ++ b) = onesB a + onesB b := by
  simp [onesB, ones, ByteArray.data_append, List.countP_append]
theorem ones_bit (x : BitVec 64) (s : Nat) : onesB (drBit x s) = if occ x s then 1 else 0 := by unfold drBit; split <;> rfl
theorem ones_in (x : BitVec 64) (r : Nat) (s : ByteArray) (j : Nat) : onesB (drIn x r s j) = onesB s + ((List.range j).filter fun f => occ x (8 * r + f)).length := by
  induction j with
  | zero => simp [drIn]
  | succ j ih =>
    simp only [drIn, onesB_append, ih, ones_bit, List.range_succ, List.filter_append, List.length_append]
    have : onesB ⟨#[32]⟩ = 0 := rfl
    rw [this]
    cases h : occ x (8 * r + j) <;> simp [h] <;> omega
/-- The squares of one rank. -/
def inRank (x : BitVec 64) (r : Nat) : Nat := ((List.range 8).filter fun f => occ x (8 * r + f)).length
theorem ones_out (x : BitVec 64) : onesB (drOut x 8) = 1 + (inRank x 0 + inRank x 1 + inRank x 2 + inRank x 3 + inRank x 4 + inRank x 5 + inRank x 6 + inRank x 7) := by
  have step : ∀ k, onesB (drOut x (k + 1)) = onesB (drOut x k) + onesB (rankDigit (7 - k)) + inRank x (7 - k) := by
    intro k
    have h10 : onesB ⟨#[10]⟩ = 0 := rfl
    simp only [drOut, onesB_append, ones_in, h10]
    rfl
  have h0 : onesB (drOut x 0) = 0 := rfl
  rw [step 7, step 6, step 5, step 4, step 3, step 2, step 1, step 0, h0]
  have d0 : onesB (rankDigit 0) = 1 := by decide
  have d1 : onesB (rankDigit 1) = 0 := by decide
  have d2 : onesB (rankDigit 2) = 0 := by decide
  have d3 : onesB (rankDigit 3) = 0 := by decide
  have d4 : onesB (rankDigit 4) = 0 := by decide
  have d5 : onesB (rankDigit 5) = 0 := by decide
  have d6 : onesB (rankDigit 6) = 0 := by decide
  have d7 : onesB (rankDigit 7) = 0 := by decide
  simp only [show 7 - 0 = 7 from rfl, show 7 - 1 = 6 from rfl, show 7 - 2 = 5 from rfl, show 7 - 3 = 4 from rfl, show 7 - 4 = 3 from rfl, show 7 - 5 = 2 from rfl, show 7 - 6 = 1 from rfl, show 7 - 7 = 0 from rfl, d0, d1, d2, d3, d4, d5, d6, d7]
  omega
theorem sqs_ranks (x : BitVec 64) : (sqsTo x 64).length = inRank x 0 + inRank x 1 + inRank x 2 + inRank x 3 + inRank x 4 + inRank x 5 + inRank x 6 + inRank x 7 := by
  have step : ∀ r, (sqsTo x (8 * r + 8)).length = (sqsTo x (8 * r)).length + inRank x r := by
    intro r
    unfold sqsTo inRank
    rw [List.range_add, List.filter_append, List.length_append, List.filter_map, List.length_map]
    rfl
  have h := step 7
  rw [show 8 * 7 = 8 * 6 + 8 from rfl, step 6, show 8 * 6 = 8 * 5 + 8 from rfl, step 5, show 8 * 5 = 8 * 4 + 8 from rfl, step 4, show 8 * 4 = 8 * 3 + 8 from rfl, step 3, show 8 * 3 = 8 * 2 + 8 from rfl, step 2,
    show 8 * 2 = 8 * 1 + 8 from rfl, step 1, show 8 * 1 = 8 * 0 + 8 from rfl, step 0] at h
  have h0 : (sqsTo x (8 * 0)).length = 0 := rfl
  rw [h0] at h
  simpa using h
theorem ones_draw (x : BitVec 64) : onesB (drOut x 8) = 1 + (sqsTo x 64).length := by rw [ones_out, sqs_ranks]

theorem append_split {a b c d : ByteArray} (h : a ++ b = c ++ d) (hs : a.size = c.size) : a = c ∧ b = d := by
  have h' : a.data.toList ++ b.data.toList = c.data.toList ++ d.data.toList := by
    have := congrArg (fun s : ByteArray => s.data.toList) h
    simpa [ByteArray.data_append] using this
  obtain ⟨h1, h2⟩ := List.append_inj h' (by simpa using hs)
  cases a; cases b; cases c; cases d
  simp at h1 h2
  simp [h1, h2]
theorem bit_inj {x y : BitVec 64} {s : Nat} (h : drBit x s = drBit y s) : occ x s = occ y s := by
  unfold drBit at h
  cases hx : occ x s <;> cases hy : occ y s <;> simp_all
theorem in_inj (x y : BitVec 64) (r : Nat) (s t : ByteArray) (hs : s.size = t.size) (j : Nat) (h : drIn x r s j = drIn y r t j) : s = t ∧ ∀ f, f < j → occ x (8 * r + f) = occ y (8 * r + f) := by
  induction j with
  | zero => exact ⟨h, fun f hf => by omega⟩
  | succ j ih =>
    simp only [drIn] at h
    have z : (drIn x r s j).size = (drIn y r t j).size := by rw [drIn_size, drIn_size, hs]
    obtain ⟨h1, _⟩ := append_split h (by rw [ByteArray.size_append, ByteArray.size_append, z, drBit_size, drBit_size])
    obtain ⟨h2, h3⟩ := append_split h1 z
    obtain ⟨h4, h5⟩ := ih h2
    refine ⟨h4, fun f hf => ?_⟩
    by_cases e : f = j
    · subst e; exact bit_inj h3
    · exact h5 f (by omega)
theorem out_inj (x y : BitVec 64) (k : Nat) (hk : k ≤ 8) (h : drOut x k = drOut y k) : ∀ r f, 8 - k ≤ r → r < 8 → f < 8 → occ x (8 * r + f) = occ y (8 * r + f) := by
  induction k with
  | zero => intro r f h1 h2; omega
  | succ k ih =>
    intro r f h1 h2 h3
    simp only [drOut] at h
    obtain ⟨g1, _⟩ := append_split h (by rw [drIn_size, drIn_size, ByteArray.size_append, ByteArray.size_append, drOut_size, drOut_size])
    obtain ⟨g2, g3⟩ := in_inj x y (7 - k) _ _ (by rw [ByteArray.size_append, ByteArray.size_append, drOut_size, drOut_size]) 8 g1
    obtain ⟨g4, _⟩ := append_split g2 (by rw [drOut_size, drOut_size])
    by_cases e : r = 7 - k
    · subst e; exact g3 f h3
    · exact ih (by omega) g4 r f (by omega) h2 h3
theorem draw_inj (x y : BitVec 64) (h : drOut x 8 = drOut y 8) : x = y := by
  have g := out_inj x y 8 (Nat.le_refl _) h
  apply BitVec.eq_of_getLsbD_eq
  intro i hi
  have := g ((63 - i) / 8) ((63 - i) % 8) (by omega) (by omega) (by omega)
  unfold occ at this
  rw [show 63 - (8 * ((63 - i) / 8) + (63 - i) % 8) = i by omega] at this
  exact this
theorem draw_same (x y : BitVec 64) : ((drOut x 8).toList == (drOut y 8).toList) = (x == y) := by
  by_cases h : x = y
  · subst h; simp
  · have h1 : (x == y) = false := by simp [h]
    rw [h1]
    have : ¬ (drOut x 8).toList = (drOut y 8).toList := by
      intro e
      apply h
      apply draw_inj
      have e' : (drOut x 8).data.toList = (drOut y 8).data.toList := by rw [ByteArray.toList_eq, ByteArray.toList_eq] at e; exact e
      cases hx : drOut x 8 with | mk a => cases hy : drOut y 8 with | mk b => rw [hx, hy] at e'; simp at e'; rw [e']
    simpa using this

/-! ### the walks -/
theorem bd_ones (s : ByteArray) (w : World) (hs : s.size ≤ 1000) :
    Calls Try.prog 14 #[.string s] w fun e w' => e = .returned (.int .i64 (onesB s : Nat)) ∧ w = w' := by
  go_enter Try.func14, Try.ntmps14
  go_wp2
  go_loop [3, 4] (fun n i => ∃ k : Nat, k ≤ s.size ∧ i = .int .i64 (k : Int) ∧ n = .int .i64 ((ones (s.data.toList.take k) : Nat) : Int)) (fun _ i => s.size - (intOf i).toNat)
  case atStart => exact ⟨0, Nat.zero_le _, rfl, rfl⟩
  case round =>
    obtain ⟨k, hk, rfl, rfl⟩ := hrel
    have hle : ones (s.data.toList.take k) ≤ k := Nat.le_trans (List.countP_le_length) (by simp; omega)
    by_cases hlt : k < s.size
    · have hts : ones (s.data.toList.take (k + 1)) = ones (s.data.toList.take k) + if s[k] == 49 then 1 else 0 := by
        have e : s.data.toList.take (k + 1) = s.data.toList.take k ++ [s[k]] := by
          rw [List.take_succ_eq_append_getElem (by simpa using hlt)]; rfl
        rw [e]
        unfold ones
        rw [List.countP_append]
        simp [List.countP_cons]
      have HT := Lib.hid hts
      clear hts
      cases hc : (s[k] == 49) with
      | true =>
        have HC := Lib.hid hc
        have hb : (s[k].toNat : Int) = 49 := by have := eq_of_beq hc; rw [this]; rfl
        clear hc
        go_wp2
        go_round
        case rel => exact ⟨k + 1, by omega, by go_num, by rw [HT.out, if_pos HC.out]; go_num⟩
        case measure => simp [intOf]; omega
      | false =>
        have HC := Lib.hid hc
        have hb : ((s[k].toNat : Int) == 49) = false := by
          have h1 : s[k] ≠ 49 := by simpa using hc
          have h2 : s[k].toNat ≠ 49 := fun e => h1 (UInt8.toNat_inj.1 (by simpa using e))
          simp; omega
        clear hc
        go_wp2
        go_round
        case rel => exact ⟨k + 1, by omega, by go_num, by rw [HT.out, if_neg (by rw [HC.out]; decide)]; go_num⟩
        case measure => simp [intOf]; omega
    · go_wp2
      go_ret
      refine ⟨?_, rfl⟩
      unfold onesB
      rw [List.take_of_length_le (by simp; omega)]
      rfl

theorem bd_draw (x : BitVec 64) (w : World) :
    Calls Try.prog 13 #[bbv x] w fun e w' => e = .returned (.string (drOut x 8)) ∧ w = w' := by
  go_enter Try.func13, Try.ntmps13
  go_wp2_with (first | (go_at_call 32; refine (dr_draw x _).mono ?_; rintro e w1 ⟨rfl, rfl⟩) | go_in)
  go_ret
  exact ⟨rfl, rfl⟩

theorem len_own {P : Program} {T e : TypeId} (hT : P.underlying T = some (.slice e)) (t : TypeId) {w : World} {base n : Nat} {v : Value} {size : Nat} {xs : List Value} {E : TypeId} (h : w.ownsRow base E size v n xs) :
    (Builtin.len_ #[T] t #[v]).run P w = .ok (.int .i64 n) w := by
  obtain ⟨_, h⟩ := h
  rcases h with ⟨rfl, rfl⟩ | ⟨g, cap, cur, rfl, _⟩
  · simp [Builtin.len_, run_underlying hT, goInt]
  · simp [Builtin.len_, run_underlying hT, goInt]

theorem bd_law (a b : Int) (a0 : 0 ≤ a) (a1 : a ≤ 18446744073709551615) (b0 : 0 ≤ b) (b1 : b ≤ 18446744073709551615) (w : World) :
    Calls Try.prog 6 #[.int .u64 a, .int .u64 b] w fun e w' => e = .returned (.bool true) ∧ Below w.heap.size w w' := by
  obtain ⟨x, ex⟩ := bbv_of a a0 a1
  obtain ⟨y, ey⟩ := bbv_of b b0 b1
  rw [ex, ey]
  clear ex ey a0 a1 b0 b1
  have z0 : Value.int .u64 0 = bbv 0#64 := rfl
  have z1 : Value.int .u64 1 = bbv 1#64 := rfl
  have Z0 := Lib.hid z0
  have Z1 := Lib.hid z1
  clear z0 z1
  have hd := draw_same x y
  have zx := drOut_size x 8
  have zy := drOut_size y 8
  have sx : (drOut x 8).size ≤ 1000 := by omega
  have s0 : (drOut 0#64 8).size ≤ 1000 := by rw [drOut_size]; omega
  have s1 : (drOut 1#64 8).size ≤ 1000 := by rw [drOut_size]; omega
  have ox := ones_draw x
  have o0 : onesB (drOut 0#64 8) = 1 := by decide +kernel
  have o1 : onesB (drOut 1#64 8) = 2 := by decide +kernel
  have lx := sqsTo_le x 64
  have OX := Lib.hid ox
  clear zx zy ox
  go_enter Try.func6, Try.ntmps6
  go_wp2_with fail
  refine (bd_draw x _).mono ?_
  rintro e w1 ⟨rfl, rfl⟩
  go_wp2_with fail
  refine (bd_draw y _).mono ?_
  rintro e w1 ⟨rfl, rfl⟩
  generalize drOut x 8 = dx at *
  generalize drOut y 8 = dy at *
  go_wp2_with fail
  refine (bd_ones dx _ sx).mono ?_
  rintro e w1 ⟨rfl, rfl⟩
  go_wp2_with fail
  rw [Z0.out]
  refine (bd_draw _ _).mono ?_
  rintro e w1 ⟨rfl, rfl⟩
  go_wp2_with fail
  refine (bd_ones _ _ s0).mono ?_
  rintro e w1 ⟨rfl, rfl⟩
  rw [OX.out, o0]
  go_wp2_with fail
  refine (ma_list x _).mono ?_
  rintro e w1 ⟨v, rfl, hown, hb⟩
  have hlen := len_own (P := Try.prog) (T := 35) (e := 3) (by kernel_rfl) 3 hown
  clear hown
  go_wp2_with fail
  rw [Z1.out]
  refine (bd_draw _ _).mono ?_
  rintro e w2 ⟨rfl, rfl⟩
  go_wp2_with fail
  refine (bd_ones _ _ s1).mono ?_
  rintro e w2 ⟨rfl, rfl⟩
  rw [o1]
  go_wp2_with fail
  rw [Z0.out]
  refine (bd_draw _ _).mono ?_
  rintro e w2 ⟨rfl, rfl⟩
  go_wp2_with fail
  refine (bd_ones _ _ s0).mono ?_
  rintro e w2 ⟨rfl, rfl⟩
  rw [o0]
  go_wp2
  go_ret
  exact ⟨by simp, hb⟩
end Go.Proofs.Ytgebocnomapchaa
