/- The bits of a book's move are read as its fields and written again as the same bits, for every code of sixteen bits. No further condition. -/
import Derived.Test.YthicpbmojnjiiaaDoorKit
import Derived.Lib.EndianBits
namespace Go.Proofs.YthicpbmojnjiiaaDoor
open Go.RowKit
set_option maxHeartbeats 1600000
set_option linter.unusedSimpArgs false
set_option linter.unusedVariables false

theorem u16_and7 (x : Int) (h0 : 0 ≤ x) (h1 : x < 65536) : Go.bits .and .u16 x 7 = x % 8 :=
  bits_mask .u16 16 (by decide) wraps_u16 3 (by decide) x h0 h1
theorem u16_and63 (x : Int) (h0 : 0 ≤ x) (h1 : x < 65536) : Go.bits .and .u16 x 63 = x % 64 :=
  bits_mask .u16 16 (by decide) wraps_u16 6 (by decide) x h0 h1
theorem wraps_i64 (n : Int) (h₀ : 0 ≤ n) (h₁ : n < 2 ^ 63) : IntKind.i64.wrap n = n := by rw [IntKind.wrap_i64]; omega
theorem i64_and7 (x : Int) (h0 : 0 ≤ x) (h1 : x < 8) : Go.bits .and .i64 x 7 = x := by
  rw [show (7 : Int) = 2 ^ 3 - 1 by rfl, bits_mask .i64 63 (by decide) wraps_i64 3 (by decide) x h0 (by omega)]
  omega
theorem u16_or (i : Nat) (y x : Int) (hx₀ : 0 ≤ x) (hx : x % 2 ^ i = 0) (hx₁ : x < 2 ^ 16) (hy₀ : 0 ≤ y) (hy : y < 2 ^ i) (hy₁ : y < 2 ^ 16) :
    Go.bits .or .u16 y x = y + x :=
  bits_join_low .u16 16 (by decide) wraps_u16 i y x hy₀ hy hy₁ hx₀ hx hx₁

/-- Whether a king's move of a book castles. -/
def pdCast (f r t s : Int) : Bool := if f = 4 ∧ (r = 0 ∨ r = 7) ∧ (t = 0 ∨ t = 7) then decide (s = r) else false

theorem pd_cast (f r t s : Int) (w : World) :
    Calls Tryd.prog 12 #[.int .i64 f, .int .i64 r, .int .i64 t, .int .i64 s] w fun e w' => e = .returned (.bool (pdCast f r t s)) ∧ w = w' := by
  by_cases h1 : f = 4 <;> by_cases h2 : r = 0 <;> by_cases h5 : r = 7 <;> by_cases h3 : t = 0 <;> by_cases h4 : t = 7 <;> try (exfalso; omega)
  all_goals
    go_enter Tryd.func12, Tryd.ntmps12
    go_wp2
    go_ret
    exact ⟨by simp [pdCast, h1, h2, h3, h4, h5] <;> rfl, rfl⟩

def pdFields (f r t s p : Int) (c : Bool) : Value := .agg #[.int .i64 f, .int .i64 r, .int .i64 t, .int .i64 s, .int .i64 p, .bool c]

theorem pd_decode (a : Int) (w : World) (h0 : 0 ≤ a) (h1 : a < 65536) :
    Calls Tryd.prog 7 #[.int .u16 a] w fun e w' => e = .returned (pdFields ((a / 64) % 8) ((a / 512) % 8) (a % 8) ((a / 8) % 8) ((a / 4096) % 8) (pdCast ((a / 64) % 8) ((a / 512) % 8) (a % 8) ((a / 8) % 8))) ∧ Below w.heap.size w w' := by
  have r1 := u16_and7 (a / 64) (by omega) (by omega)
  have r2 := u16_and7 (a / 512) (by omega) (by omega)
  have r3 := u16_and7 a (by omega) (by omega)
  have r4 := u16_and7 (a / 8) (by omega) (by omega)
  have r5 := u16_and7 (a / 4096) (by omega) (by omega)
  go_enter Tryd.func7, Tryd.ntmps7
  go_wp2_with (go_at_call 12; refine (pd_cast _ _ _ _ _).mono ?_; rintro e w' ⟨rfl, rfl⟩)
  exact bodyPost_ret (v := pdFields ((a / 64) % 8) ((a / 512) % 8) (a % 8) ((a / 8) % 8) ((a / 4096) % 8) (pdCast ((a / 64) % 8) ((a / 512) % 8) (a % 8) ((a / 8) % 8))) (by simp [pdFields, results, Tryd.results7, go_sem]) rfl ⟨rfl, (Below.refl _ _).alloc (Nat.le_refl _) _⟩

theorem pd_plain (f r t s p : Int) (c : Bool) (w : World) :
    Calls Tryd.prog 6 #[pdFields f r t s p c] w fun e w' => e = .returned (pdFields f r t s p c) ∧ Below w.heap.size w w' := by
  unfold pdFields
  go_enter Tryd.func6, Tryd.ntmps6
  go_wp2
  exact bodyPost_ret (v := pdFields f r t s p c) (by simp [pdFields, results, Tryd.results6, go_sem]) rfl ⟨rfl, ((Below.refl _ _).alloc (Nat.le_refl _) _).alloc (by simp) _⟩

theorem pd_poly (f r t s p : Int) (c : Bool) (w : World) :
    Calls Tryd.prog 8 #[pdFields f r t s p c] w fun e w' => e = .returned (pdFields f r t s p c) ∧ Below w.heap.size w w' := by
  unfold pdFields
  go_enter Tryd.func8, Tryd.ntmps8
  go_wp2
  exact bodyPost_ret (v := pdFields f r t s p c) (by simp [pdFields, results, Tryd.results8, go_sem]) rfl ⟨rfl, ((Below.refl _ _).alloc (Nat.le_refl _) _).alloc (by simp) _⟩

theorem pd_decoded (a : Int) (w : World) (h0 : 0 ≤ a) (h1 : a < 65536) :
    Calls Tryd.prog 4 #[.int .u16 a] w fun e w' => e = .returned (pdFields ((a / 64) % 8) ((a / 512) % 8) (a % 8) ((a / 8) % 8) ((a / 4096) % 8) (pdCast ((a / 64) % 8) ((a / 512) % 8) (a % 8) ((a / 8) % 8))) ∧ Below w.heap.size w w' := by
  go_enter Tryd.func4, Tryd.ntmps4
  go_wp2_with fail
  refine (pd_decode _ _ h0 h1).mono ?_
  rintro e w1 ⟨rfl, q1⟩
  obtain ⟨hc1, hf1⟩ := bcell q1
  have hz1 : w.heap.size < w1.heap.size := by have := q1.size; simp at this; omega
  go_wp2_with fail
  refine (pd_plain _ _ _ _ _ _ _).mono ?_
  rintro e w2 ⟨rfl, q2⟩
  obtain ⟨hc2, hf2⟩ := bcell q2
  have hz2 := q2.size
  unfold pdFields
  go_wp2
  refine bodyPost_ret (v := pdFields ((a / 64) % 8) ((a / 512) % 8) (a % 8) ((a / 8) % 8) ((a / 4096) % 8) (pdCast ((a / 64) % 8) ((a / 512) % 8) (a % 8) ((a / 8) % 8))) (by simp [pdFields, results, Tryd.results4, go_sem, hc2, hc1, hz1]) rfl ⟨rfl, ?_⟩
  repeat (refine Below.setCell ?_ (by simp) _)
  exact bstep (bstep ((Below.refl _ _).alloc (Nat.le_refl _) _) q1 (by simp)) q2 (by omega)

theorem wid (x : Int) (h0 : 0 ≤ x) (h1 : x < 65536) : IntKind.u16.wrap x = x := wraps_u16 x h0 h1
/-- The bits of a book's move. -/
def pdCode (a b c d e : Int) : Int := c + d * 8 + a * 64 + b * 512 + e * 4096
theorem pd_bits (a b c d e : Int) (a0 : 0 ≤ a) (a1 : a < 8) (b0 : 0 ≤ b) (b1 : b < 8) (c0 : 0 ≤ c) (c1 : c < 8) (d0 : 0 ≤ d) (d1 : d < 8) (e0 : 0 ≤ e) (e1 : e < 8) :
    Go.bits .or .u16 (Go.bits .or .u16 (Go.bits .or .u16 (Go.bits .or .u16 (Go.bits .or .u16 0 c) (d * 8)) (a * 64)) (b * 512)) (e * 4096) = pdCode a b c d e := by
  unfold pdCode
  rw [u16_or 0 0 c (by omega) (by simp) (by omega) (by omega) (by omega) (by omega), Int.zero_add,
    u16_or 3 c (d * 8) (by omega) (by simp only [Int.reducePow]; omega) (by omega) (by omega) (by omega) (by omega),
    u16_or 6 (c + d * 8) (a * 64) (by omega) (by simp only [Int.reducePow]; omega) (by omega) (by omega) (by omega) (by omega),
    u16_or 9 (c + d * 8 + a * 64) (b * 512) (by omega) (by simp only [Int.reducePow]; omega) (by omega) (by omega) (by omega) (by omega),
    u16_or 12 (c + d * 8 + a * 64 + b * 512) (e * 4096) (by omega) (by simp only [Int.reducePow]; omega) (by omega) (by omega) (by omega) (by omega)]

theorem pd_sum (a : Int) (h0 : 0 ≤ a) (h1 : a < 65536) : pdCode (a / 64 % 8) (a / 512 % 8) (a % 8) (a / 8 % 8) (a / 4096) = a := by unfold pdCode; omega

theorem pd_end {w w1 w2 w3 : World} {o1 o2 o2' : Obj} (q1 : Below w.heap.size w w1) (q2 : Below ((w1.alloc o1).alloc o2).heap.size ((w1.alloc o1).alloc o2') w2) (q3 : Below w2.heap.size w2 w3) : Below w.heap.size w w3 := by
  have z := q1.size
  have z2 := q2.size
  simp at z2
  refine bstep (bstep ((q1.alloc z o1).alloc (by simp; omega) o2') (q2.mono (by simp)) (by simp; omega)) q3 (by omega)

end Go.Proofs.YthicpbmojnjiiaaDoor
