/- linearAttack: bits in reverse, and what is seen along one line. For all numbers. -/
import Derived.Test.YtplkcmlpomjojaaDoorSb
namespace Go.Proofs.YtplkcmlpomjojaaDoor
open Go Go.RowKit
set_option maxHeartbeats 4000000
set_option linter.unusedSimpArgs false
set_option linter.unusedVariables false
set_option maxRecDepth 100000

def swapB (k : Nat) (m x : BitVec 64) : BitVec 64 := x >>> k &&& m ||| (x &&& m) <<< k
def swapOk (k : Nat) (m : BitVec 64) : Bool := (List.range 64).all fun i => if m.getLsbD i then (decide (i < k) || !m.getLsbD (i - k)) && decide (i + k < 64) else decide (k ≤ i) && m.getLsbD (i - k)
def sw (k : Nat) (m : BitVec 64) (i : Nat) : Nat := if m.getLsbD i then i + k else i - k
theorem swap_get (k : Nat) (m x : BitVec 64) (h : swapOk k m = true) (i : Nat) (hi : i < 64) : (swapB k m x).getLsbD i = x.getLsbD (sw k m i) := by
  have h := List.all_eq_true.1 h i (by simpa using hi)
  unfold swapB sw
  simp only [BitVec.getLsbD_or, BitVec.getLsbD_and, BitVec.getLsbD_ushiftRight, BitVec.getLsbD_shiftLeft]
  cases hm : m.getLsbD i with
  | true =>
    rw [hm] at h
    simp only [if_true, Bool.and_eq_true, Bool.or_eq_true, decide_eq_true_eq, Bool.not_eq_true'] at h
    rw [Nat.add_comm k i]
    rcases h.1 with h1 | h1
    · simp [h1]
    · simp [h1]
  | false =>
    rw [hm] at h
    simp only [Bool.false_eq_true, if_false, Bool.and_eq_true, decide_eq_true_eq] at h
    have h2 : ¬ i < k := by omega
    simp [h.2, h2, hi]
def m1 : BitVec 64 := BitVec.ofInt 64 6148914691236517205
def m2 : BitVec 64 := BitVec.ofInt 64 3689348814741910323
def m4 : BitVec 64 := BitVec.ofInt 64 1085102592571150095
def m8 : BitVec 64 := BitVec.ofInt 64 71777214294589695
def m16 : BitVec 64 := BitVec.ofInt 64 281470681808895
def m32 : BitVec 64 := BitVec.ofInt 64 4294967295
/-- The bytes in reverse, the bits in reverse. -/
def bytesRev (x : BitVec 64) : BitVec 64 := swapB 16 m16 (swapB 8 m8 x) >>> 32 ||| swapB 16 m16 (swapB 8 m8 x) <<< 32
def brev (x : BitVec 64) : BitVec 64 := bytesRev (swapB 4 m4 (swapB 2 m2 (swapB 1 m1 x)))
theorem swap_last (x : BitVec 64) (i : Nat) (hi : i < 64) : (x >>> 32 ||| x <<< 32).getLsbD i = x.getLsbD (sw 32 m32 i) := by
  have e : x >>> 32 ||| x <<< 32 = swapB 32 m32 x := by
    unfold swapB
    apply BitVec.eq_of_getLsbD_eq
    intro j hj
    have hm : m32.getLsbD j = decide (j < 32) := by
      have : ∀ j < 64, m32.getLsbD j = decide (j < 32) := by decide
      exact this j hj
    simp only [BitVec.getLsbD_or, BitVec.getLsbD_and, BitVec.getLsbD_ushiftRight, BitVec.getLsbD_shiftLeft, hm]
    by_cases h : j < 32
    · simp [h]
    · have h2 : m32.getLsbD (j - 32) = true := by
        have : ∀ j < 64, 32 ≤ j → m32.getLsbD (j - 32) = true := by decide
        exact this j hj (by omega)
      have h3 : x.getLsbD (32 + j) = false := BitVec.getLsbD_of_ge _ _ (by omega)
      simp [h, h2, h3]
  rw [e]
  exact swap_get 32 m32 x (by decide) i hi
theorem brev_get (x : BitVec 64) (i : Nat) (hi : i < 64) : (brev x).getLsbD i = x.getLsbD (63 - i) := by
  unfold brev bytesRev
  have a1 : ∀ i < 64, sw 32 m32 i < 64 := by decide
  have a2 : ∀ i < 64, sw 16 m16 i < 64 := by decide
  have a3 : ∀ i < 64, sw 8 m8 i < 64 := by decide
  have a4 : ∀ i < 64, sw 4 m4 i < 64 := by decide
  have a5 : ∀ i < 64, sw 2 m2 i < 64 := by decide
  have a6 : ∀ i < 64, sw 1 m1 (sw 2 m2 (sw 4 m4 (sw 8 m8 (sw 16 m16 (sw 32 m32 i))))) = 63 - i := by decide
  rw [swap_last _ i hi, swap_get 16 m16 _ (by decide) _ (a1 _ hi), swap_get 8 m8 _ (by decide) _ (a2 _ (a1 _ hi)), swap_get 4 m4 _ (by decide) _ (a3 _ (a2 _ (a1 _ hi))),
    swap_get 2 m2 _ (by decide) _ (a4 _ (a3 _ (a2 _ (a1 _ hi)))), swap_get 1 m1 _ (by decide) _ (a5 _ (a4 _ (a3 _ (a2 _ (a1 _ hi))))), a6 i hi]

theorem la_bytes (x : BitVec 64) (w : World) :
    Calls Tryd.prog 79 #[bbv x] w fun e w' => e = .returned (bbv (bytesRev x)) ∧ w = w' := by
  go_enter Tryd.func79, Tryd.ntmps79
  go_wp2
  go_ret
  exact ⟨rfl, rfl⟩
theorem la_rev64 (x : BitVec 64) (w : World) :
    Calls Tryd.prog 77 #[bbv x] w fun e w' => e = .returned (bbv (brev x)) ∧ w = w' := by
  go_enter Tryd.func77, Tryd.ntmps77
  go_wp2_with fail
  refine (la_bytes _ _).mono ?_
  rintro e w1 ⟨rfl, rfl⟩
  go_wp2
  go_ret
  exact ⟨rfl, rfl⟩
theorem la_rev (x : BitVec 64) (w : World) :
    Calls Tryd.prog 75 #[bbv x] w fun e w' => e = .returned (bbv (brev x)) ∧ w = w' := by
  go_enter Tryd.func75, Tryd.ntmps75
  go_wp2_with fail
  refine (la_rev64 _ _).mono ?_
  rintro e w1 ⟨rfl, rfl⟩
  go_wp2
  go_ret
  exact ⟨rfl, rfl⟩
/-- What is seen along one line. -/
def linB (o p m : BitVec 64) : BitVec 64 := ((o &&& m) - 2#64 * p ^^^ brev (brev (o &&& m) - 2#64 * brev p)) &&& m
theorem la_linear (o p m : BitVec 64) (w : World) :
    Calls Tryd.prog 62 #[bbv o, bbv p, bbv m] w fun e w' => e = .returned (bbv (linB o p m)) ∧ w = w' := by
  go_enter Tryd.func62, Tryd.ntmps62
  go_wp2_with (first | (go_at_call 75; refine (la_rev _ _).mono ?_; rintro e w1 ⟨rfl, rfl⟩))
  go_ret
  exact ⟨rfl, rfl⟩
end Go.Proofs.YtplkcmlpomjojaaDoor
