/- The text of a board: how it is written square by square, and that it tells the board. The plain law: for every board of pieces from 0 to 12. -/
import Derived.Test.YtnpklkenjaambaaDoorKit
namespace Go.Proofs.YtnpklkenjaambaaDoor
open Go Go.RowKit
set_option maxHeartbeats 1000000
set_option linter.unusedSimpArgs false
set_option linter.unusedVariables false
set_option maxRecDepth 100000

/-- The letter of a piece. -/
def chB (x : Int) : UInt8 :=
  match x.toNat with
  | 1 => 75 | 2 => 81 | 3 => 82 | 4 => 66 | 5 => 78 | 6 => 80 | 7 => 107 | 8 => 113 | 9 => 114 | 10 => 98 | 11 => 110 | 12 => 112 | _ => 0
def pcB (c : UInt8) : Int :=
  match c.toNat with
  | 75 => 1 | 81 => 2 | 82 => 3 | 66 => 4 | 78 => 5 | 80 => 6 | 107 => 7 | 113 => 8 | 114 => 9 | 98 => 10 | 110 => 11 | 112 => 12 | _ => 0
theorem pcB_chB : ∀ n < 13, 0 < n → pcB (chB ((n : Nat) : Int)) = (n : Int) ∧ chB ((n : Nat) : Int) ≠ 47 ∧ ¬ (49 ≤ (chB ((n : Nat) : Int)).toNat ∧ (chB ((n : Nat) : Int)).toNat ≤ 56) := by decide
/-- The digit of a number of squares. -/
def dgB (e : Nat) : UInt8 := UInt8.ofNat (48 + e)
theorem dgB_says : ∀ e < 9, 0 < e → (dgB e).toNat = 48 + e ∧ dgB e ≠ 47 := by decide
/-- What is written, and how many squares without a piece wait. -/
def putN (b : List UInt8) (e : Nat) : List UInt8 := if 0 < e then b ++ [dgB e] else b
def txStep (st : List UInt8 × Nat) (x : Int) : List UInt8 × Nat := if x = 0 then (st.1, st.2 + 1) else (putN st.1 st.2 ++ [chB x], 0)
/-- Behind n files of the rank r. -/
def txRow (p : List Int) (r : Nat) (st : List UInt8 × Nat) : Nat → List UInt8 × Nat
  | 0 => st
  | n + 1 => txStep (txRow p r st n) (p.getD (8 * r + n) 0)
/-- Behind k ranks, from the eighth one on. -/
def txHead (b : List UInt8) (k : Nat) : List UInt8 := if 0 < k then b ++ [47] else b
def txRank (p : List Int) : Nat → List UInt8
  | 0 => []
  | k + 1 => putN (txRow p (7 - k) (txHead (txRank p k) k, 0) 8).1 (txRow p (7 - k) (txHead (txRank p k) k, 0) 8).2
def txBoard (p : List Int) : List UInt8 := txRank p 8

theorem txRow_wait (p : List Int) (r : Nat) (b : List UInt8) : ∀ n, (txRow p r (b, 0) n).2 ≤ n
  | 0 => by simp [txRow]
  | n + 1 => by
    have := txRow_wait p r b n
    rw [txRow, txStep]
    split
    · simp; omega
    · simp
theorem putN_size (b : List UInt8) (e : Nat) : (putN b e).length ≤ b.length + 1 := by unfold putN; split <;> simp
theorem txRow_size (p : List Int) (r : Nat) (b : List UInt8) : ∀ n, (txRow p r (b, 0) n).1.length + (if 0 < (txRow p r (b, 0) n).2 then 1 else 0) ≤ b.length + n
  | 0 => by simp [txRow]
  | n + 1 => by
    have ih := txRow_size p r b n
    rw [txRow, txStep]
    by_cases h : p.getD (8 * r + n) 0 = 0
    · rw [if_pos h]
      simp only
      split <;> split at ih <;> omega
    · rw [if_neg h]
      simp only [List.length_append, List.length_singleton]
      unfold putN
      split
      · rename_i q; rw [if_pos q] at ih; simp; omega
      · rename_i q; rw [if_neg q] at ih; simp; omega
theorem txRank_size (p : List Int) : ∀ k, (txRank p k).length ≤ 9 * k
  | 0 => by simp [txRank]
  | k + 1 => by
    have ih := txRank_size p k
    have h := txRow_size p (7 - k) (txHead (txRank p k) k) 8
    have h2 : (txHead (txRank p k) k).length ≤ (txRank p k).length + 1 := by unfold txHead; split <;> simp
    rw [txRank, putN]
    split
    · rename_i q; rw [if_pos q] at h; simp; omega
    · rename_i q; rw [if_neg q] at h; omega
/-- The text read back: the squares from a8 on. -/
def txBack : List UInt8 → List Int
  | [] => []
  | c :: l => if c = 47 then txBack l else if 49 ≤ c.toNat ∧ c.toNat ≤ 56 then List.replicate (c.toNat - 48) 0 ++ txBack l else pcB c :: txBack l
theorem txBack_append : ∀ a b, txBack (a ++ b) = txBack a ++ txBack b
  | [], b => by simp [txBack]
  | c :: l, b => by
    have ih := txBack_append l b
    simp only [List.cons_append, txBack, ih]
    split
    · rfl
    · split <;> simp
theorem txBack_put (b : List UInt8) (e : Nat) (h : e ≤ 8) : txBack (putN b e) = txBack b ++ List.replicate e 0 := by
  unfold putN
  by_cases h0 : 0 < e
  · obtain ⟨h1, h2⟩ := dgB_says e (by omega) h0
    rw [if_pos h0, txBack_append]
    congr 1
    rw [txBack, if_neg h2, if_pos (by omega), h1, show 48 + e - 48 = e by omega]
    simp [txBack]
  · have : e = 0 := by omega
    subst this
    simp
theorem txBack_one (x : Int) (h0 : 0 < x) (h1 : x ≤ 12) : txBack [chB x] = [x] := by
  obtain ⟨n, rfl⟩ := Int.eq_ofNat_of_zero_le (Int.le_of_lt h0)
  obtain ⟨a, b, c⟩ := pcB_chB n (by omega) (by omega)
  rw [txBack, if_neg b, if_neg c, a]
  simp [txBack]
def rowL (p : List Int) (r n : Nat) : List Int := (List.range n).map fun i => p.getD (8 * r + i) 0
theorem rowL_succ (p : List Int) (r n : Nat) : rowL p r (n + 1) = rowL p r n ++ [p.getD (8 * r + n) 0] := by simp [rowL, List.range_succ]
theorem txBack_row (p : List Int) (r : Nat) (b : List UInt8) (hp : ∀ i, i < 64 → 0 ≤ p.getD i 0 ∧ p.getD i 0 ≤ 12) (hr : r < 8) : ∀ n, n ≤ 8 → txBack (txRow p r (b, 0) n).1 ++ List.replicate (txRow p r (b, 0) n).2 0 = txBack b ++ rowL p r n
  | 0, _ => by simp [txRow, rowL]
  | n + 1, h => by
    have ih := txBack_row p r b hp hr n (by omega)
    have hw := txRow_wait p r b n
    have hx := hp (8 * r + n) (by omega)
    rw [rowL_succ, ← List.append_assoc, ← ih, txRow, txStep]
    by_cases h0 : p.getD (8 * r + n) 0 = 0
    · rw [if_pos h0, h0]
      simp [List.replicate_succ']
    · rw [if_neg h0]
      simp only [txBack_append, List.replicate_zero, List.append_nil]
      rw [txBack_put _ _ (by omega), txBack_one _ (by omega) hx.2]
def ranksL (p : List Int) : Nat → List Int
  | 0 => []
  | k + 1 => ranksL p k ++ rowL p (7 - k) 8
theorem txBack_head (b : List UInt8) (k : Nat) : txBack (txHead b k) = txBack b := by
  unfold txHead
  split
  · rw [txBack_append]; simp [txBack]
  · rfl
theorem txBack_rank (p : List Int) (hp : ∀ i, i < 64 → 0 ≤ p.getD i 0 ∧ p.getD i 0 ≤ 12) : ∀ k, k ≤ 8 → txBack (txRank p k) = ranksL p k
  | 0, _ => by simp [txRank, txBack, ranksL]
  | k + 1, h => by
    have ih := txBack_rank p hp k (by omega)
    have hw := txRow_wait p (7 - k) (txHead (txRank p k) k) 8
    rw [txRank, txBack_put _ _ hw, txBack_row p (7 - k) _ hp (by omega) 8 (by omega), txBack_head, ih, ranksL]
theorem rowL_len (p : List Int) (r n : Nat) : (rowL p r n).length = n := by simp [rowL]
theorem ranksL_inj (p q : List Int) : ∀ k, ranksL p k = ranksL q k → ∀ j, j < k → rowL p (7 - j) 8 = rowL q (7 - j) 8
  | 0, _, j, hj => by omega
  | k + 1, h, j, hj => by
    rw [ranksL, ranksL] at h
    have h2 := List.append_inj' h (by rw [rowL_len, rowL_len])
    by_cases e : j = k
    · subst e; exact h2.2
    · exact ranksL_inj p q k h2.1 j (by omega)
theorem txBoard_inj (p q : List Int) (hp : ∀ i, i < 64 → 0 ≤ p.getD i 0 ∧ p.getD i 0 ≤ 12) (hq : ∀ i, i < 64 → 0 ≤ q.getD i 0 ∧ q.getD i 0 ≤ 12) (h : txBoard p = txBoard q) : ∀ i, i < 64 → p.getD i 0 = q.getD i 0 := by
  intro i hi
  have e : ranksL p 8 = ranksL q 8 := by rw [← txBack_rank p hp 8 (by omega), ← txBack_rank q hq 8 (by omega)]; exact congrArg txBack h
  have hr := ranksL_inj p q 8 e (7 - i / 8) (by omega)
  rw [show 7 - (7 - i / 8) = i / 8 by omega] at hr
  have := congrArg (fun l => l.getD (i % 8) 0) hr
  simpa [rowL, List.getD, show i % 8 < 8 by omega, show 8 * (i / 8) + i % 8 = i by omega] using this
theorem txRow_congr (p q : List Int) (r : Nat) (hr : r < 8) (st : List UInt8 × Nat) (h : ∀ i, i < 64 → p.getD i 0 = q.getD i 0) : ∀ n, n ≤ 8 → txRow p r st n = txRow q r st n
  | 0, _ => rfl
  | n + 1, hn => by rw [txRow, txRow, txRow_congr p q r hr st h n (by omega), h _ (by omega)]
theorem txRank_congr (p q : List Int) (h : ∀ i, i < 64 → p.getD i 0 = q.getD i 0) : ∀ k, k ≤ 8 → txRank p k = txRank q k
  | 0, _ => rfl
  | k + 1, hk => by rw [txRank, txRank, txRank_congr p q h k (by omega), txRow_congr p q (7 - k) (by omega) _ h 8 (by omega)]
end Go.Proofs.YtnpklkenjaambaaDoor
