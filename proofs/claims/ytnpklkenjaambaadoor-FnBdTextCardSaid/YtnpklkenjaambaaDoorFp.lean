/- A board's text, rank by rank: what it is cut into at its strokes, and what each part says. The plain law: for every board of pieces from 0 to 12. -/
import Derived.Test.YtnpklkenjaambaaDoorFt
import Derived.Test.YtnpklkenjaambaaDoorTx
namespace Go.Proofs.YtnpklkenjaambaaDoor
open Go Go.RowKit
set_option maxHeartbeats 1000000
set_option linter.unusedSimpArgs false
set_option linter.unusedVariables false
set_option maxRecDepth 100000

theorem putN_base (b c : List UInt8) (e : Nat) : putN (b ++ c) e = b ++ putN c e := by unfold putN; split <;> simp
theorem txStep_base (b : List UInt8) (st : List UInt8 × Nat) (x : Int) : txStep (b ++ st.1, st.2) x = (b ++ (txStep st x).1, (txStep st x).2) := by
  unfold txStep
  split
  · rfl
  · simp [putN_base]
theorem txRow_base (p : List Int) (r : Nat) (b : List UInt8) : ∀ n, txRow p r (b, 0) n = (b ++ (txRow p r ([], 0) n).1, (txRow p r ([], 0) n).2)
  | 0 => by simp [txRow]
  | n + 1 => by rw [txRow, txRow_base p r b n, txStep_base, txRow]
/-- The text of one rank. -/
def rkT (p : List Int) (r : Nat) : List UInt8 := putN (txRow p r ([], 0) 8).1 (txRow p r ([], 0) 8).2
theorem txRank_rk (p : List Int) (k : Nat) : txRank p (k + 1) = txHead (txRank p k) k ++ rkT p (7 - k) := by
  rw [txRank, txRow_base]
  exact putN_base _ _ _
theorem txBack_rk (p : List Int) (r : Nat) (hp : ∀ i, i < 64 → 0 ≤ p.getD i 0 ∧ p.getD i 0 ≤ 12) (hr : r < 8) : txBack (rkT p r) = rowL p r 8 := by
  have h1 := txRow_wait p r [] 8
  have h2 := txBack_row p r [] hp hr 8 (by omega)
  unfold rkT
  rw [txBack_put _ _ h1, h2]
  rfl
theorem rkT_size (p : List Int) (r : Nat) : (rkT p r).length ≤ 8 := by
  have h := txRow_size p r [] 8
  unfold rkT putN
  split
  · rename_i q; rw [if_pos q] at h; simp at h ⊢; omega
  · rename_i q; rw [if_neg q] at h; simp at h ⊢; omega
/-- A byte that stands in a rank's text: a digit from 1 to 8, or a letter of a piece. -/
def okB (c : UInt8) : Prop := c ≠ 47 ∧ ((49 ≤ c.toNat ∧ c.toNat ≤ 56) ∨ (¬ (49 ≤ c.toNat ∧ c.toNat ≤ 56) ∧ 1 ≤ pcB c ∧ pcB c ≤ 12))
theorem okB_ch (x : Int) (h0 : 0 < x) (h1 : x ≤ 12) : okB (chB x) := by
  obtain ⟨n, rfl⟩ := Int.eq_ofNat_of_zero_le (Int.le_of_lt h0)
  obtain ⟨a, b, c⟩ := pcB_chB n (by omega) (by omega)
  exact ⟨b, Or.inr ⟨c, by omega, by omega⟩⟩
theorem okB_dg (e : Nat) (h0 : 0 < e) (h8 : e ≤ 8) : okB (dgB e) := by
  obtain ⟨a, b⟩ := dgB_says e (by omega) h0
  exact ⟨b, Or.inl (by omega)⟩
theorem okB_put (b : List UInt8) (e : Nat) (h8 : e ≤ 8) (hb : ∀ c ∈ b, okB c) : ∀ c ∈ putN b e, okB c := by
  unfold putN
  split
  · intro c hc
    rcases List.mem_append.1 hc with h | h
    · exact hb c h
    · rw [List.mem_singleton] at h
      subst h
      exact okB_dg e (by omega) h8
  · exact hb
theorem okB_row (p : List Int) (r : Nat) (hp : ∀ i, i < 64 → 0 ≤ p.getD i 0 ∧ p.getD i 0 ≤ 12) (hr : r < 8) : ∀ n, n ≤ 8 → ∀ c ∈ (txRow p r ([], 0) n).1, okB c
  | 0, _ => by simp [txRow]
  | n + 1, h => by
    have ih := okB_row p r hp hr n (by omega)
    have hw := txRow_wait p r [] n
    have hx := hp (8 * r + n) (by omega)
    rw [txRow, txStep]
    split
    · exact ih
    · intro c hc
      rcases List.mem_append.1 hc with q | q
      · exact okB_put _ _ (by omega) ih c q
      · rw [List.mem_singleton] at q
        subst q
        exact okB_ch _ (by omega) hx.2
theorem okB_rk (p : List Int) (r : Nat) (hp : ∀ i, i < 64 → 0 ≤ p.getD i 0 ∧ p.getD i 0 ≤ 12) (hr : r < 8) : ∀ c ∈ rkT p r, okB c :=
  okB_put _ _ (txRow_wait p r [] 8) (okB_row p r hp hr 8 (by omega))
theorem rkT_ne (p : List Int) (r : Nat) (hp : ∀ i, i < 64 → 0 ≤ p.getD i 0 ∧ p.getD i 0 ≤ 12) (hr : r < 8) : 0 < (rkT p r).length := by
  have h := txBack_rk p r hp hr
  cases e : rkT p r with
  | nil =>
    rw [e] at h
    have := congrArg List.length h
    simp [txBack, rowL] at this
  | cons a l => simp

/-! ### cut at the strokes -/
def spl (st : List (List UInt8) × List UInt8) (c : UInt8) : List (List UInt8) × List UInt8 := if c = 47 then (st.1 ++ [st.2], []) else (st.1, st.2 ++ [c])
def splL (l : List UInt8) : List (List UInt8) × List UInt8 := l.foldl spl ([], [])
theorem splL_snoc (l : List UInt8) (c : UInt8) : splL (l ++ [c]) = spl (splL l) c := by simp [splL]
theorem spl_plain : ∀ (t : List UInt8) (st : List (List UInt8) × List UInt8), (∀ c ∈ t, c ≠ 47) → t.foldl spl st = (st.1, st.2 ++ t)
  | [], st, _ => by simp
  | c :: t, st, h => by
    rw [List.foldl_cons, spl_plain t _ (fun x hx => h x (List.mem_cons_of_mem _ hx))]
    unfold spl
    rw [if_neg (h c List.mem_cons_self)]
    simp
theorem splL_rank (p : List Int) (hp : ∀ i, i < 64 → 0 ≤ p.getD i 0 ∧ p.getD i 0 ≤ 12) : ∀ k, k < 8 → splL (txRank p (k + 1)) = ((List.range k).map (fun j => rkT p (7 - j)), rkT p (7 - k))
  | 0, _ => by
    rw [txRank_rk]
    unfold splL
    rw [show txHead (txRank p 0) 0 = [] from rfl, List.nil_append, spl_plain _ _ (fun c hc => (okB_rk p 7 hp (by omega) c hc).1)]
    simp
  | k + 1, h => by
    have ih := splL_rank p hp k (by omega)
    rw [txRank_rk]
    unfold splL at ih ⊢
    rw [show txHead (txRank p (k + 1)) (k + 1) = txRank p (k + 1) ++ [47] from rfl, List.foldl_append, List.foldl_append, ih, spl_plain _ _ (fun c hc => (okB_rk p (7 - (k + 1)) hp (by omega) c hc).1)]
    simp [spl, List.range_succ]
theorem spl_more : ∀ (t : List UInt8) (st : List (List UInt8) × List UInt8), st.1.length ≤ (t.foldl spl st).1.length
  | [], _ => Nat.le_refl _
  | c :: t, st => by
    rw [List.foldl_cons]
    refine Nat.le_trans ?_ (spl_more t _)
    unfold spl
    split <;> simp
theorem splL_le (l : List UInt8) (i : Nat) : (splL (l.take i)).1.length ≤ (splL l).1.length := by
  conv => rhs; rw [← List.take_append_drop i l]
  unfold splL
  rw [List.foldl_append]
  exact spl_more _ _
/-- What is not yet cut off is the end of what was read. -/
theorem splL_end (l : List UInt8) : ∃ a, l = a ++ (splL l).2 ∧ a.length + (splL l).2.length = l.length := by
  have : ∀ n, n ≤ l.length → ∃ a, l.take n = a ++ (splL (l.take n)).2 := by
    intro n
    induction n with
    | zero => intro _; exact ⟨[], by simp [splL]⟩
    | succ n ih =>
      intro h
      obtain ⟨a, ha⟩ := ih (by omega)
      rw [List.take_succ_eq_append_getElem (by omega), splL_snoc]
      unfold spl
      split
      · exact ⟨l.take n ++ [l[n]], by simp⟩
      · refine ⟨a, ?_⟩
        conv => lhs; rw [ha]
        simp
  obtain ⟨a, ha⟩ := this l.length (Nat.le_refl _)
  rw [List.take_length] at ha
  exact ⟨a, ha, by conv => rhs; rw [ha]
                   simp⟩
theorem splL_le_len (l : List UInt8) : (splL l).2.length ≤ l.length := by obtain ⟨a, _, h⟩ := splL_end l; omega
/-- The bytes from the last stroke on. -/
theorem splL_cut (T : List UInt8) (i : Nat) (hi : i ≤ T.length) : ((T.take i).drop (i - (splL (T.take i)).2.length)) = (splL (T.take i)).2 := by
  obtain ⟨a, ha, hl⟩ := splL_end (T.take i)
  have hlen : (T.take i).length = i := by simp; omega
  rw [hlen] at hl
  rw [show i - (splL (T.take i)).2.length = a.length by omega]
  conv => lhs; rw [ha]
  simp
theorem splL_step (T : List UInt8) (i : Nat) (hi : i < T.length) : splL (T.take (i + 1)) = spl (splL (T.take i)) (T.getD i 0) := by
  rw [List.take_succ_eq_append_getElem hi, splL_snoc]
  simp [hi]
/-- Eight ranks: seven strokes. -/
def doneL (p : List Int) : List (List UInt8) := (List.range 7).map fun j => rkT p (7 - j)
theorem splL_board (p : List Int) (hp : ∀ i, i < 64 → 0 ≤ p.getD i 0 ∧ p.getD i 0 ≤ 12) : splL (txBoard p) = (doneL p, rkT p 0) := splL_rank p hp 7 (by omega)
theorem txBoard_size (p : List Int) : (txBoard p).length ≤ 72 := txRank_size p 8

/-! ### what a rank's text says -/
/-- The squares that the first bytes speak of. -/
theorem txBack_take (T : List UInt8) (i : Nat) (hi : i < T.length) : txBack (T.take (i + 1)) = txBack (T.take i) ++ txBack [T.getD i 0] := by
  rw [List.take_succ_eq_append_getElem hi, txBack_append]
  simp [hi]
theorem txBack_le (T : List UInt8) (i : Nat) : (txBack (T.take i)).length ≤ (txBack T).length := by
  conv => rhs; rw [← List.take_append_drop i T, txBack_append]
  simp
theorem txBack_digit (c : UInt8) (h : 49 ≤ c.toNat ∧ c.toNat ≤ 56) (h47 : c ≠ 47) : txBack [c] = List.replicate (c.toNat - 48) 0 := by
  rw [txBack, if_neg h47, if_pos h]
  simp [txBack]
theorem txBack_letter (c : UInt8) (h : ¬ (49 ≤ c.toNat ∧ c.toNat ≤ 56)) (h47 : c ≠ 47) : txBack [c] = [pcB c] := by
  rw [txBack, if_neg h47, if_neg h]
  simp [txBack]
end Go.Proofs.YtnpklkenjaambaaDoor
