/- The one king: found from the front and from the back. The plain law. -/
import Derived.Test.YtplkcmlpomjojaaDoorPl
import Derived.Test.YtplkcmlpomjojaaDoorRt
namespace Go.Proofs.YtplkcmlpomjojaaDoor
open Go Go.RowKit
theorem cnt_zero (p : List Int) (k : Int) : ∀ n, cnt p k n = 0 → ∀ i, i < n → p.getD i 0 ≠ k
  | 0, _, i, hi => by omega
  | n + 1, h, i, hi => by
    by_cases e : p.getD n 0 = k
    · rw [cnt_yes p k n e] at h; omega
    · rw [cnt_no p k n e] at h
      by_cases q : i = n
      · subst q; exact e
      · exact cnt_zero p k n h i (by omega)
theorem cnt_one (p : List Int) (k : Int) : ∀ n, cnt p k n = 1 → ∀ i j, i < n → j < n → p.getD i 0 = k → p.getD j 0 = k → i = j
  | 0, h, _, _, _, _, _, _ => by simp [cnt] at h
  | n + 1, h, i, j, hi, hj, a, b => by
    by_cases e : p.getD n 0 = k
    · rw [cnt_yes p k n e] at h
      have hz := cnt_zero p k n (by omega)
      by_cases q : i = n
      · by_cases r : j = n
        · omega
        · exact absurd b (hz j (by omega))
      · exact absurd a (hz i (by omega))
    · rw [cnt_no p k n e] at h
      refine cnt_one p k n h i j ?_ ?_ a b
      · by_cases q : i = n
        · subst q; exact absurd a e
        · omega
      · by_cases q : j = n
        · subst q; exact absurd b e
        · omega
theorem lastK_spec (p : List Int) (k : Int) : ∀ n, 0 < cnt p k n → ∃ j : Nat, lastK p k n = (j : Int) ∧ j < n ∧ p.getD j 0 = k
  | 0, h => by simp [cnt] at h
  | n + 1, h => by
    by_cases e : p.getD n 0 = k
    · exact ⟨n, by simp only [lastK]; rw [if_pos e], by omega, e⟩
    · rw [cnt_no p k n e] at h
      obtain ⟨j, h1, h2, h3⟩ := lastK_spec p k n h
      exact ⟨j, by simp only [lastK]; rw [if_neg e]; exact h1, by omega, h3⟩
theorem firstK_spec (p : List Int) (k : Int) : ∀ n i, 0 ≤ firstK p k i n → ∃ j : Nat, firstK p k i n = (j : Int) ∧ i ≤ j ∧ j < i + n ∧ p.getD j 0 = k
  | 0, i, h => by simp [firstK] at h
  | n + 1, i, h => by
    rw [firstK] at h ⊢
    by_cases e : p.getD i 0 = k
    · rw [if_pos e]; exact ⟨i, rfl, by omega, by omega, e⟩
    · rw [if_neg e] at h ⊢
      obtain ⟨j, h1, h2, h3, h4⟩ := firstK_spec p k n (i + 1) h
      exact ⟨j, h1, by omega, by omega, h4⟩
/-- The one king stands where both find it. -/
theorem king_both (p : List Int) (c : Int) (h1 : cnt p (1 + 6 * c) 64 = 1) : ∃ j : Nat, lastK p (1 + 6 * c) 64 = (j : Int) ∧ kingAt p c = (j : Int) ∧ j < 64 ∧ p.getD j 0 = 1 + 6 * c := by
  obtain ⟨j, a, b, d⟩ := lastK_spec p (1 + 6 * c) 64 (by omega)
  obtain ⟨i, e, f, g, h⟩ := firstK_spec p (1 + 6 * c) 64 0 (kingAt_some p c (by omega))
  obtain rfl := cnt_one p _ 64 h1 i j (by omega) b h d
  exact ⟨i, a, e, b, d⟩
end Go.Proofs.YtplkcmlpomjojaaDoor
