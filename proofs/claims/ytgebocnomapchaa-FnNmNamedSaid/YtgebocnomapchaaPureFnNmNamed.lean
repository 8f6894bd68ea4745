/- A text that names no square is read as a1, every other one as its square, for every text. No further condition. -/
import Derived.Test.YtgebocnomapchaaPFnNmNamedx1
namespace Go.Proofs.Ytgebocnomapchaa.Pure
open Go.RowKit Go.Proofs.Ytgebocnomapchaa.PFnNmNamed Go.Proofs.YtgebocnomapchaaW.PrintWords Go.Proofs.YtgebocnomapchaaW.PrintLast

theorem wrap_i8 (n : Int) : IntKind.i8.wrap n = (n + 128) % 256 - 128 := by
  simp [IntKind.wrap, IntKind.bits, IntKind.signed]
  split <;> omega

/-- What a text of two bytes that names a square is read as. -/
theorem named_yes (s : ByteArray) (h : (s.size : Int) = 2) (a : 97 ≤ bt s 0) (b : bt s 0 ≤ 104) (c : 49 ≤ bt s 1) (d : bt s 1 ≤ 56) :
    impl_SquareNamed.f s = some ((bt s 0 - 97) + 8 * (bt s 1 - 49)) := by
  unfold impl_SquareNamed.f chess_DoorSquareNamed.f chess_strToSquare.f chess_NewSquare.f
  rw [if_pos h, if_pos (by omega), if_neg (by omega), if_neg (by omega), if_pos (by omega), if_neg (by omega), if_neg (by omega)]
  simp only [Option.bind_some, wrap_i8]
  unfold wrap64
  congr 1
  omega

theorem named_no (s : ByteArray) (h : ¬ ((s.size : Int) = 2 ∧ 97 ≤ bt s 0 ∧ bt s 0 ≤ 104 ∧ 49 ≤ bt s 1 ∧ bt s 1 ≤ 56)) :
    impl_SquareNamed.f s = some 0 := by
  have e : chess_strToSquare.f s = some 0 := by
    unfold chess_strToSquare.f
    by_cases h0 : (s.size : Int) = 2
    · rw [if_pos h0, if_pos (by omega)]
      by_cases h1 : bt s 0 < 97
      · rw [if_pos h1]
      rw [if_neg h1]
      by_cases h2 : bt s 0 > 104
      · rw [if_pos h2]
      rw [if_neg h2, if_pos (by omega)]
      by_cases h3 : bt s 1 < 49
      · rw [if_pos h3]
      rw [if_neg h3]
      by_cases h4 : bt s 1 > 56
      · rw [if_pos h4]
      exact absurd ⟨h0, by omega, by omega, by omega, by omega⟩ h
    · rw [if_neg h0]
  unfold impl_SquareNamed.f chess_DoorSquareNamed.f
  rw [e]; simp [wrap64]

theorem named_h8 : impl_SquareNamed.f (⟨#[104, 56]⟩ : ByteArray) = some 63 := by decide +kernel

theorem j0_no (s : ByteArray) (h : ¬ ((s.size : Int) = 2 ∧ 97 ≤ bt s 0 ∧ bt s 0 ≤ 104 ∧ 49 ≤ bt s 1 ∧ bt s 1 ≤ 56)) :
    laws_FnNmNamed.j0 1 s 0 false = some true := by
  simp only [laws_FnNmNamed.j0]
  rw [if_neg (by decide), named_no s h, named_h8]; rfl

theorem FnNmNamed : laws_FnNmNamed.Pure := by
  intro s hs
  refine ⟨1, ?_⟩
  unfold laws_FnNmNamed.f
  by_cases g1 : (s.size : Int) > 2147483647
  · rw [if_pos g1]
  rw [if_neg g1]
  by_cases g2 : (s.size : Int) > 100
  · rw [if_pos g2]
  rw [if_neg g2]
  by_cases h0 : (s.size : Int) = 2
  · rw [if_pos h0, if_pos (by omega)]
    by_cases h1 : bt s 0 ≥ 97
    · rw [if_pos h1]
      by_cases h2 : bt s 0 ≤ 104
      · rw [if_pos h2, if_pos (by omega)]
        by_cases h3 : bt s 1 ≥ 49
        · rw [if_pos h3]
          by_cases h4 : bt s 1 ≤ 56
          · rw [decide_eq_true h4]
            simp only [laws_FnNmNamed.j0]
            rw [if_pos trivial, if_pos (by omega), if_pos (by omega), named_yes s h0 h1 h2 h3 h4, named_h8]
            simp only [Option.bind_some]
            rw [if_pos (by omega)]; rfl
          · rw [decide_eq_false h4]; exact j0_no s (fun h => h4 h.2.2.2.2)
        · rw [if_neg h3]; exact j0_no s (fun h => h3 h.2.2.2.1)
      · rw [if_neg h2]; exact j0_no s (fun h => h2 h.2.2.1)
    · rw [if_neg h1]; exact j0_no s (fun h => h1 h.2.1)
  · rw [if_neg h0]; exact j0_no s (fun h => h0 h.1)

end Go.Proofs.Ytgebocnomapchaa.Pure
