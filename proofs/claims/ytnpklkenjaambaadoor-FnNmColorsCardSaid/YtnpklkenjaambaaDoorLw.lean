/- The small letter of a text is the letter w (b) just if the text is w or W (b or B). No condition. -/
import Derived.Shelf.Strings.CaseAny
import Derived.Lib.MapLaws
import Derived.Lib.TrimU
namespace Go.Proofs.YtnpklkenjaambaaDoor
open Go Go.Lib
set_option maxRecDepth 1000000
set_option linter.unusedVariables false
set_option linter.unusedSimpArgs false

/-- From a rune on that is no byte of ASCII the small letter is neither of both. -/
def rowFar (x : CaseRow) : Bool :=
  decide (x.1 < 128) || decide (1114111 < x.delta 1) || decide (119 < (x.1 : Int) + x.delta 1) || (decide (x.1 = x.2.1) && decide ((x.1 : Int) + x.delta 1 ≠ 98) && decide ((x.1 : Int) + x.delta 1 ≠ 119))
theorem rowsFar : caseT.all rowFar = true := by decide
theorem rowsSmall : caseT.all (fun x => decide (128 ≤ x.1) || decide (x.2.1 < 128)) = true := by decide
theorem caseA_in (i : Nat) (hi : i < caseA.size) : caseA.getD i (0, 0, 0, 0, 0) ∈ caseT := by
  unfold caseA at hi ⊢
  simp only [List.size_toArray] at hi
  simp [Array.getD, hi]
theorem low_far (r : Nat) (hr : 128 ≤ r) : toLowerU r ≠ 98 ∧ toLowerU r ≠ 119 := by
  unfold toLowerU
  rw [if_neg (by omega)]
  unfold toR lookupGo
  cases hi : lookupIdx caseA r (caseA.size + 1) 0 caseA.size with
  | none => simp only [Option.map_none]; omega
  | some i =>
    simp only [Option.map_some]
    obtain ⟨hil, hlo, hhi⟩ := lookupIdx_some caseA r _ _ _ i hi
    have hm := caseA_in i hil
    have h1 := List.all_eq_true.1 rowsFar _ hm
    have h2 := List.all_eq_true.1 rowsSmall _ hm
    generalize caseA.getD i (0, 0, 0, 0, 0) = x at *
    simp only [rowFar, Bool.or_eq_true, Bool.and_eq_true, decide_eq_true_eq] at h1 h2
    unfold convertR
    split <;> omega
theorem enc_one (y : Int) (hy : 0 ≤ y) (b : UInt8) (rest : List UInt8) (h : encodeRune y ++ rest = [b]) : y = b.toNat ∧ rest = [] := by
  unfold encodeRune encodeRuneZ at h
  have hb := b.toNat_lt
  repeat' split at h
  all_goals simp at h
  rename_i hc
  obtain ⟨h1, h2⟩ := h
  refine ⟨?_, h2⟩
  have := congrArg UInt8.toNat h1
  simp at this
  omega
theorem mapD_nil' (f : Int → Int) : mapD f [] = [] := rfl
theorem mapD_none (l : List UInt8) (h : mapD toLowerU l = []) : l = [] := by
  by_cases hl : l = []
  · exact hl
  · exfalso
    rw [mapD_step _ l hl, if_pos (toLowerU_range _ (decodeL_rune l)).1] at h
    have h0 : encodeRune (toLowerU ((decodeL l).1 : Nat)) = [] := (List.append_eq_nil_iff.1 h).1
    unfold encodeRune encodeRuneZ at h0
    repeat' split at h0
    all_goals simp at h0
theorem decode_far (b : UInt8) (t : List UInt8) (h : ¬ b.toNat < 128) : 128 ≤ (decodeL (b :: t)).1 := by
  rw [decodeL_N]
  rcases decodeN_shape (b :: t).length ((b :: t).getD 0 0).toNat ((b :: t).getD 1 0).toNat ((b :: t).getD 2 0).toNat ((b :: t).getD 3 0).toNat with ⟨c, e⟩ | ⟨c1, c2, c3, cv, e⟩ | ⟨c1, c2, c3, c4, cv, cs, e⟩ | ⟨c1, c2, c3, c4, c5, cv, cw, e⟩ | e
  · exact absurd c (by simpa using h)
  all_goals (rw [e]; dsimp only; omega)
/-- The small letter is this one just if the text is this letter or the capital. -/
theorem low_is (l : List UInt8) (x X : UInt8) (hx : x.toNat = 98 ∨ x.toNat = 119) (hX : X.toNat + 32 = x.toNat) : toLowerD l = [x] ↔ l = [x] ∨ l = [X] := by
  have hxb := x.toNat_lt
  constructor
  · intro h
    match l with
    | [] => exact absurd h (by simp [toLowerD, mapD_nil'])
    | b :: t =>
      unfold toLowerD at h
      rw [mapD_step _ (b :: t) (by simp), if_pos (toLowerU_range _ (decodeL_rune _)).1] at h
      obtain ⟨h1, h2⟩ := enc_one _ (toLowerU_range _ (decodeL_rune _)).1 _ _ h
      have h3 := mapD_none _ h2
      by_cases hb : b.toNat < 128
      · rw [decodeL_ascii b t hb] at h1 h3
        simp only [List.drop_succ_cons, List.drop_zero] at h3
        subst h3
        unfold toLowerU at h1
        rw [if_pos (by omega)] at h1
        split at h1
        · right
          have : b.toNat = X.toNat := by omega
          rw [UInt8.toNat_inj.1 this]
        · left
          have : b.toNat = x.toNat := by omega
          rw [UInt8.toNat_inj.1 this]
      · exfalso
        have h4 := low_far _ (decode_far b t hb)
        omega
  · have hb : ∀ c : UInt8, c = x ∨ c = X → toLowerD [c] = [x] := by
      intro c hc
      have hc8 : c.toNat < 128 := by rcases hc with rfl | rfl <;> omega
      rw [toLowerD_ascii [c] (by simp; omega)]
      rcases hc with rfl | rfl
      · rcases hx with h | h
        · have e2 : c = 98 := UInt8.toNat_inj.1 (by simp; omega)
          subst e2
          decide
        · have e2 : c = 119 := UInt8.toNat_inj.1 (by simp; omega)
          subst e2
          decide
      · rcases hx with h | h
        · have e1 : c = 66 := UInt8.toNat_inj.1 (by simp; omega)
          have e2 : x = 98 := UInt8.toNat_inj.1 (by simp; omega)
          subst e1 e2
          decide
        · have e1 : c = 87 := UInt8.toNat_inj.1 (by simp; omega)
          have e2 : x = 119 := UInt8.toNat_inj.1 (by simp; omega)
          subst e1 e2
          decide
    rintro (rfl | rfl)
    · exact hb x (Or.inl rfl)
    · exact hb X (Or.inr rfl)
end Go.Proofs.YtnpklkenjaambaaDoor
