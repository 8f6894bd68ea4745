/- The plain law of moves: the position behind a move of squares is one of pieces; the moves of spec.Pseudo are moves of squares. For every position of pieces from 0 to 12. -/
import Derived.Test.YtplkcmlpomjojaaDoorMe
import Derived.Test.YtplkcmlpomjojaaDoorPs
namespace Go.Proofs.YtplkcmlpomjojaaDoor
open Go Go.RowKit
set_option maxHeartbeats 4000000
set_option linter.unusedSimpArgs false
set_option linter.unusedVariables false
set_option maxRecDepth 100000

theorem getD_set (l : List Int) (i j : Nat) (z : Int) : (l.set i z).getD j 0 = if i = j ∧ j < l.length then z else l.getD j 0 := by
  simp only [List.getD_eq_getElem?_getD, List.getElem?_set]
  by_cases h : i = j
  · subst h
    by_cases hl : i < l.length
    · simp [hl]
    · simp [hl]
  · simp [h]
theorem set_far (l : List Int) (i j : Nat) (z : Int) (h : i ≠ j) : (l.set i z).getD j 0 = l.getD j 0 := by
  rw [getD_set, if_neg (fun e => h e.1)]
theorem mdA_far (p : List Int) (m : Mv) (hm : MvOk m) (j : Nat) (hj : 64 ≤ j) : (mdA p m).getD j 0 = p.getD j 0 := by
  unfold mdA
  by_cases h : tkIs p m = true
  · rw [if_pos h]
    have := tk_range p m hm h
    exact set_far _ _ _ _ (by omega)
  · rw [if_neg h]
theorem mdD_far (p : List Int) (m : Mv) (hm : MvOk m) (j : Nat) (hj : 64 ≤ j) : (mdD p m).getD j 0 = p.getD j 0 := by
  have hA := mdA_far p m hm j hj
  obtain ⟨f0, f1, t0, t1, p0, p1⟩ := hm
  have hB : (mdB p m).getD j 0 = p.getD j 0 := by
    unfold mdB
    rw [set_far _ _ _ _ (by omega), set_far _ _ _ _ (by omega), hA]
  have hC : (mdC p m).getD j 0 = p.getD j 0 := by
    unfold mdC
    split
    · exact hB
    · rw [set_far _ _ _ _ (by omega), hB]
  unfold mdD
  by_cases h : castM p m = true
  · rw [if_pos h]
    have hc : cornerM m ≤ 63 := by unfold cornerM; split <;> omega
    rw [set_far _ _ _ _ (by omega), set_far _ _ _ _ (by omega), hC]
  · rw [if_neg h, hC]
theorem mdF_far (p : List Int) (m : Mv) (hm : MvOk m) (j : Nat) (hj : 67 ≤ j) : (mdF p m).getD j 0 = p.getD j 0 := by
  have hD := mdD_far p m hm j (by omega)
  have hE : (mdE p m).getD j 0 = p.getD j 0 := by
    unfold mdE
    rw [set_far _ _ _ _ (by omega), set_far _ _ _ _ (by omega), hD]
  unfold mdF
  split
  · rw [set_far _ _ _ _ (by omega), hE]
  · exact hE
theorem mdH_far (p : List Int) (m : Mv) (hm : MvOk m) : (mdH p m).getD 68 0 = p.getD 68 0 := by
  have hG : (mdG p m).getD 68 0 = p.getD 68 0 := by
    unfold mdG
    rw [set_far _ _ _ _ (by omega), mdF_far p m hm 68 (by omega)]
  unfold mdH
  split
  · rw [set_far _ _ _ _ (by omega), hG]
  · exact hG
/-- A list whose first 64 numbers are pieces. -/
def Pcs (l : List Int) : Prop := ∀ s : Nat, s < 64 → 0 ≤ l.getD s 0 ∧ l.getD s 0 ≤ 12
theorem Pcs.set {l : List Int} (h : Pcs l) (i : Nat) (z : Int) (hz : i < 64 → 0 ≤ z ∧ z ≤ 12) : Pcs (l.set i z) := fun s hs => by
  rw [getD_set]
  by_cases c : i = s ∧ s < l.length
  · rw [if_pos c]; exact hz (by omega)
  · rw [if_neg c]; exact h s hs
theorem madeB_pos (p : List Int) (hp : Pos p) (m : Mv) (hm : MvOk m) (ht0 : 0 ≤ p.getD 64 0) (ht1 : p.getD 64 0 ≤ 1) : Pos (madeB p m) := by
  have h0 : Pcs p := fun s hs => ⟨hp.lo s hs, hp.hi s hs⟩
  obtain ⟨f0, f1, t0, t1, p0, p1⟩ := hm
  have hx : 0 ≤ pcAt p m.fr ∧ pcAt p m.fr ≤ 12 := h0 m.fr.toNat (by omega)
  have hA : Pcs (mdA p m) := by
    unfold mdA
    split
    · exact h0.set _ _ (fun _ => by omega)
    · exact h0
  have hB : Pcs (mdB p m) := (hA.set _ 0 (fun _ => by omega)).set _ _ (fun _ => hx)
  have hC : Pcs (mdC p m) := by
    unfold mdC
    split
    · exact hB
    · exact hB.set _ _ (fun _ => by omega)
  have hD : Pcs (mdD p m) := by
    unfold mdD
    split
    · exact (hC.set _ 0 (fun _ => by omega)).set _ _ (fun _ => by omega)
    · exact hC
  have hE : Pcs (mdE p m) := (hD.set 65 _ (fun h => absurd h (by decide))).set 66 _ (fun h => absurd h (by decide))
  have hF : Pcs (mdF p m) := by
    unfold mdF
    split
    · exact hE.set 66 _ (fun h => absurd h (by decide))
    · exact hE
  have hG : Pcs (mdG p m) := hF.set 67 _ (fun h => absurd h (by decide))
  have hH : Pcs (mdH p m) := by
    unfold mdH
    split
    · exact hG.set 67 _ (fun h => absurd h (by decide))
    · exact hG
  have hZ : Pcs (madeB p m) := (hH.set 68 _ (fun h => absurd h (by decide))).set 64 _ (fun h => absurd h (by decide))
  exact ⟨madeB_len p m hp.len, fun s hs => (hZ s hs).1, fun s hs => (hZ s hs).2⟩

theorem promos_ok (f tq : Int) (f0 : 0 ≤ f) (f1 : f ≤ 63) (t0 : 0 ≤ tq) (t1 : tq ≤ 63) : ∀ n, n ≤ 4 → ∀ m ∈ promos f tq n, MvOk m
  | 0, _, m, h => by cases h
  | n + 1, hn, m, h => by
    rw [promos, List.mem_append] at h
    rcases h with h | h
    · exact promos_ok f tq f0 f1 t0 t1 n (by omega) m h
    · simp only [List.mem_cons, List.not_mem_nil, or_false] at h
      subst h
      exact ⟨f0, f1, t0, t1, by show (0 : Int) ≤ (n : Int) + 2; omega, by show (n : Int) + 2 ≤ 6; omega⟩
theorem pmOf_ok (p : List Int) (f tq : Int) (f0 : 0 ≤ f) (f1 : f ≤ 63) (t0 : 0 ≤ tq) (t1 : tq ≤ 63) : ∀ m ∈ pmOf p f tq, MvOk m := by
  intro m h
  unfold pmOf at h
  split at h
  · cases h
  · split at h
    · simp only [List.mem_cons, List.not_mem_nil, or_false] at h
      subst h
      exact ⟨f0, f1, t0, t1, by show (0 : Int) ≤ 0; decide, by show (0 : Int) ≤ 6; decide⟩
    · exact promos_ok f tq f0 f1 t0 t1 4 (by omega) m h
theorem pmTo_ok (p : List Int) (f : Int) (f0 : 0 ≤ f) (f1 : f ≤ 63) (L : List Int) (hL : ∀ t ∈ L, 0 ≤ t ∧ t ≤ 63) : ∀ n, n ≤ L.length → ∀ m ∈ pmTo p f L n, MvOk m
  | 0, _, m, h => by cases h
  | n + 1, hn, m, h => by
    rw [pmTo, List.mem_append] at h
    rcases h with h | h
    · exact pmTo_ok p f f0 f1 L hL n (by omega) m h
    · obtain ⟨g0, g1⟩ := hL (L.getD n 0) (by simp [show n < L.length by omega])
      exact pmOf_ok p f _ f0 f1 g0 g1 m h
theorem pseudoTo_ok (p : List Int) : ∀ n, n ≤ 64 → ∀ m ∈ pseudoTo p n, MvOk m
  | 0, _, m, h => by cases h
  | n + 1, hn, m, h => by
    rw [pseudoTo, List.mem_append] at h
    rcases h with h | h
    · exact pseudoTo_ok p n (by omega) m h
    · unfold pseudoOf at h
      split at h
      · cases h
      · exact pmTo_ok p (n : Int) (by omega) (by omega) _ (sqL_range p (n : Int) (by omega) (by omega)) _ (Nat.le_refl _) m h
theorem castOne_ok (p : List Int) (r : Nat) (hr : r < 4) : ∀ m ∈ castOne p r, MvOk m := by
  intro m h
  have hk : 4 ≤ homeK r ∧ homeK r ≤ 60 := by unfold homeK; omega
  have hw : castWay r = 1 ∨ castWay r = -1 := by unfold castWay; split <;> simp
  unfold castOne at h
  split at h
  · cases h
  · split at h
    · simp only [List.mem_cons, List.not_mem_nil, or_false] at h
      subst h
      exact ⟨by show 0 ≤ homeK r; omega, by show homeK r ≤ 63; omega, by show 0 ≤ homeK r + 2 * castWay r; omega, by show homeK r + 2 * castWay r ≤ 63; omega, by show (0 : Int) ≤ 0; decide, by show (0 : Int) ≤ 6; decide⟩
    · cases h
theorem pseudoL_ok (p : List Int) (ht0 : 0 ≤ p.getD 64 0) (ht1 : p.getD 64 0 ≤ 1) : ∀ m ∈ pseudoL p, MvOk m := by
  intro m h
  rw [pseudoL, List.mem_append] at h
  rcases h with h | h
  · exact pseudoTo_ok p 64 (Nat.le_refl _) m h
  · unfold castL at h
    simp only [castTo, List.nil_append, List.mem_append] at h
    rcases h with h | h
    · exact castOne_ok p _ (by omega) m h
    · exact castOne_ok p _ (by omega) m h
end Go.Proofs.YtplkcmlpomjojaaDoor
