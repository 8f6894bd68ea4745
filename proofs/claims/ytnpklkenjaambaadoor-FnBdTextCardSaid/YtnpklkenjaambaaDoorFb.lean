/- A board's text is read as the board. For every board of pieces from 0 to 12. -/
import Derived.Test.YtnpklkenjaambaaDoorFr
import Derived.Test.YtnpklkenjaambaaDoorBp
import Derived.Test.YtnpklkenjaambaaDoorHk
namespace Go.Proofs.YtnpklkenjaambaaDoor
open Go Go.RowKit Go.Maps
set_option maxHeartbeats 4000000
set_option linter.unusedSimpArgs false
set_option linter.unusedVariables false
set_option maxRecDepth 100000

theorem fb_square (f r : Nat) (hf : f < 8) (hr : r < 8) (w : World) :
    Calls Tryd.prog 52 #[.int .i8 (f : Int), .int .i8 (r : Int)] w fun e w' => e = .returned (.int .i8 ((8 * r + f : Nat) : Int)) ∧ w = w' := by
  have e : ((8 * r + f : Nat) : Int) = (r : Int) * 8 + f := by omega
  rw [e]
  have wrap_i8b : ∀ (n : Int), -128 ≤ n → n ≤ 127 → IntKind.i8.wrap n = n := by
    intro n h0 h1
    unfold IntKind.wrap
    simp only [show IntKind.i8.bits = 8 from rfl, show IntKind.i8.signed = true from rfl, Bool.true_and]
    split <;> rename_i h <;> simp at h <;> omega
  go_enter Tryd.func52, Tryd.ntmps52
  go_wp2
  go_ret
  exact ⟨rfl, rfl⟩
/-- The buffer of eight texts, of which the first stand there. -/
def bufL (d : List (List UInt8)) : List Value := (List.range 8).map fun j => Value.string (bs (d.getD j []))
def bufC (d : List (List UInt8)) : Array Value := (bufL d).toArray
theorem bufC_size (d : List (List UInt8)) : (bufC d).size = 8 := by simp [bufC, bufL]
theorem bufC_at (d : List (List UInt8)) (k : Nat) (h : k < 8) : (bufC d)[k]? = some (.string (bs (d.getD k []))) := by simp [bufC, bufL, h]
theorem bufC_set (d : List (List UInt8)) (c : List UInt8) (h : d.length < 8) : (bufC d).setIfInBounds d.length (.string (bs c)) = bufC (d ++ [c]) := by
  apply Array.ext_getElem?
  intro j
  rw [Array.getElem?_setIfInBounds]
  by_cases hj : j < 8
  · by_cases e : d.length = j
    · subst e
      rw [if_pos rfl, if_pos (by rw [bufC_size]; omega), bufC_at _ _ h]
      simp
    · rw [if_neg e, bufC_at _ _ hj, bufC_at _ _ hj]
      congr 3
      by_cases e2 : j < d.length
      · simp [List.getElem?_append_left e2]
      · rw [List.getD_eq_getElem?_getD, List.getD_eq_getElem?_getD, List.getElem?_eq_none (by omega), List.getElem?_eq_none (by simp; omega)]
  · rw [Array.getElem?_eq_none (by rw [bufC_size]; omega)]
    by_cases e : d.length = j
    · omega
    · rw [if_neg e, Array.getElem?_eq_none (by rw [bufC_size]; omega)]
theorem grown_setCell (w : World) (a : Addr) (u : Value) : w.grownBy (w.setCell a u) (some a.block) :=
  ⟨rfl, rfl, rfl, by simp, fun i _ hi => heap_setCell_other _ _ _ _ (by intro e; subst e; exact hi rfl)⟩
theorem grown_of_below {w w' : World} (h : Below w.heap.size w w') : w.grownBy w' none := ⟨h.os, h.tape, h.output, h.size, fun k hk _ => h.block k hk⟩
theorem grown_setBlock {w : World} {b : Nat} (o : Obj) : w.grownBy (Go.ChangeMaps.setBlock w b o) (some b) :=
  ⟨rfl, rfl, rfl, by show _ ≤ (w.heap.setIfInBounds b o).size; simp, fun k hk hne => by show (w.heap.setIfInBounds b o)[k]? = _; rw [Array.getElem?_setIfInBounds_ne (by intro e; subst e; exact hne rfl)]⟩
/-- What the map of squares holds: of the squares of Q the pieces. -/
def SaysOf (f : Int → Option Value) (p : List Int) (Q : Nat → Prop) : Prop := ∀ j : Nat, j < 64 → (Q j → p.getD j 0 ≠ 0 → f (j : Int) = some (.int .i8 (p.getD j 0))) ∧ (¬ Q j ∨ p.getD j 0 = 0 → f (j : Int) = none)
theorem rowL_at (p : List Int) (r x : Nat) (h : x < 8) : (rowL p r 8).getD x 0 = p.getD (8 * r + x) 0 := by simp [rowL, h]
/-- All eight ranks' texts. -/
def allR (p : List Int) : List (List UInt8) := doneL p ++ [rkT p 0]
theorem allR_at (p : List Int) (k : Nat) (h : k < 8) : (allR p).getD k [] = rkT p (7 - k) := by
  unfold allR doneL
  by_cases e : k < 7
  · simp [List.getElem?_append_left, e]
  · obtain rfl : k = 7 := by omega
    simp
theorem SaysOf.start (p : List Int) : SaysOf (fun _ => none) p (fun j => 8 - 0 ≤ j / 8) := fun j hj => ⟨fun h => by omega, fun _ => rfl⟩
theorem SaysOf.all {f : Int → Option Value} {p : List Int} (h : SaysOf f p (fun j => 8 - 8 ≤ j / 8)) : Says f p := fun j hj => by
  by_cases e : p.getD j 0 = 0
  · exact Or.inl ⟨(h j hj).2 (Or.inr e), e⟩
  · exact Or.inr ((h j hj).1 (by omega) e)
/-- One rank more: nothing of it is there yet. -/
theorem SaysOf.open_ {f : Int → Option Value} {p : List Int} {k r : Nat} {D : DataW Unit} (hk : k + r = 7) (h : SaysOf f p (fun j => 8 - k ≤ j / 8)) (hD : RowD D (rowL p r 8)) :
    SaysOf f p (fun j => 8 - k ≤ j / 8 ∨ (j / 8 = r ∧ has D (.int .i8 ((j % 8 : Nat) : Int)) = false)) := fun j hj => by
  refine ⟨fun hq h0 => ?_, fun hq => ?_⟩
  · rcases hq with hq | ⟨h1, h2⟩
    · exact (h j hj).1 hq h0
    · exfalso
      have h3 := hD.yes (j % 8) (by rw [rowL_len]; omega) (by rw [rowL_at _ _ _ (by omega), show 8 * r + j % 8 = j by omega]; exact h0)
      rw [h2] at h3
      cases h3
  · rcases hq with hq | hq
    · exact (h j hj).2 (Or.inl (fun h' => hq (Or.inl h')))
    · exact (h j hj).2 (Or.inr hq)
/-- The rank is there. -/
theorem SaysOf.shut {f : Int → Option Value} {p : List Int} {k r : Nat} {left : Lit → Bool} (hk : k + r = 7) (hl : ∀ kl, left kl = false)
    (h : SaysOf f p (fun j => 8 - k ≤ j / 8 ∨ (j / 8 = r ∧ left (.int .i8 ((j % 8 : Nat) : Int)) = false))) : SaysOf f p (fun j => 8 - (k + 1) ≤ j / 8) := fun j hj => by
  refine ⟨fun hq h0 => ?_, fun hq => ?_⟩
  · refine (h j hj).1 ?_ h0
    by_cases e : 8 - k ≤ j / 8
    · exact Or.inl e
    · exact Or.inr ⟨by omega, hl _⟩
  · rcases hq with hq | hq
    · refine (h j hj).2 (Or.inl ?_)
      rintro (h1 | ⟨h1, _⟩) <;> omega
    · exact (h j hj).2 (Or.inr hq)
/-- A piece of the rank is put. -/
theorem SaysOf.put {f : Int → Option Value} {p : List Int} {k r x : Nat} {left : Lit → Bool} (hk : k + r = 7) (hx : x < 8) (h0 : p.getD (8 * r + x) 0 ≠ 0)
    (h : SaysOf f p (fun j => 8 - k ≤ j / 8 ∨ (j / 8 = r ∧ left (.int .i8 ((j % 8 : Nat) : Int)) = false))) :
    SaysOf (mput f ((8 * r + x : Nat) : Int) (.int .i8 (p.getD (8 * r + x) 0))) p (fun j => 8 - k ≤ j / 8 ∨ (j / 8 = r ∧ (fun z : Lit => left z && !z.sameKey (.int .i8 (x : Int))) (.int .i8 ((j % 8 : Nat) : Int)) = false)) := fun j hj => by
  by_cases e : j = 8 * r + x
  · subst e
    refine ⟨fun _ _ => by simp [mput], fun hq => ?_⟩
    exfalso
    rcases hq with hq | hq
    · refine hq (Or.inr ⟨by omega, ?_⟩)
      rw [show (8 * r + x) % 8 = x by omega]
      have := WideAt.sameKey_self (show WideAt.IsKeyLit (.int .i8 (x : Int)) from trivial)
      simp [this]
    · exact h0 hq
  · have e1 : mput f ((8 * r + x : Nat) : Int) (.int .i8 (p.getD (8 * r + x) 0)) (j : Int) = f (j : Int) := by
      unfold mput
      rw [if_neg (by omega)]
    rw [e1]
    have e2 : j / 8 = r → ((fun z : Lit => left z && !z.sameKey (.int .i8 (x : Int))) (.int .i8 ((j % 8 : Nat) : Int)) = false ↔ left (.int .i8 ((j % 8 : Nat) : Int)) = false) := by
      intro e3
      have := sameKey_ne (lit_ne (show j % 8 ≠ x by omega))
      generalize (Lit.int .i8 ((j % 8 : Nat) : Int)) = q at *
      simp [this]
    refine ⟨fun hq h1 => (h j hj).1 ?_ h1, fun hq => (h j hj).2 ?_⟩
    · rcases hq with hq | ⟨h2, h3⟩
      · exact Or.inl hq
      · exact Or.inr ⟨h2, (e2 h2).1 h3⟩
    · rcases hq with hq | hq
      · refine Or.inl (fun hq' => hq ?_)
        rcases hq' with h2 | ⟨h2, h3⟩
        · exact Or.inl h2
        · exact Or.inr ⟨h2, (e2 h2).2 h3⟩
      · exact Or.inr hq
end Go.Proofs.YtnpklkenjaambaaDoor
