/- Maps from squares and from files to pieces: cleared. For every map, whatever the order. -/
import Derived.Test.YtnpklkenjaambaaDoorKit
import Derived.Test.YtnpklkenjaambaaDoorMp
import Derived.Maps.RangeWalk
import Derived.Maps.Views
import Derived.WalkKit
namespace Go.Proofs.YtnpklkenjaambaaDoor
open Go Go.RowKit Go.Maps Go.WideElems
set_option maxHeartbeats 2000000
set_option linter.unusedSimpArgs false
set_option linter.unusedVariables false
set_option maxRecDepth 100000

/-- Nothing is in it. -/
theorem empty_of_has {D : DataW Unit} (hm : IsMap D) (hk : ∀ es, D = .map es → ∀ p ∈ es, WideAt.IsKeyLit p.1) (h : ∀ kl, has D kl = false) : D = .map [] := by
  obtain ⟨es, rfl⟩ := hm
  cases es with
  | nil => rfl
  | cons p l =>
    exfalso
    have h1 := h p.1
    have h2 : (DataW.map (p :: l) : DataW Unit) = .map (p :: l) := rfl
    rw [has_eq] at h1
    simp [WideAt.sameKey_self (hk _ rfl p List.mem_cons_self)] at h1
theorem owns_empty {P : Program} {k : TypeId} {R : Value → Option (DataW Unit × List MemPlace)} {w : World} {b n : Nat} (h : w.ownsMap P k R b n (.map [])) : ∃ c, w.heap[b]? = some (.map #[] c) := by
  obtain ⟨es, clock, hb, F, hs, hD⟩ := h
  have h1 : ((es.toList.map (rg P k R)).foldr DataW.insert []) = [] := by
    have := hD
    simp only [DataW.map.injEq] at this
    exact this.symm
  have h2 := length_sorted (es.toList.map (rg P k R))
  rw [h1] at h2
  simp at h2
  have : es = #[] := by
    apply Array.eq_empty_of_size_eq_zero
    omega
  subst this
  exact ⟨clock, hb⟩
theorem owns_small {P : Program} {k : TypeId} {R : Value → Option (DataW Unit × List MemPlace)} {w : World} {b n : Nat} (h : w.ownsMap P k R b n (.map [])) : w.ownsMap P k R b 0 (.map []) := by
  obtain ⟨c, hc⟩ := owns_empty h
  obtain ⟨es, clock, hb, F, hs, hD⟩ := h
  rw [hc] at hb
  cases hb
  exact ⟨#[], c, hc, F, by simp, hD⟩
theorem imap_empty {w : World} {b c : Nat} (h : w.heap[b]? = some (.map #[] c)) : IMap w b (fun _ => none) 0 := ⟨#[], c, h, by simp, rfl, by simp⟩

theorem keyFile : Keyed Tryd.prog 95 := int_keyed Tryd.underlying95
theorem cm_File (b n : Nat) (D : DataW Unit) (w : World) (hown : w.ownsMap Tryd.prog 95 (plainElem (H := Unit) Tryd.prog 75) b n D) :
    Calls Tryd.prog 55 #[.map (some b)] w fun e w' => e = .returned (.tuple #[]) ∧ w'.ownsMap Tryd.prog 95 (plainElem (H := Unit) Tryd.prog 75) b 0 (.map []) ∧ w.grownBy w' (some b) := by
  go_enter Tryd.func55, Tryd.ntmps55
  go_wp2_with (first
    | (at_range; refine wpList_range_own _ rfl _ 98 rfl 95 75 keyFile Tryd.underlying98 _ b n _ rfl hown ?_; intro w0 hrg0 hg0 hs0)
    | go_in)
  go_frame
  go_loopw [2] (fun _ wr => ∃ (D' : DataW Unit) (left : Lit → Bool) (cnt : Nat), wr.ranges Tryd.prog 95 (plainElem (H := Unit) Tryd.prog 75) b w.heap.size n D' left cnt ∧ (∀ kl, has D' kl = true → left kl = true) ∧ w.grownBy wr (some b))
    (fun _ wr => wr.rangeLeft b w.heap.size)
  case atStart => exact ⟨_, _, _, hrg0, fun kl h => h, hg0.but _⟩
  case round =>
    obtain ⟨D', left, cnt, hrg, hhas, hgw⟩ := hrel
    go_wp2_with (first
      | (at_next; refine wpList_next_ranges_ii _ rfl _ rfl 95 75 .i8 .i8 keyFile Tryd.underlying95 Tryd.underlying75 b w.heap.size n _ _ _ rfl hrg ?_ ?_)
      | go_in)
    · intro _ hl0
      go_wp2
      go_end0
      have ho := hrg.owns
      have he : D' = .map [] := by
        obtain ⟨es, e1, _, hkeys⟩ := ho.entries keyFile
        refine empty_of_has ⟨es, e1⟩ (fun es' e2 p hp => ?_) (fun kl => ?_)
        · rw [e1] at e2
          simp only [DataW.map.injEq] at e2
          exact hkeys p (by rw [e2]; exact hp)
        · cases h : has D' kl with
          | false => rfl
          | true => exact absurd (hhas kl h) (by simp [hl0 kl])
      subst he
      exact ⟨rfl, owns_small ho, hgw⟩
    · intro x c w1 cnt1 hwx hwc hlx hat hrg1 hlt hg1 hs1 hen
      have hgw1 := hgw.andThen hg1 (fun j hj => by cases hj; exact Or.inl (Nat.le_refl _))
      go_wp2_with (first
        | (at_delete; refine wpList_delete_ranges _ rfl _ _ 98 95 rfl 75 keyFile Tryd.underlying98 _ b w.heap.size n _ _ _ rfl hrg1 _ _ rfl (keyOf_int_mk Tryd.underlying95 hwx) ?_; intro w2 cnt2 hrg2 hle hturn; go_frame)
        | go_in)
      rw [strike_twice] at hrg2
      go_roundw
      case rel =>
        refine ⟨_, _, cnt2, hrg2, fun kl h => ?_, hgw1.andThen hturn.grown (fun j hj => by cases hj; exact Or.inr rfl)⟩
        by_cases e1 : kl = .int .i8 x
        · subst e1
          rw [has_del_same] at h
          cases h
        · rw [has_del_other e1] at h
          simp [hhas kl h, sameKey_ne e1]
      case measure => rw [hrg2.left_eq, hrg.left_eq]; omega
theorem keySquare : Keyed Tryd.prog 57 := int_keyed Tryd.underlying57
theorem cm_Square (b n : Nat) (D : DataW Unit) (w : World) (hown : w.ownsMap Tryd.prog 57 (plainElem (H := Unit) Tryd.prog 75) b n D) :
    Calls Tryd.prog 54 #[.map (some b)] w fun e w' => e = .returned (.tuple #[]) ∧ w'.ownsMap Tryd.prog 57 (plainElem (H := Unit) Tryd.prog 75) b 0 (.map []) ∧ w.grownBy w' (some b) := by
  go_enter Tryd.func54, Tryd.ntmps54
  go_wp2_with (first
    | (at_range; refine wpList_range_own _ rfl _ 74 rfl 57 75 keySquare Tryd.underlying74 _ b n _ rfl hown ?_; intro w0 hrg0 hg0 hs0)
    | go_in)
  go_frame
  go_loopw [2] (fun _ wr => ∃ (D' : DataW Unit) (left : Lit → Bool) (cnt : Nat), wr.ranges Tryd.prog 57 (plainElem (H := Unit) Tryd.prog 75) b w.heap.size n D' left cnt ∧ (∀ kl, has D' kl = true → left kl = true) ∧ w.grownBy wr (some b))
    (fun _ wr => wr.rangeLeft b w.heap.size)
  case atStart => exact ⟨_, _, _, hrg0, fun kl h => h, hg0.but _⟩
  case round =>
    obtain ⟨D', left, cnt, hrg, hhas, hgw⟩ := hrel
    go_wp2_with (first
      | (at_next; refine wpList_next_ranges_ii _ rfl _ rfl 57 75 .i8 .i8 keySquare Tryd.underlying57 Tryd.underlying75 b w.heap.size n _ _ _ rfl hrg ?_ ?_)
      | go_in)
    · intro _ hl0
      go_wp2
      go_end0
      have ho := hrg.owns
      have he : D' = .map [] := by
        obtain ⟨es, e1, _, hkeys⟩ := ho.entries keySquare
        refine empty_of_has ⟨es, e1⟩ (fun es' e2 p hp => ?_) (fun kl => ?_)
        · rw [e1] at e2
          simp only [DataW.map.injEq] at e2
          exact hkeys p (by rw [e2]; exact hp)
        · cases h : has D' kl with
          | false => rfl
          | true => exact absurd (hhas kl h) (by simp [hl0 kl])
      subst he
      exact ⟨rfl, owns_small ho, hgw⟩
    · intro x c w1 cnt1 hwx hwc hlx hat hrg1 hlt hg1 hs1 hen
      have hgw1 := hgw.andThen hg1 (fun j hj => by cases hj; exact Or.inl (Nat.le_refl _))
      go_wp2_with (first
        | (at_delete; refine wpList_delete_ranges _ rfl _ _ 74 57 rfl 75 keySquare Tryd.underlying74 _ b w.heap.size n _ _ _ rfl hrg1 _ _ rfl (keyOf_int_mk Tryd.underlying57 hwx) ?_; intro w2 cnt2 hrg2 hle hturn; go_frame)
        | go_in)
      rw [strike_twice] at hrg2
      go_roundw
      case rel =>
        refine ⟨_, _, cnt2, hrg2, fun kl h => ?_, hgw1.andThen hturn.grown (fun j hj => by cases hj; exact Or.inr rfl)⟩
        by_cases e1 : kl = .int .i8 x
        · subst e1
          rw [has_del_same] at h
          cases h
        · rw [has_del_other e1] at h
          simp [hhas kl h, sameKey_ne e1]
      case measure => rw [hrg2.left_eq, hrg.left_eq]; omega
end Go.Proofs.YtnpklkenjaambaaDoor
