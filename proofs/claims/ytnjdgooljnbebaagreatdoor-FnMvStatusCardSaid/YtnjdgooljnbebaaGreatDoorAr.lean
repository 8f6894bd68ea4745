/- An argument that is an array of integers: what its data say, and that it reads as it did. For every program whose array has n elements of one cell. -/
import Derived.Test.YtnjdgooljnbebaaGreatDoorGa
import Derived.WideKeyArr2
import Derived.Lib.LaidTab
import Derived.RowKit
namespace Go.Proofs.YtnjdgooljnbebaaGreatDoor
open Go Go.RowKit Go.ChangeShapes Go.WideShapes
set_option linter.unusedSimpArgs false
set_option linter.unusedVariables false

section
variable {H : Type} {enc : TypeId × Value → H} {P : Program} {k e : TypeId} {n : Nat} {W : World} {base : Nat} {sp : Nat → Bool} {held : Bool}
def litsOf (zs : List Int) : List (DataW H) := zs.map fun z => .lit (.int .i64 z)
theorem mapM_all {α β : Type} {f : α → Option β} {g : α → β} : ∀ L : List α, (∀ i ∈ L, f i = some (g i)) → L.mapM f = some (L.map g)
  | [], _ => rfl
  | i :: L, h => by
    rw [List.mapM_cons, h i (by simp), mapM_all L (fun j hj => h j (by simp [hj]))]
    rfl
theorem mapM_len {α β : Type} {f : α → Option β} : ∀ (L : List α) (xs : List β), L.mapM f = some xs → xs.length = L.length
  | [], xs, h => by simp at h; subst h; rfl
  | i :: L, xs, h => by
    rw [List.mapM_cons] at h
    simp only [bind, Option.bind_eq_some_iff, pure, Option.some.injEq] at h
    obtain ⟨y, _, ys, hys, rfl⟩ := h
    simp [mapM_len L ys hys]
theorem mapM_get {α β : Type} {f : α → Option β} : ∀ (L : List α) (xs : List β), L.mapM f = some xs → ∀ (i : Nat) (a : α), L[i]? = some a → ∃ y, xs[i]? = some y ∧ f a = some y
  | [], xs, h, i, a, ha => by simp at ha
  | b :: L, xs, h, i, a, ha => by
    rw [List.mapM_cons] at h
    simp only [bind, Option.bind_eq_some_iff, pure, Option.some.injEq] at h
    obtain ⟨y, hy, ys, hys, rfl⟩ := h
    cases i with
    | zero => simp at ha; subst ha; exact ⟨y, rfl, hy⟩
    | succ i => simpa using mapM_get L ys hys i a (by simpa using ha)
end
end Go.Proofs.YtnjdgooljnbebaaGreatDoor
