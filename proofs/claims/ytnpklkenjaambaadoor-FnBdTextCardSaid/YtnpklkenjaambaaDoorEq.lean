/- Arrays of integers beside each other: what '==' gives. For every program whose array has the length of both lists. -/
import Derived.Test.YtnpklkenjaambaaDoorPi
import Derived.ChangeKeysEq
import Derived.Laws.StructEq
namespace Go.Proofs.YtnpklkenjaambaaDoor
open Go Go.RowKit
set_option maxHeartbeats 400000
set_option linter.unusedSimpArgs false
set_option linter.unusedVariables false

theorem part_int {P : Program} {e : TypeId} (he : P.underlying e = some (.int .i64)) (a : List Int) (i : Nat) (h : i < a.length) (w : World) : (part e (ints a) i).run P w = .ok (.int .i64 (a.getD i 0)) w := by
  have hagg : (isAgg e).run P w = .ok false w := by
    unfold isAgg
    rw [Sem.run_bind, run_underlying he w]
    simp
  unfold part
  rw [Sem.run_bind, hagg]
  simp [ints_get a i h]
theorem eq_items {P : Program} {e : TypeId} (he : P.underlying e = some (.int .i64)) (d : Nat) (a b : List Int) (w : World) : ∀ is : List Nat, (∀ i ∈ is, i < a.length ∧ i < b.length) →
    (Op.eqItems (d + 1) e 1 (ints a) (ints b) is).run P w = .ok (is.all fun i => a.getD i 0 == b.getD i 0) w
  | [], _ => by simp [Op.eqItems]
  | i :: is, h => by
    have ih := eq_items he d a b w is (fun j hj => h j (by simp [hj]))
    have h0 := h i (by simp)
    unfold Op.eqItems
    simp only [Sem.run_bind, Nat.mul_one, part_int he a i h0.1, part_int he b i h0.2, Result.andThen_ok, run_equalIn_int w d e .i64 .i64 _ _ he]
    cases hx : (a.getD i 0 == b.getD i 0)
    · simp only [Bool.not_false, if_true, List.all_cons, hx, Bool.false_and]
      rfl
    · simp only [Bool.not_true, Bool.false_eq_true, if_false, List.all_cons, hx, Bool.true_and]
      exact ih
theorem all_eq (a b : List Int) (n : Nat) (ha : a.length = n) (hb : b.length = n) : ((List.range n).all fun i => a.getD i 0 == b.getD i 0) = decide (a = b) := by
  rw [Bool.eq_iff_iff, decide_eq_true_iff]
  constructor
  · intro h
    apply List.ext_getElem (by omega)
    intro i h1 h2
    have := List.all_eq_true.1 h i (List.mem_range.2 (by omega))
    simpa [h1, h2] using this
  · rintro rfl
    simp
theorem eq_ints {P : Program} {t e : TypeId} {n : Nat} {i : TypeInfo} (hu : P.underlying t = some (.array n e)) (hi : P.info? e = some i) (hc : P.cellsOf e = 1) (he : P.underlying e = some (.int .i64)) (a b : List Int) (ha : a.length = n) (hb : b.length = n) (w : World) :
    (Op.equalIn 10000 t (.agg (ints a)) (.agg (ints b))).run P w = .ok (decide (a = b)) w := by
  rw [show (10000 : Nat) = 9999 + 1 from rfl, run_equalIn_array w 9999 _ _ hu hi, hc, show (9999 : Nat) = 9998 + 1 from rfl, eq_items he 9998 a b w _ (fun j hj => by have := List.mem_range.1 hj; omega), all_eq a b n ha hb]
end Go.Proofs.YtnpklkenjaambaaDoor
