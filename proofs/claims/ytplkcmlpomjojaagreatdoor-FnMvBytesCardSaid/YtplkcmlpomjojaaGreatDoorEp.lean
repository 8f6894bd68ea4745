/- Two positions beside each other: what '==' gives. -/
import Derived.Test.YtplkcmlpomjojaaGreatDoorGa
namespace Go.Proofs.YtplkcmlpomjojaaGreatDoor
open Go Go.RowKit
set_option maxHeartbeats 1000000
set_option linter.unusedSimpArgs false
set_option linter.unusedVariables false
set_option maxRecDepth 100000

theorem eq_ints_at {P : Program} {t e : TypeId} {n : Nat} {i : TypeInfo} (hu : P.underlying t = some (.array n e)) (hi : P.info? e = some i) (hc : P.cellsOf e = 1) (he : P.underlying e = some (.int .i64)) (d : Nat) (a b : List Int) (ha : a.length = n) (hb : b.length = n) (w : World) :
    (Op.equalIn (d + 2) t (.agg (ints a)) (.agg (ints b))).run P w = .ok (decide (a = b)) w := by
  rw [show d + 2 = (d + 1) + 1 from rfl, run_equalIn_array w (d + 1) _ _ hu hi, hc, eq_items he d a b w _ (fun j hj => by have := List.mem_range.1 hj; omega), all_eq a b n ha hb]
theorem part_arr {P : Program} {t e : TypeId} {n : Nat} (hu : P.underlying t = some (.array n e)) (hi : (P.info? t).map (·.size) = some n) (p : List Int) (w : World) : (part t (ints p) 0).run P w = .ok (.agg (ints (p.take n))) w := by
  have hagg : (isAgg t).run P w = .ok true w := by
    unfold isAgg
    rw [Sem.run_bind, run_underlying hu w]
    simp
  cases hin : P.info? t with
  | none => simp [hin] at hi
  | some it =>
    have hz : it.size = n := by simpa [hin] using hi
    unfold part
    rw [Sem.run_bind, hagg]
    simp [sizeOf, typeInfo, hin, hz]
    apply Array.ext'
    simp [ints, List.extract_eq_take_drop]
theorem six_fields {α : Type} {xs : List α} (h : xs.length = 6) : ∃ y0 y1 y2 y3 y4 y5, xs = [y0, y1, y2, y3, y4, y5] := by
  match xs, h with
  | [y0, y1, y2, y3, y4, y5], _ => exact ⟨y0, y1, y2, y3, y4, y5, rfl⟩
theorem pos_eq (p q : List Int) (hp : p.length = 69) (hq : q.length = 69) : (decide (p.take 64 = q.take 64) && (decide (p.getD 64 0 = q.getD 64 0) && (decide (p.getD 65 0 = q.getD 65 0) && (decide (p.getD 66 0 = q.getD 66 0) && (decide (p.getD 67 0 = q.getD 67 0) && decide (p.getD 68 0 = q.getD 68 0)))))) = decide (p = q) := by
  rw [Bool.eq_iff_iff]
  simp only [Bool.and_eq_true, decide_eq_true_eq]
  constructor
  · rintro ⟨h0, h1, h2, h3, h4, h5⟩
    apply List.ext_getElem (by omega)
    intro i i1 i2
    by_cases h : i < 64
    · have := congrArg (fun l => l[i]?) h0
      simpa [List.getElem?_take, h, i1, i2] using this
    · have g : ∀ j, j < 69 → p.getD j 0 = q.getD j 0 → p[j]? = q[j]? := fun j hj e => by
        have a1 : j < p.length := by omega
        have a2 : j < q.length := by omega
        simpa [List.getD, a1, a2] using e
      have e : p[i]? = q[i]? := by
        rcases (show i = 64 ∨ i = 65 ∨ i = 66 ∨ i = 67 ∨ i = 68 by omega) with rfl | rfl | rfl | rfl | rfl
        · exact g 64 (by omega) h1
        · exact g 65 (by omega) h2
        · exact g 66 (by omega) h3
        · exact g 67 (by omega) h4
        · exact g 68 (by omega) h5
      simpa [i1, i2] using e
  · rintro rfl
    exact ⟨rfl, rfl, rfl, rfl, rfl, rfl⟩
theorem ep_eq (p q : List Int) (hp : p.length = 69) (hq : q.length = 69) (w : World) : (Op.equalIn 10000 24 (.agg (ints p)) (.agg (ints q))).run Tryz.prog w = .ok (decide (p = q)) w := by
  obtain ⟨i0, hi, hz0, hz1, hz2⟩ := info_parts (show (Tryz.prog.info? 3).map (fun i => (i.zero, i.size, i.bytes)) = some (some (.int .i64 0), 1, 8) by kernel_rfl)
  have hf : ((Tryz.prog.fieldsOf 24).toList.map fun f => (decide (f.name = "_"), f.type, f.offset)) = [(false, 22, 0), (false, 3, 64), (false, 3, 65), (false, 3, 66), (false, 3, 67), (false, 3, 68)] := by kernel_rfl
  have hu : Tryz.prog.underlying 24 = some (.struct (Tryz.prog.fieldsOf 24)) := by kernel_rfl
  have hint : Tryz.prog.underlying 3 = some (.int .i64) := Tryz.underlying3
  rw [show (10000 : Nat) = 9999 + 1 from rfl, run_equalIn_struct w 9999 _ _ _ hu (by kernel_rfl)]
  generalize (Tryz.prog.fieldsOf 24).toList = fs at hf
  obtain ⟨f0, f1, f2, f3, f4, f5, rfl⟩ := six_fields (xs := fs) (by simpa using congrArg List.length hf)
  simp only [List.map_cons, List.map_nil, List.cons.injEq, Prod.mk.injEq, decide_eq_false_iff_not, and_true] at hf
  obtain ⟨⟨n0, t0, o0⟩, ⟨n1, t1, o1⟩, ⟨n2, t2, o2⟩, ⟨n3, t3, o3⟩, ⟨n4, t4, o4⟩, ⟨n5, t5, o5⟩⟩ := hf
  have ha := fun (V : World) (x : List Int) => part_arr (P := Tryz.prog) Tryz.underlying22 (by kernel_rfl) x V
  have he := fun (V : World) => eq_ints_at (P := Tryz.prog) Tryz.underlying22 hi (by kernel_rfl) hint 9997 (p.take 64) (q.take 64) (by simp [hp]) (by simp [hq]) V
  have hpi := fun (V : World) (x : List Int) (j : Nat) (hj : j < x.length) => part_int (P := Tryz.prog) hint x j hj V
  have hqi := fun (V : World) (a b : Int) => run_equalIn_int (P := Tryz.prog) V 9998 3 .i64 .i64 a b hint
  rw [← pos_eq p q hp hq]
  simp only [Op.eqFields, n0, n1, n2, n3, n4, n5, t0, t1, t2, t3, t4, t5, o0, o1, o2, o3, o4, o5, ne_eq, not_false_eq_true, if_true, Sem.run_bind, ha, Result.andThen_ok, he]
  cases decide (p.take 64 = q.take 64)
  · simp
  have e64 : (p.getD 64 0 == q.getD 64 0) = decide (p.getD 64 0 = q.getD 64 0) := by rw [Bool.eq_iff_iff]; simp
  simp only [Bool.not_true, Bool.false_eq_true, if_false, Bool.true_and, Sem.run_bind, hpi w p 64 (by omega), hpi w q 64 (by omega), Result.andThen_ok, hqi, e64]
  cases decide (p.getD 64 0 = q.getD 64 0)
  · simp
  have e65 : (p.getD 65 0 == q.getD 65 0) = decide (p.getD 65 0 = q.getD 65 0) := by rw [Bool.eq_iff_iff]; simp
  simp only [Bool.not_true, Bool.false_eq_true, if_false, Bool.true_and, Sem.run_bind, hpi w p 65 (by omega), hpi w q 65 (by omega), Result.andThen_ok, hqi, e65]
  cases decide (p.getD 65 0 = q.getD 65 0)
  · simp
  have e66 : (p.getD 66 0 == q.getD 66 0) = decide (p.getD 66 0 = q.getD 66 0) := by rw [Bool.eq_iff_iff]; simp
  simp only [Bool.not_true, Bool.false_eq_true, if_false, Bool.true_and, Sem.run_bind, hpi w p 66 (by omega), hpi w q 66 (by omega), Result.andThen_ok, hqi, e66]
  cases decide (p.getD 66 0 = q.getD 66 0)
  · simp
  have e67 : (p.getD 67 0 == q.getD 67 0) = decide (p.getD 67 0 = q.getD 67 0) := by rw [Bool.eq_iff_iff]; simp
  simp only [Bool.not_true, Bool.false_eq_true, if_false, Bool.true_and, Sem.run_bind, hpi w p 67 (by omega), hpi w q 67 (by omega), Result.andThen_ok, hqi, e67]
  cases decide (p.getD 67 0 = q.getD 67 0)
  · simp
  have e68 : (p.getD 68 0 == q.getD 68 0) = decide (p.getD 68 0 = q.getD 68 0) := by rw [Bool.eq_iff_iff]; simp
  simp only [Bool.not_true, Bool.false_eq_true, if_false, Bool.true_and, Sem.run_bind, hpi w p 68 (by omega), hpi w q 68 (by omega), Result.andThen_ok, hqi, e68]
  cases decide (p.getD 68 0 = q.getD 68 0)
  · simp
  simp
end Go.Proofs.YtplkcmlpomjojaaGreatDoor
