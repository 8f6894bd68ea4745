/- What lies in a block behind an allocation; a variable of one word; one result that is a variable of many cells. For every program and world. -/
import Derived.Test.YtnpklkenjaambaaDoorAp
namespace Go.Proofs.YtnpklkenjaambaaDoor
open Go Go.RowKit
set_option linter.unusedVariables false
set_option linter.unusedSimpArgs false
def aggD : TypeDesc → Bool
  | .struct _ | .array _ _ => true
  | _ => false
theorem load_one {P : Program} {w : World} {t : TypeId} {d : TypeDesc} (h1 : P.underlying t = some d) (h2 : aggD d = false) {a : Addr} {v : Value} (h3 : w.cell? a = some v) : (loadVar t a).run P w = .ok v w := by
  have hagg : (isAgg t).run P w = .ok false w := by
    unfold isAgg
    rw [Sem.run_bind, run_underlying h1 w]
    cases d <;> simp_all [aggD]
  simp [loadVar, hagg, run_load, h3]
theorem heap_keep {w : World} {o o' : Obj} {g : Nat} (h : w.heap[g]? = some o) : (w.alloc o').heap[g]? = some o := (heap_alloc_old _ _ (Array.getElem?_eq_some_iff.1 h).1).trans h
theorem heap_at (w : World) (o : Obj) (k : Nat) (hk : k = w.heap.size) : (w.alloc o).heap[k]? = some o := by subst hk; exact heap_alloc_new w o
theorem results_cell1 {P : Program} {fn : Func} {p : Tmp} {ty : TypeId} (h : fn.results = #[.cell p ty]) (tmps : Array Value) (w : World) (g : Nat) (t : TypeId) (cs : Array Value) (fr : Nat × Nat) (d : TypeDesc)
    (hp : tmps.getD p undef = .pointer (some ⟨g, 0, none⟩)) (hg : w.heap[g]? = some (.cells cs t fr))
    (hu : P.underlying ty = some d) (hd : (match d with | .struct _ | .array _ _ => true | _ => false) = true) (hi : (P.info? ty).map (·.size) = some cs.size) :
    (results fn tmps).run P w = .ok (.agg cs) w := by
  have hp' : tmps[p]?.getD undef = .pointer (some ⟨g, 0, none⟩) := by simpa using hp
  simp [results, h, hp', asAddr, run_loadVar_row w g t ty cs fr d hg hu hd hi]
/-- One word into its cell. -/
theorem wp_store_one {P : Program} {o : Oper} {a : Act} {w : World} {K : Act → World → Prop} {Q : Exit → Act → World → Prop} (ty : TypeId) (x y : Operand) (ho : o.op = .store ty x y)
    (g k : Nat) (v : Value) (hx : a.eval x = .pointer (some ⟨g, k, none⟩)) (hy : a.eval y = v) (hv : v.cells = #[v]) (h1 : v.oneCell' = true) (t : TypeId) (old : Array Value) (hg : w.heap[g]? = some (.cells old t (0, 0))) (hk : k < old.size) (hi : (P.info? ty).map (·.size) = some 1)
    (h : K (a.put o.dst undef) (w.setCell ⟨g, k, none⟩ v)) : o.wp P a w K Q := by
  have hrun : (storeVar ty ⟨g, k, none⟩ v).run P w = .ok () (w.setCell ⟨g, k, none⟩ v) := by
    have hadd : (⟨g, k, none⟩ : Addr).add 0 = ⟨g, k, none⟩ := by unfold Addr.add; split <;> simp_all
    have hc := cell_of_row w g k _ _ _ hg
    have hf := frozen_of_row w g k _ _ hg
    have hs : (store ⟨g, k, none⟩ v).run P w = .ok () (w.setCell ⟨g, k, none⟩ v) := by
      rw [run_store P w _ v _ h1, hc, Array.getElem?_eq_getElem hk]
      simp [hf]
    cases hq : P.info? ty with
    | none => simp [hq] at hi
    | some i =>
      have hz : i.size = 1 := by simpa [hq] using hi
      simp [storeVar, sizeOf, typeInfo, hq, hv, hz, storeCells, hadd, hs]
  unfold Oper.wp execOp
  simp only [ho, hx, hy, Instr.storeAt, Instr.sureAddr, Sem.run_bind, Sem.run_pure, Result.andThen_ok, hrun]
  exact h
end Go.Proofs.YtnpklkenjaambaaDoor
