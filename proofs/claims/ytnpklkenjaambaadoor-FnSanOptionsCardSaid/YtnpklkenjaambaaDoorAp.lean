/- One element is appended to a slice that the call owns: the step as the walk meets it ('append(l, x)': the slice of x lies in the block made last). For every program and type of one cell. -/
import Derived.Test.YtnpklkenjaambaaDoorKit
import Derived.OwnWalk
import Derived.Deep.AppendLies
import Derived.Deep.RegionLaw
import Derived.Deep.RegionHeldLaw
import Derived.Laws.OwnMore
namespace Go.Proofs.YtnpklkenjaambaaDoor
open Go Go.RowKit
set_option linter.unusedVariables false

theorem one_cell (w : World) (u : Value) (t : TypeId) (b : Nat) (hb : b = w.heap.size) : ∀ j v, [u][j]? = some v → (w.alloc (.cells #[u] t)).cell? ((⟨b, 0, none⟩ : Addr).add j) = some v := by
  subst hb
  intro j v h
  match j, h with
  | 0, h =>
    simp at h
    subst h
    have e : (⟨w.heap.size, 0, none⟩ : Addr).add 0 = ⟨w.heap.size, 0, none⟩ := by unfold Addr.add; split <;> simp_all
    rw [e, cell_of_row _ _ _ _ _ _ (heap_alloc_new w _)]
    rfl
theorem at_append1 {P : Program} {ops : Array Oper} {rest : List Oper} {a : Act} {w : World} {Q : Exit → Act → World → Prop} {d : Option Tmp} {x y : Operand} {ty : TypeId} {ps : String} {af : Array Edge} {u : Value} {t e : TypeId}
    {i : TypeInfo} {z : Value} {bytes : Nat} (ht : P.underlying t = some (.slice e)) (hi : P.info? e = some i) (hz : i.zero = some z) (hsize : i.size = 1) (hby : i.bytes = bytes) (hzs : z.cells.size = 1) (hb : bytes ≤ 16) (hu : u.oneCell' = true)
    (base : Nat) (v : Value) (n : Nat) (xs : List Value) (hO : w.ownsRow base e 1 v n xs) (hlen : n ≤ 1000000) (hbase : base ≤ w.heap.size)
    (hx : a.eval x = v) (hy : a.eval y = .slice (some ⟨w.heap.size, 0, none⟩) 1 1)
    (h : ∀ v' w', w'.ownsRow base e 1 v' (n + 1) (xs ++ [u]) → Below base w w' → wpList P ops Q rest (a.put d v') w') :
    wpList P ops Q ({ dst := d, op := .call { callee := .builtin .append, args := #[x, y], argTypes := #[t, t] }, type := ty, pos := ps, after := af, guard := none } :: rest) a (w.alloc (.cells #[u] e)) := by
  refine wpList_append_lies _ rfl x y t rfl base e i z 1 bytes ht hi hz hsize hby hzs (by decide) v n xs hx (hO.alloc _)
    ⟨w.heap.size, 0, none⟩ 1 1 [u] hy rfl (one_cell w u e _ rfl) ?_ (by decide) ?_ ?_ ?_ (w.heap.size + 1) (by simp) ?_
  · intro q hq; simp at hq; subst hq; exact hu
  · unfold maxLen; omega
  · have : (n + 1) * bytes ≤ 1000001 * 16 := Nat.mul_le_mul (by omega) hb
    omega
  · simp; omega
  · intro g cap w' hown hgrow hg _
    exact h _ _ hown (((Below.refl _ _).alloc hbase _).grown hgrow (by simp; omega) (own_ge hO))
/-- The same at a step of a region that draws its order. -/
theorem step_append1 {P : Program} {ops : Array Oper} {o : Oper} {a : Act} {w : World} {K : Act → World → Prop} {Q : Exit → Act → World → Prop} {E : Prop} (hgd : o.guard = none) (x y : Operand) {u : Value} {t e : TypeId} (ho : o.op = .call { callee := .builtin .append, args := #[x, y], argTypes := #[t, t] })
    {i : TypeInfo} {z : Value} {bytes : Nat} (ht : P.underlying t = some (.slice e)) (hi : P.info? e = some i) (hz : i.zero = some z) (hsize : i.size = 1) (hby : i.bytes = bytes) (hzs : z.cells.size = 1) (hb : bytes ≤ 16) (hu : u.oneCell' = true)
    (base : Nat) (v : Value) (n : Nat) (xs : List Value) (hO : w.ownsRow base e 1 v n xs) (hlen : n ≤ 1000000) (hbase : base ≤ w.heap.size)
    (hx : a.eval x = v) (hy : a.eval y = .slice (some ⟨w.heap.size, 0, none⟩) 1 1)
    (h : ∀ v' w', w'.ownsRow base e 1 v' (n + 1) (xs ++ [u]) → Below base w w' → K (a.put o.dst v') w') :
    if Region.wanted o (yielded ops a.tmps) = true then Oper.wp P o a (w.alloc (.cells #[u] e)) K Q else E := by
  refine step_append_lies _ hgd x y t ho base e i z 1 bytes ht hi hz hsize hby hzs (by decide) v n xs hx (hO.alloc _)
    ⟨w.heap.size, 0, none⟩ 1 1 [u] hy rfl (one_cell w u e _ rfl) ?_ (by decide) ?_ ?_ ?_ (w.heap.size + 1) (by simp) ?_
  · intro q hq; simp at hq; subst hq; exact hu
  · unfold maxLen; omega
  · have : (n + 1) * bytes ≤ 1000001 * 16 := Nat.mul_le_mul (by omega) hb
    omega
  · simp; omega
  · intro g cap w' hown hgrow hg _
    exact h _ _ hown (((Below.refl _ _).alloc hbase _).grown hgrow (by simp; omega) (own_ge hO))
/-- 'append([]T(nil), l...)' of a list that the call owns: a copy; at a step of a region that draws its order. -/
theorem step_append_copy {P : Program} {ops : Array Oper} {o : Oper} {a : Act} {w : World} {K : Act → World → Prop} {Q : Exit → Act → World → Prop} {E : Prop} (hgd : o.guard = none) (x y : Operand) {t e : TypeId} (ho : o.op = .call { callee := .builtin .append, args := #[x, y], argTypes := #[t, t] })
    {i : TypeInfo} {z : Value} {bytes : Nat} (ht : P.underlying t = some (.slice e)) (hi : P.info? e = some i) (hz : i.zero = some z) (hsize : i.size = 1) (hby : i.bytes = bytes) (hzs : z.cells.size = 1) (hb : bytes ≤ 16)
    (base : Nat) (v : Value) (n : Nat) (xs : List Value) (hO : w.ownsRow base e 1 v n xs) (hone : ∀ q ∈ xs, q.oneCell' = true) (hlen : n ≤ 1000000)
    (hx : a.eval x = .slice none 0 0) (hy : a.eval y = v)
    (h : ∀ v' w', w'.ownsRow w.heap.size e 1 v' n xs → Below w.heap.size w w' → K (a.put o.dst v') w') :
    if Region.wanted o (yielded ops a.tmps) = true then Oper.wp P o a w K Q else E := by
  have hw : Region.wanted o (yielded ops a.tmps) = true := by simp [Region.wanted, hgd]
  rw [if_pos hw]
  rcases hO.2 with ⟨rfl, rfl⟩ | ⟨g, cap, cur, rfl, _⟩
  · have hx0 : xs = [] := List.eq_nil_of_length_eq_zero (by simpa using hO.1)
    subst hx0
    have hrun := run_append_owned_none (P := P) (w := w) w.heap.size t o.type e i 1 ht hi (.slice none 0 0) 0 [] (World.ownsRow_nil _ _ _ _)
    have hK := h _ _ (World.ownsRow_nil w w.heap.size e 1) (Below.refl _ _)
    unfold Oper.wp
    simp [execOp, ho, resolve, invoke, builtin, hx, hy, hrun, Result.andThen]
    exact hK
  · refine wp_append_own w x y t ho w.heap.size e i z 1 bytes ht hi hz hsize hby hzs (by decide) (.slice none 0 0) 0 [] hx (World.ownsRow_nil _ _ _ _) ⟨g, 0, none⟩ n cap xs hy hO.1 (hO.cells rfl) hone (by unfold maxLen; omega) ?_ (Nat.le_refl _) ?_
    · have : (0 + n) * bytes ≤ 1000000 * 16 := Nat.mul_le_mul (by omega) hb
      omega
    · intro v' w' h1 h2 _
      rw [Nat.zero_add, List.nil_append] at h1
      exact h v' w' h1 ((Below.refl _ _).grown h2 (Nat.le_refl _) (by intro k hk; cases hk))
/-- A whole struct or array out of its block, and into it, in one step. -/
theorem at_load_row {P : Program} {ops : Array Oper} {rest : List Oper} {a : Act} {w : World} {Q : Exit → Act → World → Prop} {d : Option Tmp} {x : Operand} {ty tt t : TypeId} {ps : String} {af : Array Edge} {g : Nat} {cs : Array Value} {fr : Nat × Nat} {de : TypeDesc}
    (hg : w.heap[g]? = some (.cells cs t fr)) (hu : P.underlying tt = some de) (hd : (match de with | .struct _ | .array _ _ => true | _ => false) = true) (hi : (P.info? tt).map (·.size) = some cs.size) (hx : a.eval x = .pointer (some ⟨g, 0, none⟩))
    (h : wpList P ops Q rest (a.put d (.agg cs)) w) : wpList P ops Q ({ dst := d, op := .load tt x, type := ty, pos := ps, after := af, guard := none } :: rest) a w :=
  wpList_load_row rfl tt x rfl g hx t cs fr de hg hu hd hi h
/-- The same under a guard that says yes. -/
theorem at_load_rowG {P : Program} {ops : Array Oper} {rest : List Oper} {a : Act} {w : World} {Q : Exit → Act → World → Prop} {d : Option Tmp} {x : Operand} {ty tt t : TypeId} {ps : String} {af : Array Edge} {gd : Nat × Bool} {g : Nat} {cs : Array Value} {fr : Nat × Nat} {de : TypeDesc}
    (hg : w.heap[g]? = some (.cells cs t fr)) (hu : P.underlying tt = some de) (hd : (match de with | .struct _ | .array _ _ => true | _ => false) = true) (hi : (P.info? tt).map (·.size) = some cs.size) (hx : a.eval x = .pointer (some ⟨g, 0, none⟩))
    (hw : Region.wanted ({ dst := d, op := .load tt x, type := ty, pos := ps, after := af, guard := some gd } : Oper) (yielded ops a.tmps) = true)
    (h : wpList P ops Q rest (a.put d (.agg cs)) w) : wpList P ops Q ({ dst := d, op := .load tt x, type := ty, pos := ps, after := af, guard := some gd } :: rest) a w :=
  BigFrame.wpList_want hw fun K hK => wp_load_row tt x rfl g hx t cs fr de hg hu hd hi (hK _ _ h)
theorem at_store_row {P : Program} {ops : Array Oper} {rest : List Oper} {a : Act} {w : World} {Q : Exit → Act → World → Prop} {d : Option Tmp} {x y : Operand} {ty tt t : TypeId} {ps : String} {af : Array Edge} {g : Nat} {old : Array Value} (cs : Array Value)
    (hg : w.heap[g]? = some (.cells old t (0, 0))) (hi : (P.info? tt).map (·.size) = some cs.size) (ho : old.size = cs.size) (h1 : cs.all (·.oneCell') = true) (hx : a.eval x = .pointer (some ⟨g, 0, none⟩)) (hy : a.eval y = .agg cs)
    (h : wpList P ops Q rest (a.put d undef) (w.setRow g cs)) : wpList P ops Q ({ dst := d, op := .store tt x y, type := ty, pos := ps, after := af, guard := none } :: rest) a w :=
  wpList_store_row rfl tt x y rfl g cs hx hy t old hg hi ho h1 h
theorem below_setRow' {B : Nat} {w w1 : World} (h : Below B w w1) {g : Nat} (hg : B ≤ g) (cs : Array Value) : Below B w (w1.setRow g cs) :=
  ⟨h.os, h.tape, h.output, by simp; exact h.size, fun i hi => (setRow_other w1 g i cs (by omega)).trans (h.block i hi)⟩
/-- A new variable, filled at once: behind it the world is a letter. -/
theorem at_new_row {P : Program} {ops : Array Oper} {rest : List Oper} {a : Act} {w : World} {Q : Exit → Act → World → Prop} {d : Option Tmp} {x y : Operand} {ty tt t : TypeId} {ps : String} {af : Array Edge} {old : Array Value} (cs : Array Value)
    (hi : (P.info? tt).map (·.size) = some cs.size) (ho : old.size = cs.size) (h1 : cs.all (·.oneCell') = true) (hx : a.eval x = .pointer (some ⟨w.heap.size, 0, none⟩)) (hy : a.eval y = .agg cs)
    (h : ∀ W : World, W.heap[w.heap.size]? = some (.cells cs t (0, 0)) → Below w.heap.size w W → wpList P ops Q rest (a.put d undef) W) :
    wpList P ops Q ({ dst := d, op := .store tt x y, type := ty, pos := ps, after := af, guard := none } :: rest) a (w.alloc (.cells old t)) :=
  wpList_store_row rfl tt x y rfl w.heap.size cs hx hy t old (heap_alloc_new w _) hi ho h1 (h _ (setRow_heap _ _ _ _ _ _ (heap_alloc_new w _)) (below_setRow' ((Below.refl _ _).alloc (Nat.le_refl _) _) (Nat.le_refl _) _))
/-- Two results: a variable of many cells, and a word. -/
theorem results_cell_tmp {P : Program} {fn : Func} {p q : Tmp} {ty : TypeId} (h : fn.results = #[.cell p ty, .tmp q]) (tmps : Array Value) (w : World) (g : Nat) (t : TypeId) (cs : Array Value) (fr : Nat × Nat) (d : TypeDesc)
    (hp : tmps.getD p undef = .pointer (some ⟨g, 0, none⟩)) (hg : w.heap[g]? = some (.cells cs t fr))
    (hu : P.underlying ty = some d) (hd : (match d with | .struct _ | .array _ _ => true | _ => false) = true) (hi : (P.info? ty).map (·.size) = some cs.size) (v : Value) (hv : tmps.getD q undef = v) :
    (results fn tmps).run P w = .ok (.tuple #[.agg cs, v]) w := by
  have hp' : tmps[p]?.getD undef = .pointer (some ⟨g, 0, none⟩) := by simpa using hp
  have hv' : tmps[q]?.getD undef = v := by simpa using hv
  simp [results, h, hp', hv', asAddr, run_loadVar_row w g t ty cs fr d hg hu hd hi]
end Go.Proofs.YtnpklkenjaambaaDoor
