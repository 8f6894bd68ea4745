/- One element (of one or more cells) is appended to a list that the call owns: besides what it gives, all other blocks are as they were. For every program and type. -/
import Derived.Test.YtplkcmlpomjojaaDoorAp
import Derived.Laws.AppendOwnNone
namespace Go.Proofs.YtplkcmlpomjojaaDoor
open Go Go.RowKit
set_option linter.unusedVariables false

theorem news_cell (w : World) (us : List Value) (t : TypeId) (b : Nat) (hb : b = w.heap.size) : ∀ j v, us[j]? = some v → (w.alloc (.cells us.toArray t)).cell? ((⟨b, 0, none⟩ : Addr).add j) = some v := by
  subst hb
  intro j v h
  have e : (⟨w.heap.size, 0, none⟩ : Addr).add j = ⟨w.heap.size, j, none⟩ := by unfold Addr.add; split <;> simp_all
  rw [e, cell_of_row _ _ _ _ _ _ (heap_alloc_new w _)]
  simpa using h
theorem at_appendk {P : Program} {ops : Array Oper} {rest : List Oper} {a : Act} {w : World} {Q : Exit → Act → World → Prop} {d : Option Tmp} {x y : Operand} {ty : TypeId} {ps : String} {af : Array Edge} {t e : TypeId}
    (us : List Value) {esz : Nat} (hes : us.length = esz) {i : TypeInfo} {z : Value} {bytes : Nat} (ht : P.underlying t = some (.slice e)) (hi : P.info? e = some i) (hz : i.zero = some z) (hsize : i.size = esz) (hby : i.bytes = bytes) (hzs : z.cells.size = esz) (h0 : 0 < esz) (hb : bytes ≤ 100) (hu : ∀ u ∈ us, u.oneCell' = true)
    (base : Nat) (v : Value) (n : Nat) (xs : List Value) (hO : w.ownsRow base e esz v n xs) (hlen : n ≤ 1000000) (hbase : base ≤ w.heap.size)
    (hx : a.eval x = v) (hy : a.eval y = .slice (some ⟨w.heap.size, 0, none⟩) 1 1)
    (h : ∀ v' w', w'.ownsRow base e esz v' (n + 1) (xs ++ us) → Below base w w' → (∀ g, g < w.heap.size → v.ownBlock ≠ some g → w'.heap[g]? = w.heap[g]?) → (∀ g, g < w.heap.size → v.ownBlock ≠ some g → v'.ownBlock ≠ some g) → w.heap.size ≤ w'.heap.size → wpList P ops Q rest (a.put d v') w') :
    wpList P ops Q ({ dst := d, op := .call { callee := .builtin .append, args := #[x, y], argTypes := #[t, t] }, type := ty, pos := ps, after := af, guard := none } :: rest) a (w.alloc (.cells us.toArray e)) := by
  refine wpList_append_lies _ rfl x y t rfl base e i z esz bytes ht hi hz hsize hby hzs h0 v n xs hx (hO.alloc _)
    ⟨w.heap.size, 0, none⟩ 1 1 us hy (by simpa using hes) (news_cell w us e _ rfl) hu (by decide) ?_ ?_ ?_ (w.heap.size + 1) (by simp) ?_
  · unfold maxLen; omega
  · have : (n + 1) * bytes ≤ 1000001 * 100 := Nat.mul_le_mul (by omega) hb
    omega
  · simp; omega
  · intro g cap w' hown hgrow hg hlt
    have hsz := hgrow.size
    rw [World.size_alloc] at hsz
    refine h _ _ hown (((Below.refl _ _).alloc hbase _).grown hgrow (by simp; omega) (own_ge hO)) (fun k hk hne => ?_) (fun k hk hne he => ?_) (by omega)
    · have e1 : w'.heap[k]? = (w.alloc (.cells us.toArray e)).heap[k]? := hgrow.block k (by simp; omega) (fun e2 => hne e2.symm)
      rw [e1, heap_alloc_old _ _ hk]
    · have e3 : g = k := by simpa [Value.ownBlock] using he
      subst e3
      rcases hg with hg | hg
      · exact hne hg
      · omega
/-- A list that was made is appended as a whole to a list that the call owns. -/
theorem at_append_all {P : Program} {ops : Array Oper} {rest : List Oper} {a : Act} {w : World} {Q : Exit → Act → World → Prop} {d : Option Tmp} {x y : Operand} {ty : TypeId} {ps : String} {af : Array Edge} {t e : TypeId}
    {esz : Nat} {i : TypeInfo} {z : Value} {bytes : Nat} (ht : P.underlying t = some (.slice e)) (hi : P.info? e = some i) (hz : i.zero = some z) (hsize : i.size = esz) (hby : i.bytes = bytes) (hzs : z.cells.size = esz) (h0 : 0 < esz) (hb : bytes ≤ 100)
    (base : Nat) (v : Value) (n : Nat) (xs : List Value) (hO : w.ownsRow base e esz v n xs) (base' : Nat) (u : Value) (m : Nat) (ys : List Value) (hS : w.ownsRow base' e esz u m ys) (hone : ∀ q ∈ ys, q.oneCell' = true) (hlen : n + m ≤ 1000000) (hbase : base ≤ w.heap.size)
    (hx : a.eval x = v) (hy : a.eval y = u)
    (h : ∀ v' w', w'.ownsRow base e esz v' (n + m) (xs ++ ys) → Below base w w' → w.heap.size ≤ w'.heap.size → wpList P ops Q rest (a.put d v') w') :
    wpList P ops Q ({ dst := d, op := .call { callee := .builtin .append, args := #[x, y], argTypes := #[t, t] }, type := ty, pos := ps, after := af, guard := none } :: rest) a w := by
  rcases hS.2 with ⟨rfl, rfl⟩ | ⟨g, cap, cur, rfl, _⟩
  · have hx0 : ys = [] := List.eq_nil_of_length_eq_zero (by simpa using hS.1)
    subst hx0
    refine wpList_append_own_none rfl x y t rfl base e i esz ht hi v n xs hx hO hy ?_
    exact h v w (by simpa using hO) (Below.refl _ _) (Nat.le_refl _)
  · refine wpList_append_own _ rfl x y t rfl base e i z esz bytes ht hi hz hsize hby hzs h0 v n xs hx hO ⟨g, 0, none⟩ m cap ys hy hS.1 (hS.cells rfl) hone (by unfold maxLen; omega) ?_ hbase ?_
    · have : (n + m) * bytes ≤ 1000000 * 100 := Nat.mul_le_mul (by omega) hb
      omega
    · intro v' w' h1 h2 _
      exact h v' w' h1 ((Below.refl base w).grown h2 hbase (own_ge hO)) h2.size
end Go.Proofs.YtplkcmlpomjojaaDoor
