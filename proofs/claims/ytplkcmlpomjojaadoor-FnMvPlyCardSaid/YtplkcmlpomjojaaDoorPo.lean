/- The reference's words for squares, pieces and ways: what each computes. -/
import Derived.Test.YtplkcmlpomjojaaDoorPi
import Derived.LoopTactic
import Derived.Deep.LoopGhost
import Derived.OwnWalk
import Derived.Great.Walk
namespace Go.Proofs.YtplkcmlpomjojaaDoor
open Go Go.RowKit
set_option maxHeartbeats 1000000
set_option linter.unusedSimpArgs false
set_option linter.unusedVariables false
set_option maxRecDepth 100000

theorem po_kindOf (x : Int) (w : World) (h1 : x < 4294967296) :
    Calls Tryd.prog 24 #[.int .i64 x] w fun e w' => e = .returned (.int .i64 (kindOf x)) ∧ w = w' := by
  go_enter Tryd.func24, Tryd.ntmps24
  by_cases h : x > 6
  · go_wp2
    go_ret
    exact ⟨by simp [kindOf, h], rfl⟩
  · go_wp2
    go_ret
    refine ⟨?_, rfl⟩
    show Ending.returned (.int .i64 x) = _
    rw [kindOf, if_neg (by omega)]
theorem po_info2 : (Tryd.prog.info? 91).map (fun i => (i.zero, i.size, i.bytes)) = some (some (.agg #[.int .i64 0, .int .i64 0]), 2, 16) := by kernel_rfl

def straightL : List Int := [0, 1, 1, 0, 0, -1, -1, 0]
def slantingL : List Int := [1, 1, 1, -1, -1, -1, -1, 1]
def jumpsL : List Int := [1, 2, 2, 1, 2, -1, 1, -2, -1, -2, -2, -1, -2, 1, -1, 2]

theorem po_straight (w : World) :
    Calls Tryd.prog 72 #[] w fun e w' => e = .returned (.slice (some ⟨w.heap.size, 0, none⟩) 4 4) ∧ w' = w.alloc (.cells (ints straightL) 91) := by
  go_enter Tryd.func72, Tryd.ntmps72
  go_wp2
  go_ret
  exact ⟨rfl, rfl⟩
theorem po_slanting (w : World) :
    Calls Tryd.prog 73 #[] w fun e w' => e = .returned (.slice (some ⟨w.heap.size, 0, none⟩) 4 4) ∧ w' = w.alloc (.cells (ints slantingL) 91) := by
  go_enter Tryd.func73, Tryd.ntmps73
  go_wp2
  go_ret
  exact ⟨rfl, rfl⟩
theorem po_jumps (w : World) :
    Calls Tryd.prog 74 #[] w fun e w' => e = .returned (.slice (some ⟨w.heap.size, 0, none⟩) 8 8) ∧ w' = w.alloc (.cells (ints jumpsL) 91) := by
  go_enter Tryd.func74, Tryd.ntmps74
  go_wp2
  go_ret
  exact ⟨rfl, rfl⟩

/-- A slice of this many pairs of integers, that was made since. -/
def pairsAt (w : World) (base : Nat) (v : Value) (l : List Int) : Prop :=
  ∃ g cap, v = .slice (some ⟨g, 0, none⟩) (l.length / 2) cap ∧ base ≤ g ∧ g < w.heap.size ∧ l.length % 2 = 0 ∧ ∀ i, i < l.length → w.cell? ⟨g, i, none⟩ = some (.int .i64 (l.getD i 0))
theorem pairsAt.below {w w' : World} {base : Nat} {v : Value} {l : List Int} (h : pairsAt w base v l) (hb : Below w.heap.size w w') : pairsAt w' base v l := by
  obtain ⟨g, cap, h1, h2, h3, h4, h5⟩ := h
  exact ⟨g, cap, h1, h2, Nat.lt_of_lt_of_le h3 hb.size, h4, fun i hi => (hb.cell (p := ⟨g, i, none⟩) h3).trans (h5 i hi)⟩
theorem pairsAt_new (w : World) (base : Nat) (l : List Int) (n cap : Nat) (t : TypeId) (hb : base ≤ w.heap.size) (hn : n = l.length / 2) (h2 : l.length % 2 = 0) : pairsAt (w.alloc (.cells (ints l) t)) base (.slice (some ⟨w.heap.size, 0, none⟩) n cap) l := by
  subst hn
  refine ⟨w.heap.size, cap, rfl, hb, by simp, h2, fun i hi => ?_⟩
  rw [cell_of_row _ _ _ _ _ _ (heap_alloc_new w _)]
  exact ints_get l i hi
theorem pairsAt_own {w : World} {base : Nat} {e : TypeId} {v : Value} {n : Nat} {l : List Int} (h : w.ownsRow base e 2 v n (l.map (Value.int .i64))) (hn : 0 < n) : pairsAt w base v l := by
  obtain ⟨h1, h | ⟨g, cap, cur, rfl, hb, hg, _, _, _, hx⟩⟩ := h
  · omega
  simp only [List.length_map] at h1
  refine ⟨g, cap, by rw [h1]; simp, hb, ?_, by omega, fun i hi => ?_⟩
  · exact (Array.getElem?_eq_some_iff.1 hg).1
  · rw [cell_of_row _ _ _ _ _ _ hg]
    have : (cur.toList.take (n * 2))[i]? = some (.int .i64 (l.getD i 0)) := by rw [hx]; simp [hi]
    rw [List.getElem?_take] at this
    split at this
    · simpa using this
    · cases this

def waysL (k : Int) : List Int := if k = 1 ∨ k = 2 then straightL ++ slantingL else if k = 3 then straightL else if k = 4 then slantingL else jumpsL
def farL (k : Int) : Bool := k == 2 || k == 3 || k == 4
theorem po_ways (k : Int) (w : World) :
    Calls Tryd.prog 60 #[.int .i64 k] w fun e w' => ∃ v, e = .returned (.tuple #[v, .bool (farL k)]) ∧ pairsAt w' w.heap.size v (waysL k) ∧ Below w.heap.size w w' := by
  go_enter Tryd.func60, Tryd.ntmps60
  obtain ⟨i0, hi, hz0, hz1, hz2⟩ := info_parts po_info2
  by_cases h1 : k = 1
  · subst h1
    go_wp2_with (first | (go_at_call 72; refine (po_straight _).mono ?_; rintro e w1 ⟨rfl, rfl⟩) | (go_at_call 73; refine (po_slanting _).mono ?_; rintro e w1 ⟨rfl, rfl⟩) | (at_builtin; refine wpList_append_own _ rfl _ _ 88 rfl w.heap.size 91 i0 _ 2 16 Tryd.underlying88 hi hz0 hz1 hz2 rfl (by decide) _ 4 (straightL.map (Value.int .i64)) rfl ?c0 ⟨w.heap.size + 1, 0, none⟩ 4 4 (slantingL.map (Value.int .i64)) ?c6 rfl ?c1 ?c2 ?c3 ?c4 ?c5 ?_))
    case c0 => exact (World.ownsRow_lit _ _ _ (Nat.le_refl _) (by decide) (by decide)).alloc _
    case c6 => rfl
    case c1 => exact new_cells _ _ _ _ (by simp)
    case c2 => decide
    case c3 => decide
    case c4 => decide
    case c5 => simp; omega
    · intro v' w2 hown hgrow _
      have hb2 : Below w.heap.size w w2 := (((Below.refl _ _).alloc (Nat.le_refl _) _).alloc (by simp) _).grown hgrow (by simp; omega) (by simp [Value.ownBlock])
      go_wp2
      go_ret2
      exact ⟨_, rfl, pairsAt_own (l := straightL ++ slantingL) hown (by decide), hb2⟩
  by_cases h2 : k = 2
  · subst h2
    go_wp2_with (first | (go_at_call 72; refine (po_straight _).mono ?_; rintro e w1 ⟨rfl, rfl⟩) | (go_at_call 73; refine (po_slanting _).mono ?_; rintro e w1 ⟨rfl, rfl⟩) | (at_builtin; refine wpList_append_own _ rfl _ _ 88 rfl w.heap.size 91 i0 _ 2 16 Tryd.underlying88 hi hz0 hz1 hz2 rfl (by decide) _ 4 (straightL.map (Value.int .i64)) rfl ?c0 ⟨w.heap.size + 1, 0, none⟩ 4 4 (slantingL.map (Value.int .i64)) ?c6 rfl ?c1 ?c2 ?c3 ?c4 ?c5 ?_))
    case c0 => exact (World.ownsRow_lit _ _ _ (Nat.le_refl _) (by decide) (by decide)).alloc _
    case c6 => rfl
    case c1 => exact new_cells _ _ _ _ (by simp)
    case c2 => decide
    case c3 => decide
    case c4 => decide
    case c5 => simp; omega
    · intro v' w2 hown hgrow _
      have hb2 : Below w.heap.size w w2 := (((Below.refl _ _).alloc (Nat.le_refl _) _).alloc (by simp) _).grown hgrow (by simp; omega) (by simp [Value.ownBlock])
      go_wp2
      go_ret2
      exact ⟨_, rfl, pairsAt_own (l := straightL ++ slantingL) hown (by decide), hb2⟩
  by_cases h3 : k = 3
  · subst h3
    go_wp2_with fail
    refine (po_straight _).mono ?_
    rintro e w1 ⟨rfl, rfl⟩
    go_wp2
    go_ret2
    exact ⟨_, rfl, pairsAt_new _ _ _ _ _ _ (Nat.le_refl _) (by decide) (by decide), (Below.refl _ _).alloc (Nat.le_refl _) _⟩
  by_cases h4 : k = 4
  · subst h4
    go_wp2_with fail
    refine (po_slanting _).mono ?_
    rintro e w1 ⟨rfl, rfl⟩
    go_wp2
    go_ret2
    exact ⟨_, rfl, pairsAt_new _ _ _ _ _ _ (Nat.le_refl _) (by decide) (by decide), (Below.refl _ _).alloc (Nat.le_refl _) _⟩
  go_wp2_with fail
  refine (po_jumps _).mono ?_
  rintro e w1 ⟨rfl, rfl⟩
  go_wp2
  go_ret2
  have e1 : farL k = false := by simp [farL, h2, h3, h4]
  refine ⟨.slice (some ⟨w.heap.size, 0, none⟩) 8 8, by rw [e1]; rfl, ?_, (Below.refl _ _).alloc (Nat.le_refl _) _⟩
  rw [waysL, if_neg (by omega), if_neg (by omega), if_neg (by omega)]
  exact pairsAt_new _ _ _ _ _ _ (Nat.le_refl _) (by decide) (by decide)

theorem at_load_pos {ops : Array Oper} {rest : List Oper} {a : Act} {w : World} {Q : Exit → Act → World → Prop} {d : Option Tmp} {x : Operand} {ty : TypeId} {ps : String} {af : Array Edge} {g : Nat} {l : List Int}
    (hg : w.heap[g]? = some (.cells (ints l) 24 (0, 0))) (hl : l.length = 69) (hx : a.eval x = .pointer (some ⟨g, 0, none⟩))
    (h : wpList Tryd.prog ops Q rest (a.put d (.agg (ints l))) w) : wpList Tryd.prog ops Q ({ dst := d, op := .load 24 x, type := ty, pos := ps, after := af, guard := none } :: rest) a w :=
  wpList_load_row rfl 24 x rfl g hx 24 (ints l) (0, 0) _ hg Tryd.underlying24 rfl (by rw [ints_size, hl]; kernel_rfl) h
theorem at_store_pos {ops : Array Oper} {rest : List Oper} {a : Act} {w : World} {Q : Exit → Act → World → Prop} {d : Option Tmp} {x y : Operand} {ty : TypeId} {ps : String} {af : Array Edge} {g : Nat} {old : List Int} (l : List Int)
    (hg : w.heap[g]? = some (.cells (ints old) 24 (0, 0))) (hold : old.length = 69) (hl : l.length = 69) (hx : a.eval x = .pointer (some ⟨g, 0, none⟩)) (hy : a.eval y = .agg (ints l))
    (h : wpList Tryd.prog ops Q rest (a.put d undef) (w.setRow g (ints l))) : wpList Tryd.prog ops Q ({ dst := d, op := .store 24 x y, type := ty, pos := ps, after := af, guard := none } :: rest) a w :=
  wpList_store_row rfl 24 x y rfl g (ints l) hx hy 24 (ints old) hg (by rw [ints_size, hl]; kernel_rfl) (by rw [ints_size, ints_size, hl, hold]) (ints_one l) h

theorem pos_zero : Tryd.zeroCells24 = ints (List.replicate 69 0) := by kernel_rfl
theorem pos_alloc (w : World) : (w.alloc (.cells Tryd.zeroCells24 24)).heap[w.heap.size]? = some (.cells (ints (List.replicate 69 0)) 24 (0, 0)) := by
  rw [heap_alloc_new, pos_zero]
end Go.Proofs.YtplkcmlpomjojaaDoor
