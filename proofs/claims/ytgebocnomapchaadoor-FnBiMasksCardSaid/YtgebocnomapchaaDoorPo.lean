/- The reference's words for squares, pieces and ways: what each computes. -/
import Derived.Test.YtgebocnomapchaaDoorKit
import Derived.LoopTactic
import Derived.Deep.LoopGhost
import Derived.OwnWalk
import Derived.Great.Walk
namespace Go.Proofs.YtgebocnomapchaaDoor
open Go Go.RowKit
set_option maxHeartbeats 1000000
set_option linter.unusedSimpArgs false
set_option linter.unusedVariables false
set_option maxRecDepth 100000

/-- Integers as cells. -/
def ints (l : List Int) : Array Value := (l.map (Value.int .i64)).toArray
theorem ints_size (l : List Int) : (ints l).size = l.length := by simp [ints]
theorem ints_get (l : List Int) (i : Nat) (h : i < l.length) : (ints l)[i]? = some (.int .i64 (l.getD i 0)) := by simp [ints, h]

def kindOf (x : Int) : Int := if x > 6 then x - 6 else x
def sideOf (x : Int) : Int := if x > 6 then 1 else 0
def atSq (f r : Int) : Int := if f < 0 ∨ f > 7 ∨ r < 0 ∨ r > 7 then -1 else 8 * r + f

theorem po_file (s : Int) (w : World) (h0 : 0 ≤ s) (h1 : s < 4294967296) :
    Calls Tryd.prog 12 #[.int .i64 s] w fun e w' => e = .returned (.int .i64 (s % 8)) ∧ w = w' := by
  go_enter Tryd.func12, Tryd.ntmps12
  go_wp2
  go_ret
  exact ⟨rfl, rfl⟩
theorem po_rank (s : Int) (w : World) (h0 : 0 ≤ s) (h1 : s < 4294967296) :
    Calls Tryd.prog 13 #[.int .i64 s] w fun e w' => e = .returned (.int .i64 (s / 8)) ∧ w = w' := by
  go_enter Tryd.func13, Tryd.ntmps13
  go_wp2
  go_ret
  exact ⟨rfl, rfl⟩
theorem po_kindOf (x : Int) (w : World) (h1 : x < 4294967296) :
    Calls Tryd.prog 76 #[.int .i64 x] w fun e w' => e = .returned (.int .i64 (kindOf x)) ∧ w = w' := by
  go_enter Tryd.func76, Tryd.ntmps76
  by_cases h : x > 6
  · go_wp2
    go_ret
    exact ⟨by simp [kindOf, h], rfl⟩
  · go_wp2
    go_ret
    refine ⟨?_, rfl⟩
    show Ending.returned (.int .i64 x) = _
    rw [kindOf, if_neg (by omega)]
theorem po_of (k s : Int) (w : World) (h0 : 0 ≤ k) (h1 : k ≤ 6) (h2 : 0 ≤ s) (h3 : s ≤ 1) :
    Calls Tryd.prog 56 #[.int .i64 k, .int .i64 s] w fun e w' => e = .returned (.int .i64 (k + 6 * s)) ∧ w = w' := by
  go_enter Tryd.func56, Tryd.ntmps56
  go_wp2
  go_ret
  exact ⟨rfl, rfl⟩
theorem po_at (f r : Int) (w : World) (hf : -4294967296 < f) (hf1 : f < 4294967296) (hr : -4294967296 < r) (hr1 : r < 4294967296) :
    Calls Tryd.prog 77 #[.int .i64 f, .int .i64 r] w fun e w' => e = .returned (.int .i64 (atSq f r)) ∧ w = w' := by
  go_enter Tryd.func77, Tryd.ntmps77
  by_cases h1 : f < 0
  · go_wp2
    go_ret
    exact ⟨by simp [atSq, h1], rfl⟩
  by_cases h2 : f > 7
  · go_wp2
    go_ret
    exact ⟨by simp [atSq, h2], rfl⟩
  by_cases h3 : r < 0
  · go_wp2
    go_ret
    exact ⟨by simp [atSq, h3], rfl⟩
  by_cases h4 : r > 7
  · go_wp2
    go_ret
    exact ⟨by simp [atSq, h4], rfl⟩
  go_wp2
  go_ret
  refine ⟨?_, rfl⟩
  show Ending.returned (.int .i64 (8 * r + f)) = _
  rw [atSq, if_neg (by omega)]

theorem po_info2 : (Tryd.prog.info? 93).map (fun i => (i.zero, i.size, i.bytes)) = some (some (.agg #[.int .i64 0, .int .i64 0]), 2, 16) := by kernel_rfl

def straightL : List Int := [0, 1, 1, 0, 0, -1, -1, 0]
def slantingL : List Int := [1, 1, 1, -1, -1, -1, -1, 1]
def jumpsL : List Int := [1, 2, 2, 1, 2, -1, 1, -2, -1, -2, -2, -1, -2, 1, -1, 2]

theorem po_straight (w : World) :
    Calls Tryd.prog 84 #[] w fun e w' => e = .returned (.slice (some ⟨w.heap.size, 0, none⟩) 4 4) ∧ w' = w.alloc (.cells (ints straightL) 93) := by
  go_enter Tryd.func84, Tryd.ntmps84
  go_wp2
  go_ret
  exact ⟨rfl, rfl⟩
theorem po_slanting (w : World) :
    Calls Tryd.prog 85 #[] w fun e w' => e = .returned (.slice (some ⟨w.heap.size, 0, none⟩) 4 4) ∧ w' = w.alloc (.cells (ints slantingL) 93) := by
  go_enter Tryd.func85, Tryd.ntmps85
  go_wp2
  go_ret
  exact ⟨rfl, rfl⟩
theorem po_jumps (w : World) :
    Calls Tryd.prog 86 #[] w fun e w' => e = .returned (.slice (some ⟨w.heap.size, 0, none⟩) 8 8) ∧ w' = w.alloc (.cells (ints jumpsL) 93) := by
  go_enter Tryd.func86, Tryd.ntmps86
  go_wp2
  go_ret
  exact ⟨rfl, rfl⟩

/-- A slice of this many pairs of integers, that was made since. -/
def pairsAt (w : World) (base : Nat) (v : Value) (l : List Int) : Prop :=
  ∃ g cap, v = .slice (some ⟨g, 0, none⟩) (l.length / 2) cap ∧ base ≤ g ∧ g < w.heap.size ∧ l.length % 2 = 0 ∧ ∀ i, i < l.length → w.cell? ⟨g, i, none⟩ = some (.int .i64 (l.getD i 0))
theorem pairsAt.below {w w' : World} {base : Nat} {v : Value} {l : List Int} (h : pairsAt w base v l) (hb : Below w.heap.size w w') : pairsAt w' base v l := by
  obtain ⟨g, cap, h1, h2, h3, h4, h5⟩ := h
  exact ⟨g, cap, h1, h2, Nat.lt_of_lt_of_le h3 hb.size, h4, fun i hi => (hb.cell (p := ⟨g, i, none⟩) h3).trans (h5 i hi)⟩
theorem pairsAt_new (w : World) (base : Nat) (l : List Int) (n cap : Nat) (t : TypeId) (hb : base ≤ w.heap.size) (hn : n = l.length / 2) (h2 : l.length % 2 = 0) : pairsAt (w.alloc (.cells (ints l) t)) base (.slice (some ⟨w.heap.size, 0, none⟩) n cap) l := by
  subst hn
  refine ⟨w.heap.size, cap, rfl, hb, by simp, h2, fun i hi => ?_⟩
  rw [cell_of_row _ _ _ _ _ _ (heap_alloc_new w _)]
  exact ints_get l i hi
theorem pairsAt_own {w : World} {base : Nat} {e : TypeId} {v : Value} {n : Nat} {l : List Int} (h : w.ownsRow base e 2 v n (l.map (Value.int .i64))) (hn : 0 < n) : pairsAt w base v l := by
  obtain ⟨h1, h | ⟨g, cap, cur, rfl, hb, hg, _, _, _, hx⟩⟩ := h
  · omega
  simp only [List.length_map] at h1
  refine ⟨g, cap, by rw [h1]; simp, hb, ?_, by omega, fun i hi => ?_⟩
  · exact (Array.getElem?_eq_some_iff.1 hg).1
  · rw [cell_of_row _ _ _ _ _ _ hg]
    have : (cur.toList.take (n * 2))[i]? = some (.int .i64 (l.getD i 0)) := by rw [hx]; simp [hi]
    rw [List.getElem?_take] at this
    split at this
    · simpa using this
    · cases this

theorem new_cells (w : World) (l : List Int) (t : TypeId) (b : Nat) (hb : b = w.heap.size) : ∀ j u, (l.map (Value.int .i64))[j]? = some u → (w.alloc (.cells (ints l) t)).cell? ((⟨b, 0, none⟩ : Addr).add j) = some u := by
  subst hb
  intro j u h
  have e : (⟨w.heap.size, 0, none⟩ : Addr).add j = ⟨w.heap.size, j, none⟩ := by unfold Addr.add; split <;> simp_all
  rw [e, cell_of_row _ _ _ _ _ _ (heap_alloc_new w _)]
  simpa [ints] using h

def waysL (k : Int) : List Int := if k = 1 ∨ k = 2 then straightL ++ slantingL else if k = 3 then straightL else if k = 4 then slantingL else jumpsL
def farL (k : Int) : Bool := k == 2 || k == 3 || k == 4
theorem po_ways (k : Int) (w : World) :
    Calls Tryd.prog 75 #[.int .i64 k] w fun e w' => ∃ v, e = .returned (.tuple #[v, .bool (farL k)]) ∧ pairsAt w' w.heap.size v (waysL k) ∧ Below w.heap.size w w' := by
  go_enter Tryd.func75, Tryd.ntmps75
  obtain ⟨i0, hi, hz0, hz1, hz2⟩ := info_parts po_info2
  by_cases h1 : k = 1
  · subst h1
    go_wp2_with (first | (go_at_call 84; refine (po_straight _).mono ?_; rintro e w1 ⟨rfl, rfl⟩) | (go_at_call 85; refine (po_slanting _).mono ?_; rintro e w1 ⟨rfl, rfl⟩) | (at_builtin; refine wpList_append_own _ rfl _ _ 90 rfl w.heap.size 93 i0 _ 2 16 Tryd.underlying90 hi hz0 hz1 hz2 rfl (by decide) _ 4 (straightL.map (Value.int .i64)) rfl ?c0 ⟨w.heap.size + 1, 0, none⟩ 4 4 (slantingL.map (Value.int .i64)) ?c6 rfl ?c1 ?c2 ?c3 ?c4 ?c5 ?_))
    case c0 => exact (World.ownsRow_lit _ _ _ (Nat.le_refl _) (by decide) (by decide)).alloc _
    case c6 => rfl
    case c1 => exact new_cells _ _ _ _ (by simp)
    case c2 => decide
    case c3 => decide
    case c4 => decide
    case c5 => simp; omega
    · intro v' w2 hown hgrow _
      have hb2 : Below w.heap.size w w2 := (((Below.refl _ _).alloc (Nat.le_refl _) _).alloc (by simp) _).grown hgrow (by simp; omega) (by simp [Value.ownBlock])
      go_wp2
      go_ret2
      exact ⟨_, rfl, pairsAt_own (l := straightL ++ slantingL) hown (by decide), hb2⟩
  by_cases h2 : k = 2
  · subst h2
    go_wp2_with (first | (go_at_call 84; refine (po_straight _).mono ?_; rintro e w1 ⟨rfl, rfl⟩) | (go_at_call 85; refine (po_slanting _).mono ?_; rintro e w1 ⟨rfl, rfl⟩) | (at_builtin; refine wpList_append_own _ rfl _ _ 90 rfl w.heap.size 93 i0 _ 2 16 Tryd.underlying90 hi hz0 hz1 hz2 rfl (by decide) _ 4 (straightL.map (Value.int .i64)) rfl ?c0 ⟨w.heap.size + 1, 0, none⟩ 4 4 (slantingL.map (Value.int .i64)) ?c6 rfl ?c1 ?c2 ?c3 ?c4 ?c5 ?_))
    case c0 => exact (World.ownsRow_lit _ _ _ (Nat.le_refl _) (by decide) (by decide)).alloc _
    case c6 => rfl
    case c1 => exact new_cells _ _ _ _ (by simp)
    case c2 => decide
    case c3 => decide
    case c4 => decide
    case c5 => simp; omega
    · intro v' w2 hown hgrow _
      have hb2 : Below w.heap.size w w2 := (((Below.refl _ _).alloc (Nat.le_refl _) _).alloc (by simp) _).grown hgrow (by simp; omega) (by simp [Value.ownBlock])
      go_wp2
      go_ret2
      exact ⟨_, rfl, pairsAt_own (l := straightL ++ slantingL) hown (by decide), hb2⟩
  by_cases h3 : k = 3
  · subst h3
    go_wp2_with fail
    refine (po_straight _).mono ?_
    rintro e w1 ⟨rfl, rfl⟩
    go_wp2
    go_ret2
    exact ⟨_, rfl, pairsAt_new _ _ _ _ _ _ (Nat.le_refl _) (by decide) (by decide), (Below.refl _ _).alloc (Nat.le_refl _) _⟩
  by_cases h4 : k = 4
  · subst h4
    go_wp2_with fail
    refine (po_slanting _).mono ?_
    rintro e w1 ⟨rfl, rfl⟩
    go_wp2
    go_ret2
    exact ⟨_, rfl, pairsAt_new _ _ _ _ _ _ (Nat.le_refl _) (by decide) (by decide), (Below.refl _ _).alloc (Nat.le_refl _) _⟩
  go_wp2_with fail
  refine (po_jumps _).mono ?_
  rintro e w1 ⟨rfl, rfl⟩
  go_wp2
  go_ret2
  have e1 : farL k = false := by simp [farL, h2, h3, h4]
  refine ⟨.slice (some ⟨w.heap.size, 0, none⟩) 8 8, by rw [e1]; rfl, ?_, (Below.refl _ _).alloc (Nat.le_refl _) _⟩
  rw [waysL, if_neg (by omega), if_neg (by omega), if_neg (by omega)]
  exact pairsAt_new _ _ _ _ _ _ (Nat.le_refl _) (by decide) (by decide)

theorem ints_set (l : List Int) (i : Nat) (z : Int) : (ints l).setIfInBounds i (.int .i64 z) = ints (l.set i z) := by
  unfold ints
  rw [List.map_set]
  simp
theorem ints_one (l : List Int) : (ints l).all (·.oneCell') = true := by
  rw [Array.all_eq_true_iff_forall_mem]
  intro x hx
  simp [ints] at hx
  obtain ⟨z, _, rfl⟩ := hx
  rfl

theorem at_load_pos {ops : Array Oper} {rest : List Oper} {a : Act} {w : World} {Q : Exit → Act → World → Prop} {d : Option Tmp} {x : Operand} {ty : TypeId} {ps : String} {af : Array Edge} {g : Nat} {l : List Int}
    (hg : w.heap[g]? = some (.cells (ints l) 71 (0, 0))) (hl : l.length = 69) (hx : a.eval x = .pointer (some ⟨g, 0, none⟩))
    (h : wpList Tryd.prog ops Q rest (a.put d (.agg (ints l))) w) : wpList Tryd.prog ops Q ({ dst := d, op := .load 71 x, type := ty, pos := ps, after := af, guard := none } :: rest) a w :=
  wpList_load_row rfl 71 x rfl g hx 71 (ints l) (0, 0) _ hg Tryd.underlying71 rfl (by rw [ints_size, hl]; kernel_rfl) h
theorem at_store_pos {ops : Array Oper} {rest : List Oper} {a : Act} {w : World} {Q : Exit → Act → World → Prop} {d : Option Tmp} {x y : Operand} {ty : TypeId} {ps : String} {af : Array Edge} {g : Nat} {old : List Int} (l : List Int)
    (hg : w.heap[g]? = some (.cells (ints old) 71 (0, 0))) (hold : old.length = 69) (hl : l.length = 69) (hx : a.eval x = .pointer (some ⟨g, 0, none⟩)) (hy : a.eval y = .agg (ints l))
    (h : wpList Tryd.prog ops Q rest (a.put d undef) (w.setRow g (ints l))) : wpList Tryd.prog ops Q ({ dst := d, op := .store 71 x y, type := ty, pos := ps, after := af, guard := none } :: rest) a w :=
  wpList_store_row rfl 71 x y rfl g (ints l) hx hy 71 (ints old) hg (by rw [ints_size, hl]; kernel_rfl) (by rw [ints_size, ints_size, hl, hold]) (ints_one l) h

theorem below_setRow {B : Nat} {w w1 : World} (h : Below B w w1) {g : Nat} (hg : B ≤ g) (cs : Array Value) : Below B w (w1.setRow g cs) :=
  ⟨h.os, h.tape, h.output, by simp; exact h.size, fun i hi => (setRow_other w1 g i cs (by omega)).trans (h.block i hi)⟩
theorem pos_zero : Tryd.zeroCells71 = ints (List.replicate 69 0) := by kernel_rfl
theorem pos_alloc (w : World) : (w.alloc (.cells Tryd.zeroCells71 71)).heap[w.heap.size]? = some (.cells (ints (List.replicate 69 0)) 71 (0, 0)) := by
  rw [heap_alloc_new, pos_zero]
/-- A block of integers, and what it answers. -/
theorem row_cell {w : World} {g : Nat} {l : List Int} {t : TypeId} {fr : Nat × Nat} (hg : w.heap[g]? = some (.cells (ints l) t fr)) (i : Nat) (h : i < l.length) : w.cell? ⟨g, i, none⟩ = some (.int .i64 (l.getD i 0)) :=
  (cell_of_row _ _ _ _ _ _ hg).trans (ints_get _ _ h)
theorem row_set {w : World} {g : Nat} {l : List Int} {t : TypeId} (hg : w.heap[g]? = some (.cells (ints l) t (0, 0))) (i : Nat) (z : Int) : (w.setCell ⟨g, i, none⟩ (.int .i64 z)).heap[g]? = some (.cells (ints (l.set i z)) t (0, 0)) := by
  rw [heap_setCell_same w g i _ _ _ hg, ints_set]
end Go.Proofs.YtgebocnomapchaaDoor
