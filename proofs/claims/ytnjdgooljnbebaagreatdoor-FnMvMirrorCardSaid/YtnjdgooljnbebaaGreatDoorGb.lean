/- The reference's words for squares, pieces and ways: what each computes.
spec.Reach: the squares that a piece attacks, for every position as a list of 69 integers.
spec.Hits: whether the piece on a square attacks another square. For every position of pieces from 0 to 12.
spec.Hits: pieces that go on along their ways, and the whole. For every position of pieces from 0 to 12. (Printed by gen_hj.py.)
spec.Attacked: whether a side's piece attacks a square. For every position of pieces from 0 to 12.
spec.hits, spec.steps: where a pawn hits, and where it goes. For every position of pieces from 0 to 12.
One element (of one or more cells) is appended to a list that the call owns: besides what it gives, all other blocks are as they were. For every program and type.
spec.steps: where a pawn goes. For every position of pieces from 0 to 12. (Printed by gen_st.py.)
spec.home, spec.Rights: the rights to castle whose king and rook stand at home. For every position of pieces from 0 to 12.
Rows in drawn regions: a whole position is loaded in one step. -/
import Derived.LoopTactic
import Derived.Deep.LoopGhost
import Derived.OwnWalk
import Derived.Great.Walk
import Derived.Deep.Light
import Derived.Laws.AppendOwnNone
import Derived.Deep.MidRow
import Derived.Test.YtnjdgooljnbebaaGreatDoorGa
namespace Go.Proofs.YtnjdgooljnbebaaGreatDoor
open Go Go.RowKit
set_option maxHeartbeats 1000000
set_option linter.unusedSimpArgs false
set_option linter.unusedVariables false
set_option maxRecDepth 100000

theorem po_kindOf (x : Int) (w : World) (h1 : x < 4294967296) :
  Calls Tryz.prog 47 #[.int .i64 x] w fun e w' => e = .returned (.int .i64 (kindOf x)) ∧ w = w' := by
 go_enter Tryz.func47, Tryz.ntmps47
 by_cases h : x > 6
 ·go_wp2
  go_ret
  exact ⟨by simp [kindOf, h], rfl⟩
 ·go_wp2
  go_ret
  refine ⟨?_, rfl⟩
  show Ending.returned (.int .i64 x) = _
  rw [kindOf, if_neg (by omega)]
theorem po_info2 : (Tryz.prog.info? 156).map (fun i => (i.zero, i.size, i.bytes)) = some (some (.agg #[.int .i64 0, .int .i64 0]), 2, 16) := by kernel_rfl

def straightL : List Int := [0, 1, 1, 0, 0, -1, -1, 0]
def slantingL : List Int := [1, 1, 1, -1, -1, -1, -1, 1]
def jumpsL : List Int := [1, 2, 2, 1, 2, -1, 1, -2, -1, -2, -2, -1, -2, 1, -1, 2]

theorem po_straight (w : World) :
  Calls Tryz.prog 135 #[] w fun e w' => e = .returned (.slice (some ⟨w.heap.size, 0, none⟩) 4 4) ∧ w' = w.alloc (.cells (ints straightL) 156) := by
 go_enter Tryz.func135, Tryz.ntmps135
 go_wp2
 go_ret
 exact ⟨rfl, rfl⟩
theorem po_slanting (w : World) :
  Calls Tryz.prog 136 #[] w fun e w' => e = .returned (.slice (some ⟨w.heap.size, 0, none⟩) 4 4) ∧ w' = w.alloc (.cells (ints slantingL) 156) := by
 go_enter Tryz.func136, Tryz.ntmps136
 go_wp2
 go_ret
 exact ⟨rfl, rfl⟩
theorem po_jumps (w : World) :
  Calls Tryz.prog 137 #[] w fun e w' => e = .returned (.slice (some ⟨w.heap.size, 0, none⟩) 8 8) ∧ w' = w.alloc (.cells (ints jumpsL) 156) := by
 go_enter Tryz.func137, Tryz.ntmps137
 go_wp2
 go_ret
 exact ⟨rfl, rfl⟩

/-- A slice of this many pairs of integers, that was made since. -/
def pairsAt (w : World) (base : Nat) (v : Value) (l : List Int) : Prop :=
 ∃ g cap, v = .slice (some ⟨g, 0, none⟩) (l.length / 2) cap ∧ base ≤ g ∧ g < w.heap.size ∧ l.length % 2 = 0 ∧ ∀ i, i < l.length → w.cell? ⟨g, i, none⟩ = some (.int .i64 (l.getD i 0))
theorem pairsAt.below {w w' : World} {base : Nat} {v : Value} {l : List Int} (h : pairsAt w base v l) (hb : Below w.heap.size w w') : pairsAt w' base v l := by
 obtain ⟨g, cap, h1, h2, h3, h4, h5⟩ := h
 exact ⟨g, cap, h1, h2, Nat.lt_of_lt_of_le h3 hb.size, h4, fun i hi => (hb.cell (p := ⟨g, i, none⟩) h3).trans (h5 i hi)⟩
theorem pairsAt_new (w : World) (base : Nat) (l : List Int) (n cap : Nat) (t : TypeId) (hb : base ≤ w.heap.size) (hn : n = l.length / 2) (h2 : l.length % 2 = 0) : pairsAt (w.alloc (.cells (ints l) t)) base (.slice (some ⟨w.heap.size, 0, none⟩) n cap) l := by
 subst hn
 refine ⟨w.heap.size, cap, rfl, hb, by simp, h2, fun i hi => ?_⟩
 rw [cell_of_row _ _ _ _ _ _ (heap_alloc_new w _)]
 exact ints_get l i hi
theorem pairsAt_own {w : World} {base : Nat} {e : TypeId} {v : Value} {n : Nat} {l : List Int} (h : w.ownsRow base e 2 v n (l.map (Value.int .i64))) (hn : 0 < n) : pairsAt w base v l := by
 obtain ⟨h1, h | ⟨g, cap, cur, rfl, hb, hg, _, _, _, hx⟩⟩ := h
 ·omega
 simp only [List.length_map] at h1
 refine ⟨g, cap, by rw [h1]; simp, hb, ?_, by omega, fun i hi => ?_⟩
 ·exact (Array.getElem?_eq_some_iff.1 hg).1
 ·rw [cell_of_row _ _ _ _ _ _ hg]
  have : (cur.toList.take (n * 2))[i]? = some (.int .i64 (l.getD i 0)) := by rw [hx]; simp [hi]
  rw [List.getElem?_take] at this
  split at this
  ·simpa using this
  ·cases this

def waysL (k : Int) : List Int := if k = 1 ∨ k = 2 then straightL ++ slantingL else if k = 3 then straightL else if k = 4 then slantingL else jumpsL
def farL (k : Int) : Bool := k == 2 || k == 3 || k == 4
theorem po_ways (k : Int) (w : World) :
  Calls Tryz.prog 114 #[.int .i64 k] w fun e w' => ∃ v, e = .returned (.tuple #[v, .bool (farL k)]) ∧ pairsAt w' w.heap.size v (waysL k) ∧ Below w.heap.size w w' := by
 go_enter Tryz.func114, Tryz.ntmps114
 obtain ⟨i0, hi, hz0, hz1, hz2⟩ := info_parts po_info2
 by_cases h1 : k = 1
 ·subst h1
  go_wp2_with (first | (go_at_call 135; refine (po_straight _).mono ?_; rintro e w1 ⟨rfl, rfl⟩) | (go_at_call 136; refine (po_slanting _).mono ?_; rintro e w1 ⟨rfl, rfl⟩) | (at_builtin; refine wpList_append_own _ rfl _ _ 153 rfl w.heap.size 156 i0 _ 2 16 Tryz.underlying153 hi hz0 hz1 hz2 rfl (by decide) _ 4 (straightL.map (Value.int .i64)) rfl ?c0 ⟨w.heap.size + 1, 0, none⟩ 4 4 (slantingL.map (Value.int .i64)) ?c6 rfl ?c1 ?c2 ?c3 ?c4 ?c5 ?_))
  case c0 => exact (World.ownsRow_lit _ _ _ (Nat.le_refl _) (by decide) (by decide)).alloc _
  case c6 => rfl
  case c1 => exact new_cells _ _ _ _ (by simp)
  case c2 => decide
  case c3 => decide
  case c4 => decide
  case c5 => simp; omega
  ·intro v' w2 hown hgrow _
   have hb2 : Below w.heap.size w w2 := (((Below.refl _ _).alloc (Nat.le_refl _) _).alloc (by simp) _).grown hgrow (by simp; omega) (by simp [Value.ownBlock])
   go_wp2
   go_ret2
   exact ⟨_, rfl, pairsAt_own (l := straightL ++ slantingL) hown (by decide), hb2⟩
 by_cases h2 : k = 2
 ·subst h2
  go_wp2_with (first | (go_at_call 135; refine (po_straight _).mono ?_; rintro e w1 ⟨rfl, rfl⟩) | (go_at_call 136; refine (po_slanting _).mono ?_; rintro e w1 ⟨rfl, rfl⟩) | (at_builtin; refine wpList_append_own _ rfl _ _ 153 rfl w.heap.size 156 i0 _ 2 16 Tryz.underlying153 hi hz0 hz1 hz2 rfl (by decide) _ 4 (straightL.map (Value.int .i64)) rfl ?c0 ⟨w.heap.size + 1, 0, none⟩ 4 4 (slantingL.map (Value.int .i64)) ?c6 rfl ?c1 ?c2 ?c3 ?c4 ?c5 ?_))
  case c0 => exact (World.ownsRow_lit _ _ _ (Nat.le_refl _) (by decide) (by decide)).alloc _
  case c6 => rfl
  case c1 => exact new_cells _ _ _ _ (by simp)
  case c2 => decide
  case c3 => decide
  case c4 => decide
  case c5 => simp; omega
  ·intro v' w2 hown hgrow _
   have hb2 : Below w.heap.size w w2 := (((Below.refl _ _).alloc (Nat.le_refl _) _).alloc (by simp) _).grown hgrow (by simp; omega) (by simp [Value.ownBlock])
   go_wp2
   go_ret2
   exact ⟨_, rfl, pairsAt_own (l := straightL ++ slantingL) hown (by decide), hb2⟩
 by_cases h3 : k = 3
 ·subst h3
  go_wp2_with fail
  refine (po_straight _).mono ?_
  rintro e w1 ⟨rfl, rfl⟩
  go_wp2
  go_ret2
  exact ⟨_, rfl, pairsAt_new _ _ _ _ _ _ (Nat.le_refl _) (by decide) (by decide), (Below.refl _ _).alloc (Nat.le_refl _) _⟩
 by_cases h4 : k = 4
 ·subst h4
  go_wp2_with fail
  refine (po_slanting _).mono ?_
  rintro e w1 ⟨rfl, rfl⟩
  go_wp2
  go_ret2
  exact ⟨_, rfl, pairsAt_new _ _ _ _ _ _ (Nat.le_refl _) (by decide) (by decide), (Below.refl _ _).alloc (Nat.le_refl _) _⟩
 go_wp2_with fail
 refine (po_jumps _).mono ?_
 rintro e w1 ⟨rfl, rfl⟩
 go_wp2
 go_ret2
 have e1 : farL k = false := by simp [farL, h2, h3, h4]
 refine ⟨.slice (some ⟨w.heap.size, 0, none⟩) 8 8, by rw [e1]; rfl, ?_, (Below.refl _ _).alloc (Nat.le_refl _) _⟩
 rw [waysL, if_neg (by omega), if_neg (by omega), if_neg (by omega)]
 exact pairsAt_new _ _ _ _ _ _ (Nat.le_refl _) (by decide) (by decide)

end Go.Proofs.YtnjdgooljnbebaaGreatDoor
namespace Go.Proofs.YtnjdgooljnbebaaGreatDoor
open Go Go.RowKit
set_option maxHeartbeats 4000000
set_option linter.unusedSimpArgs false
set_option linter.unusedVariables false
set_option maxRecDepth 100000

theorem quiet' {P : Program} {f : FuncId} {args : Array Value} {w : World} {n : Nat} {v : Value}
  (h : Calls P f args (w.drewN n) fun e w' => e = .returned v ∧ w.drewN n = w') : Calls P f args (w.drewN n) fun e w'' => e = .returned v ∧ ∃ m, w'' = w.drewN m :=
 h.mono fun _ _ ⟨he, hm⟩ => ⟨he, n, hm.symm⟩

/-- The squares along one way, from the n-th on. -/
def ray (B : Int → Int) (far : Bool) (f r df dr : Int) : Nat → Nat → List Int
 | _, 0 => []
 | n, m + 1 => if atSq (f + n * df) (r + n * dr) < 0 then [] else if far = false ∨ B (atSq (f + n * df) (r + n * dr)) ≠ 0 then [atSq (f + n * df) (r + n * dr)] else atSq (f + n * df) (r + n * dr) :: ray B far f r df dr (n + 1) m
def rays (B : Int → Int) (far : Bool) (f r : Int) : List Int → List Int
 | df :: dr :: l => ray B far f r df dr 1 7 ++ rays B far f r l
 | _ => []
theorem ray_le (B : Int → Int) (far : Bool) (f r df dr : Int) : ∀ n m, (ray B far f r df dr n m).length ≤ m
 | _, 0 => by simp [ray]
 | n, m + 1 => by
  have := ray_le B far f r df dr (n + 1) m
  unfold ray
  split
  ·simp
  ·split
   ·simp
   ·simp; exact this
theorem rays_le (B : Int → Int) (far : Bool) (f r : Int) : ∀ l : List Int, (rays B far f r l).length ≤ 7 * (l.length / 2)
 | [] => by simp [rays]
 | [_] => by simp [rays]
 | df :: dr :: l => by
  have h1 := ray_le B far f r df dr 1 7
  have h2 := rays_le B far f r l
  simp only [rays, List.length_append, List.length_cons]
  omega
def reach (p : List Int) (s : Int) : List Int := rays (pcAt p) (farL (kindOf (pcAt p s))) (s % 8) (s / 8) (waysL (kindOf (pcAt p s)))
theorem waysL_le (k : Int) : (waysL k).length ≤ 16 := by unfold waysL; split <;> first | decide | (split <;> first | decide | (split <;> decide))
theorem waysL_small (k : Int) : ∀ x ∈ waysL k, -2 ≤ x ∧ x ≤ 2 := by
 unfold waysL; split <;> first | decide | (split <;> first | decide | (split <;> decide))
theorem reach_le (p : List Int) (s : Int) : (reach p s).length ≤ 56 := by
 have h1 := rays_le (pcAt p) (farL (kindOf (pcAt p s))) (s % 8) (s / 8) (waysL (kindOf (pcAt p s)))
 have h2 := waysL_le (kindOf (pcAt p s))
 unfold reach
 omega
theorem atSq_range (f r : Int) : -1 ≤ atSq f r ∧ atSq f r ≤ 63 := by unfold atSq; split <;> omega
theorem rays_drop (B : Int → Int) (far : Bool) (f r : Int) (l : List Int) (k : Nat) (h : 2 * k + 1 < l.length) :
  rays B far f r (l.drop (2 * k)) = ray B far f r (l.getD (2 * k) 0) (l.getD (2 * k + 1) 0) 1 7 ++ rays B far f r (l.drop (2 * (k + 1))) := by
 have e : l.drop (2 * k) = l.getD (2 * k) 0 :: l.getD (2 * k + 1) 0 :: l.drop (2 * (k + 1)) := by
  rw [List.drop_eq_getElem_cons (by omega), List.drop_eq_getElem_cons (by omega)]
  simp [show 2 * (k + 1) = 2 * k + 1 + 1 by omega, List.getElem?_eq_getElem, h, show 2 * k < l.length by omega]
 rw [e]
 rfl
theorem mul_small (n : Nat) (d : Int) (h : n ≤ 8) (h1 : -2 ≤ d) (h2 : d ≤ 2) : -16 ≤ (n : Int) * d ∧ (n : Int) * d ≤ 16 := by
 have e : d = -2 ∨ d = -1 ∨ d = 0 ∨ d = 1 ∨ d = 2 := by omega
 rcases e with rfl | rfl | rfl | rfl | rfl <;> omega
theorem po_info1 : (Tryz.prog.info? 3).map (fun i => (i.zero, i.size, i.bytes)) = some (some (.int .i64 0), 1, 8) := by kernel_rfl

abbrev ownInts (w : World) (base : Nat) (v : Value) (l : List Int) : Prop := w.ownsRow base 3 1 v l.length (l.map (Value.int .i64))

theorem ray_range (B : Int → Int) (far : Bool) (f r df dr : Int) : ∀ n m, ∀ z ∈ ray B far f r df dr n m, 0 ≤ z ∧ z ≤ 63
 | _, 0 => by simp [ray]
 | n, m + 1 => by
  intro z hz
  have h := ray_range B far f r df dr (n + 1) m z
  have ha := atSq_range (f + n * df) (r + n * dr)
  unfold ray at hz
  split at hz
  ·cases hz
  ·split at hz
   ·simp at hz; omega
   ·simp at hz
    rcases hz with rfl | hz
    ·omega
    ·exact h hz
theorem rays_range (B : Int → Int) (far : Bool) (f r : Int) : ∀ l : List Int, ∀ z ∈ rays B far f r l, 0 ≤ z ∧ z ≤ 63
 | [] => by simp [rays]
 | [_] => by simp [rays]
 | df :: dr :: l => by
  intro z hz
  simp only [rays, List.mem_append] at hz
  rcases hz with hz | hz
  ·exact ray_range _ _ _ _ _ _ _ _ z hz
  ·exact rays_range B far f r l z hz
theorem reach_range (p : List Int) (s : Int) : ∀ z ∈ reach p s, 0 ≤ z ∧ z ≤ 63 := rays_range _ _ _ _ _

theorem re_reach0 (p : List Int) (s : Int) (w : World) (hp : p.length = 69) (hbs : pcAt p s < 4294967296) (h0 : 0 ≤ s) (h1 : s ≤ 63) :
  Calls Tryz.prog 92 #[.agg (ints p), .int .i64 s] w fun e w' => ∃ v, e = .returned v ∧ ownInts w' w.heap.size v (reach p s) ∧ Below w.heap.size w w' := by
 obtain ⟨i0, hi, hz0, hz1, hz2⟩ := info_parts po_info1
 go_enter Tryz.func92, Tryz.ntmps92
 have hs0 : (ints p)[s.toNat]? = some (.int .i64 (pcAt p s)) := ints_get p _ (by omega)
 have hc0 : (w.alloc (.cells (ints p) 24)).cell? ⟨w.heap.size, s.toNat, none⟩ = some (.int .i64 (pcAt p s)) := (cell_of_row _ _ _ _ _ _ (heap_alloc_new w _)).trans hs0
 go_wp2_with (first | (go_at_call 47; refine (po_kindOf _ _ (hbs)).mono ?_; rintro e w1 ⟨rfl, rfl⟩) | (go_at_call 114; refine (po_ways _ _).mono ?_; rintro e w1 ⟨ws, rfl, hws, hbw⟩))
 obtain ⟨g, cap, rfl, hg0, hg1, hg2, hg3⟩ := hws
 have hz := hbw.size
 have hza : (w.alloc (.cells (ints p) 24)).heap.size = w.heap.size + 1 := by simp
 rw [hza] at hz hg0
 have hbd : ∀ i : Nat, i < 69 → w1.cell? ⟨w.heap.size, i, none⟩ = some (.int .i64 (p.getD i 0)) := fun i hi => by
  rw [hbw.cell (p := ⟨w.heap.size, i, none⟩) (by simp), cell_of_row _ _ _ _ _ _ (heap_alloc_new w _)]
  exact ints_get p i (by omega)
 have hR : rays (pcAt p) (farL (kindOf (pcAt p s))) (s % 8) (s / 8) ((waysL (kindOf (pcAt p s))).drop (2 * 0)) = reach p s := rfl
 have hlen := waysL_le (kindOf (pcAt p s))
 have hsmall := waysL_small (kindOf (pcAt p s))
 have hRl := reach_le p s
 generalize hLd : (waysL (kindOf (pcAt p s))) = ws at *
 generalize farL (kindOf (pcAt p s)) = far at *
 generalize hT : reach p s = total at *
 clear hbs hc0 hs0
 go_loopw [7, 8] (fun l i wr => ∃ (k : Nat) (xs : List Int), k ≤ ws.length / 2 ∧ i = .int .i64 (k : Int) ∧ ownInts wr w1.heap.size l xs ∧ xs ++ rays (pcAt p) far (s % 8) (s / 8) (ws.drop (2 * k)) = total ∧ Below w1.heap.size w1 wr) (fun _ i _ => (ws.length / 2 - (intOf i).toNat))
 case atStart => exact ⟨0, [], by omega, rfl, World.ownsRow_nil _ _ _ _, by simpa using hR, Below.refl _ _⟩
 case round =>
  obtain ⟨k, xs, hk, rfl, hown, htot, hbr⟩ := hrel
  by_cases hlt : k < ws.length / 2
  ·rw [rays_drop _ _ _ _ _ _ (by omega)] at htot
   have hdf := hsmall (ws.getD (2 * k) 0) (by simp [show 2 * k < ws.length by omega])
   have hdr := hsmall (ws.getD (2 * k + 1) 0) (by simp [show 2 * k + 1 < ws.length by omega])
   have hcf := hg3 (2 * k) (by omega)
   have hcr := hg3 (2 * k + 1) (by omega)
   generalize ws.getD (2 * k) 0 = df at *
   generalize ws.getD (2 * k + 1) 0 = dr at *
   generalize hrest : rays (pcAt p) far (s % 8) (s / 8) (ws.drop (2 * (k + 1))) = rest at *
   go_wp2_with fail
   go_loopw [7, 9] (fun l i wr => ∃ (n : Nat) (xs : List Int), 1 ≤ n ∧ n ≤ 8 ∧ i = .int .i64 (n : Int) ∧ ownInts wr w1.heap.size l xs ∧ xs ++ (ray (pcAt p) far (s % 8) (s / 8) df dr n (8 - n) ++ rest) = total ∧ Below w1.heap.size w1 wr) (fun _ i _ => (8 - (intOf i).toNat))
   case atStart => exact ⟨1, xs, by omega, by omega, rfl, hown, htot, hbr⟩
   case round =>
    clear hown htot hbr
    obtain ⟨n, xs, hn1, hn8, rfl, hown, htot, hbr⟩ := hrel
    by_cases hn : n < 8
    ·have hm1 := mul_small n df (by omega) hdf.1 hdf.2
     have hm2 := mul_small n dr (by omega) hdr.1 hdr.2
     have hat := atSq_range (s % 8 + n * df) (s / 8 + n * dr)
     have hof : (g : Nat) < w1.heap.size := hg1
     have hcf' : wr.cell? ⟨g, k * 2, none⟩ = some (.int .i64 df) := by rw [hbr.cell (p := ⟨g, k * 2, none⟩) hg1, Nat.mul_comm]; exact hcf
     have hcr' : wr.cell? ⟨g, k * 2 + 1, none⟩ = some (.int .i64 dr) := by rw [hbr.cell (p := ⟨g, k * 2 + 1, none⟩) hg1, Nat.mul_comm]; exact hcr
     go_wp2_with fail
     go_quiet (first | (go_at_call 88; refine quiet' (po_file _ _ (by omega) (by omega))) | (go_at_call 49; refine quiet' (po_rank _ _ (by omega) (by omega))) | (go_at_call 48; refine quiet' (po_at _ _ _ (by omega) (by omega) (by omega) (by omega))))
     have hbq : Below w1.heap.size w1 (wr.drewN nq) := bstep hbr (drewN_below wr nq) hbr.size
     have hoq : ownInts (wr.drewN nq) w1.heap.size u7 xs := hown
     have hcq : ∀ i : Nat, i < 69 → (wr.drewN nq).cell? ⟨w.heap.size, i, none⟩ = some (.int .i64 (p.getD i 0)) := fun i hi => (hbr.cell (p := ⟨w.heap.size, i, none⟩) (show w.heap.size < w1.heap.size by omega)).trans (hbd i hi)
     clear hcf' hcr' hbr hown
     generalize wr.drewN nq = w2 at *
     rw [show 8 - n = (7 - n) + 1 by omega] at htot
     unfold ray at htot
     generalize atSq (s % 8 + n * df) (s / 8 + n * dr) = to at *
     by_cases hto : to < 0
     ·rw [if_pos hto] at htot
      go_wp2_with fail
      go_roundw
      case rel =>
       have R : ∃ (k' : Nat) (xs : List Int), k' ≤ ws.length / 2 ∧ Value.int .i64 ((k : Int) + 1) = .int .i64 (k' : Int) ∧ ownInts w2 w1.heap.size u7 xs ∧ xs ++ rays (pcAt p) far (s % 8) (s / 8) (ws.drop (2 * k')) = total ∧ Below w1.heap.size w1 w2 :=
        ⟨k + 1, xs, by omega, by go_num, hoq, by rw [hrest]; simpa using htot, hbq⟩
       first | exact R | ((repeat apply Exists.intro); exact ⟨R, rfl⟩)
      case measure => simp [intOf]; omega
     ·rw [if_neg hto] at htot
      obtain ⟨o, rfl⟩ := Int.eq_ofNat_of_zero_le (show 0 ≤ to by omega)
      have ho64 : o < 64 := by omega
      have hxs : xs.length ≤ 56 := by
       have := congrArg List.length htot
       rw [List.length_append] at this
       omega
      go_wp2_with (at_builtin; refine wpList_append_own _ rfl _ _ 37 rfl w1.heap.size 3 i0 (.int .i64 0) 1 8 Tryz.underlying37 hi hz0 hz1 hz2 rfl (by decide) _ _ _ rfl (hoq.alloc _) ⟨w2.heap.size, 0, none⟩ 1 1 [.int .i64 (o : Int)] rfl rfl ?c1 ?c2 ?c3 ?c4 ?c5 ?_)
      case c2 => rfl
      case c3 => unfold maxLen; omega
      case c4 => omega
      case c5 => have := hbq.size; simp; omega
      ·intro v' w3 hown' hgrow _
       have hge := own_ge hoq
       have hb3 : Below w1.heap.size w1 w3 := (hbq.alloc hbq.size _).grown hgrow (by have := hbq.size; simp; omega) hge
       have hc3 : w3.cell? ⟨w.heap.size, o, none⟩ = some (.int .i64 (pcAt p o)) := (hb3.cell (p := ⟨w.heap.size, o, none⟩) (show w.heap.size < w1.heap.size by omega)).trans (hbd o (by omega))
       have hown3 : ownInts w3 w1.heap.size v' (xs ++ [(o : Int)]) := by
        unfold ownInts
        rw [List.length_append, List.map_append]
        exact hown'
       clear hown' hgrow hoq hbq hge hcq
       cases far with
       | false =>
        rw [if_pos (Or.inl rfl)] at htot
        go_wp2_with fail
        go_roundw
        case rel =>
         have R : ∃ (k' : Nat) (xs : List Int), k' ≤ ws.length / 2 ∧ Value.int .i64 ((k : Int) + 1) = .int .i64 (k' : Int) ∧ ownInts w3 w1.heap.size v' xs ∧ xs ++ rays (pcAt p) false (s % 8) (s / 8) (ws.drop (2 * k')) = total ∧ Below w1.heap.size w1 w3 :=
          ⟨k + 1, xs ++ [(o : Int)], by omega, by go_num, hown3, by rw [hrest]; simpa using htot, hb3⟩
         first | exact R | ((repeat apply Exists.intro); exact ⟨R, rfl⟩)
        case measure => simp [intOf]; omega
       | true =>
        by_cases hx : pcAt p o = 0
        ·rw [hx] at hc3
         rw [if_neg (by simp [hx])] at htot
         go_wp2_with fail
         go_roundw
         case rel =>
          have R : ∃ (n' : Nat) (xs : List Int), 1 ≤ n' ∧ n' ≤ 8 ∧ Value.int .i64 ((n : Int) + 1) = .int .i64 (n' : Int) ∧ ownInts w3 w1.heap.size v' xs ∧ xs ++ (ray (pcAt p) true (s % 8) (s / 8) df dr n' (8 - n') ++ rest) = total ∧ Below w1.heap.size w1 w3 :=
           ⟨n + 1, xs ++ [(o : Int)], by omega, by omega, by go_num, hown3, by rw [show 8 - (n + 1) = 7 - n by omega]; simpa using htot, hb3⟩
          have hd : decide ((k : Int) < (ws.length : Int) / 2) = true := decide_eq_true (by omega)
          first | exact R | ((repeat apply Exists.intro); exact ⟨R, by rw [hd]⟩)
         case measure => simp [intOf]; omega
        ·rw [if_pos (Or.inr hx)] at htot
         go_wp2_with fail
         go_roundw
         case rel =>
          have R : ∃ (k' : Nat) (xs : List Int), k' ≤ ws.length / 2 ∧ Value.int .i64 ((k : Int) + 1) = .int .i64 (k' : Int) ∧ ownInts w3 w1.heap.size v' xs ∧ xs ++ rays (pcAt p) true (s % 8) (s / 8) (ws.drop (2 * k')) = total ∧ Below w1.heap.size w1 w3 :=
           ⟨k + 1, xs ++ [(o : Int)], by omega, by go_num, hown3, by rw [hrest]; simpa using htot, hb3⟩
          first | exact R | ((repeat apply Exists.intro); exact ⟨R, rfl⟩)
         case measure => simp [intOf]; omega
    ·obtain rfl : n = 8 := by omega
     go_wp2_with fail
     go_roundw
     case rel =>
      have R : ∃ (k' : Nat) (xs : List Int), k' ≤ ws.length / 2 ∧ Value.int .i64 ((k : Int) + 1) = .int .i64 (k' : Int) ∧ ownInts wr w1.heap.size u7 xs ∧ xs ++ rays (pcAt p) far (s % 8) (s / 8) (ws.drop (2 * k')) = total ∧ Below w1.heap.size w1 wr :=
       ⟨k + 1, xs, by omega, by go_num, hown, by rw [hrest]; simpa [ray] using htot, hbr⟩
      first | exact R | ((repeat apply Exists.intro); exact ⟨R, rfl⟩)
     case measure => simp [intOf]; omega
  ·obtain rfl : k = ws.length / 2 := by omega
   go_wp2_with fail
   go_ret
   have e0 : rays (pcAt p) far (s % 8) (s / 8) (ws.drop (2 * (ws.length / 2))) = [] := by
    have h := rays_le (pcAt p) far (s % 8) (s / 8) (ws.drop (2 * (ws.length / 2)))
    rw [List.length_drop, show (ws.length - 2 * (ws.length / 2)) / 2 = 0 by omega] at h
    exact List.eq_nil_of_length_eq_zero (by omega)
   rw [e0, List.append_nil] at htot
   subst htot
   rw [hT]
   have hle : w.heap.size ≤ w1.heap.size := by omega
   refine ⟨u7, rfl, own_mono hown hle, ?_⟩
   exact bstep (((Below.refl _ _).alloc (Nat.le_refl _) _).trans (hbw.mono (by rw [hza]; omega))) hbr (by omega)
end Go.Proofs.YtnjdgooljnbebaaGreatDoor
namespace Go.Proofs.YtnjdgooljnbebaaGreatDoor
open Go Go.RowKit
set_option maxHeartbeats 4000000
set_option linter.unusedSimpArgs false
set_option linter.unusedVariables false
set_option maxRecDepth 100000

theorem pcAt_nat (p : List Int) (s : Nat) : pcAt p (s : Int) = p.getD s 0 := rfl
/-- A position: a board of pieces, and five numbers behind it. -/
structure Pos (p : List Int) : Prop where
 len : p.length = 69
 lo : ∀ s : Nat, s < 64 → 0 ≤ p.getD s 0
 hi : ∀ s : Nat, s < 64 → p.getD s 0 ≤ 12
def sgn (n : Int) : Int := if n < 0 then -1 else if 0 < n then 1 else 0
def upOf (s : Int) : Int := 1 - 2 * s
/-- From i on by 'way' one comes to 'to' behind n steps, over squares of the board. -/
inductive Line (to way : Int) : Int → Nat → Prop
 | nil : Line to way to 0
 | cons (i : Int) (n : Nat) : 0 ≤ i → i ≤ 63 → i ≠ to → (to - (i + way)).natAbs < (to - i).natAbs → Line to way (i + way) n → Line to way i (n + 1)
def lineB (to way : Int) : Nat → Int → Bool
 | 0, i => decide (i = to)
 | n + 1, i => decide (0 ≤ i) && decide (i ≤ 63) && decide (i ≠ to) && decide ((to - (i + way)).natAbs < (to - i).natAbs) && lineB to way n (i + way)
theorem line_of (to way : Int) : ∀ n i, lineB to way n i = true → Line to way i n
 | 0, i, h => by
  obtain rfl : i = to := by simpa [lineB] using h
  exact .nil
 | n + 1, i, h => by
  simp only [lineB, Bool.and_eq_true, decide_eq_true_eq] at h
  exact .cons i n h.1.1.1.1 h.1.1.1.2 h.1.1.2 h.1.2 (line_of to way n _ h.2)
def lineN (a b : Int) : Nat := max (b % 8 - a % 8).natAbs (b / 8 - a / 8).natAbs - 1
def wayOf (a b : Int) : Int := sgn (b % 8 - a % 8) + 8 * sgn (b / 8 - a / 8)
def inLine (a b : Int) : Bool := decide (b % 8 - a % 8 = 0) || decide (b / 8 - a / 8 = 0)
def inSlant (a b : Int) : Bool := decide (b % 8 - a % 8 = b / 8 - a / 8) || decide (b % 8 - a % 8 = -(b / 8 - a / 8))
set_option maxRecDepth 1000000 in
theorem lines_all : ∀ a < 64, ∀ b < 64, (decide (a ≠ b) && (inLine (a : Nat) (b : Nat) || inSlant (a : Nat) (b : Nat))) = true → lineB (b : Nat) (wayOf (a : Nat) (b : Nat)) (lineN (a : Nat) (b : Nat)) ((a : Nat) + wayOf (a : Nat) (b : Nat)) = true := by decide +kernel
/-- n squares from i on by 'way' are empty. -/
def clearRun (p : List Int) (way : Int) : Nat → Int → Bool
 | 0, _ => true
 | n + 1, i => decide (pcAt p i = 0) && clearRun p way n (i + way)
def hitsB (p : List Int) (a b : Int) : Bool :=
 if a = b ∨ pcAt p a = 0 then false
 else if kindOf (pcAt p a) = 1 then decide ((b % 8 - a % 8) * (b % 8 - a % 8) ≤ 1) && decide ((b / 8 - a / 8) * (b / 8 - a / 8) ≤ 1)
 else if kindOf (pcAt p a) = 5 then decide ((b % 8 - a % 8) * (b % 8 - a % 8) + (b / 8 - a / 8) * (b / 8 - a / 8) = 5)
 else if kindOf (pcAt p a) = 6 then decide ((b % 8 - a % 8) * (b % 8 - a % 8) = 1) && decide (b / 8 - a / 8 = upOf (sideOf (pcAt p a)))
 else if (inLine a b && decide (kindOf (pcAt p a) ≠ 4)) || (inSlant a b && decide (kindOf (pcAt p a) ≠ 3)) then clearRun p (wayOf a b) (lineN a b) (a + wayOf a b)
 else false

theorem hi_side (x : Int) (w : World) (h1 : x < 4294967296) :
  Calls Tryz.prog 90 #[.int .i64 x] w fun e w' => e = .returned (.int .i64 (sideOf x)) ∧ w = w' := by
 go_enter Tryz.func90, Tryz.ntmps90
 by_cases h : x > 6
 ·go_wp2
  go_ret
  exact ⟨by simp [sideOf, h], rfl⟩
 ·go_wp2
  go_ret
  refine ⟨?_, rfl⟩
  show Ending.returned (.int .i64 0) = _
  rw [sideOf, if_neg (by omega)]
theorem hi_up (s : Int) (w : World) (h0 : 0 ≤ s) (h1 : s ≤ 1) :
  Calls Tryz.prog 112 #[.int .i64 s] w fun e w' => e = .returned (.int .i64 (upOf s)) ∧ w = w' := by
 go_enter Tryz.func112, Tryz.ntmps112
 go_wp2
 go_ret
 exact ⟨rfl, rfl⟩
theorem hi_sign (n : Int) (w : World) (h0 : -100 ≤ n) (h1 : n ≤ 100) :
  Calls Tryz.prog 116 #[.int .i64 n] w fun e w' => e = .returned (.int .i64 (sgn n)) ∧ w = w' := by
 go_enter Tryz.func116, Tryz.ntmps116
 by_cases h : n < 0
 ·go_wp2
  go_ret
  exact ⟨by simp [sgn, h], rfl⟩
 by_cases h2 : 0 < n
 ·go_wp2
  go_ret
  exact ⟨by simp [sgn, h, h2], rfl⟩
 ·go_wp2
  go_ret
  refine ⟨?_, rfl⟩
  show Ending.returned (.int .i64 0) = _
  have e : sgn n = 0 := by unfold sgn; rw [if_neg (by omega), if_neg (by omega)]
  rw [e]
theorem sgn_range (n : Int) : -1 ≤ sgn n ∧ sgn n ≤ 1 := by
 unfold sgn
 by_cases h : n < 0
 ·rw [if_pos h]; omega
 ·rw [if_neg h]
  by_cases h2 : 0 < n
  ·rw [if_pos h2]; omega
  ·rw [if_neg h2]; omega
theorem sq_range (n : Int) (h0 : -7 ≤ n) (h1 : n ≤ 7) : 0 ≤ n * n ∧ n * n ≤ 49 ∧ IntKind.i64.wrap (n * n) = n * n := by
 have h : n = -7 ∨ n = -6 ∨ n = -5 ∨ n = -4 ∨ n = -3 ∨ n = -2 ∨ n = -1 ∨ n = 0 ∨ n = 1 ∨ n = 2 ∨ n = 3 ∨ n = 4 ∨ n = 5 ∨ n = 6 ∨ n = 7 := by omega
 rcases h with rfl | rfl | rfl | rfl | rfl | rfl | rfl | rfl | rfl | rfl | rfl | rfl | rfl | rfl | rfl <;> decide
theorem clear_step (p : List Int) (way : Int) (n : Nat) (i : Int) : clearRun p way (n + 1) i = (decide (pcAt p i = 0) && clearRun p way n (i + way)) := rfl

theorem ret_bool {a b : Bool} (h : a = b) : Ending.returned (.bool a) = .returned (.bool b) := by rw [h]
theorem hi_small (p : List Int) (hp : Pos p) (a b : Int) (a0 : 0 ≤ a) (a1 : a ≤ 63) (b0 : 0 ≤ b) (b1 : b ≤ 63) (w : World) (hk : a = b ∨ pcAt p a = 0 ∨ kindOf (pcAt p a) = 1 ∨ kindOf (pcAt p a) = 5 ∨ kindOf (pcAt p a) = 6) :
  Calls Tryz.prog 95 #[.agg (ints p), .int .i64 a, .int .i64 b] w fun e w' => e = .returned (.bool (hitsB p a b)) ∧ Below w.heap.size w w' := by
 have hrow := heap_alloc_new w (.cells (ints p) 24)
 have hBW : Below w.heap.size w (w.alloc (.cells (ints p) 24)) := (Below.refl _ _).alloc (Nat.le_refl _) _
 have hx : ∀ i : Int, 0 ≤ i → i ≤ 63 → 0 ≤ pcAt p i ∧ pcAt p i ≤ 12 := fun i h0 h1 => ⟨hp.lo _ (by omega), hp.hi _ (by omega)⟩
 have hcell : ∀ i : Int, 0 ≤ i → i ≤ 63 → (w.alloc (.cells (ints p) 24)).cell? ⟨w.heap.size, i.toNat, none⟩ = some (.int .i64 (pcAt p i)) := fun i h0 h1 => row_cell hrow i.toNat (by rw [hp.len]; omega)
 clear hrow
 have ca := hcell a a0 a1
 obtain ⟨xa0, xa1⟩ := hx a a0 a1
 have hlines := show Shut _ from lines_all a.toNat (by omega) b.toNat (by omega)
 rw [Int.toNat_of_nonneg a0, Int.toNat_of_nonneg b0] at hlines
 have hk0 : hitsB p a b = hitsB p a b := rfl
 by_cases hab : a = b
 ·subst hab
  go_enter Tryz.func95, Tryz.ntmps95
  go_wp2_with (first
   | (go_at_call 88; refine (po_file _ _ (by omega) (by omega)).mono ?_; rintro e1 w1 ⟨rfl, rfl⟩)
   | (go_at_call 49; refine (po_rank _ _ (by omega) (by omega)).mono ?_; rintro e1 w1 ⟨rfl, rfl⟩))
  go_ret
  exact ⟨by simp [hitsB], hBW⟩
 have hab2 : (a == b) = false := by simpa using hab
 by_cases hx0 : pcAt p a = 0
 ·rw [hx0] at ca
  go_enter Tryz.func95, Tryz.ntmps95
  go_wp2_with (first
   | (go_at_call 88; refine (po_file _ _ (by omega) (by omega)).mono ?_; rintro e1 w1 ⟨rfl, rfl⟩)
   | (go_at_call 49; refine (po_rank _ _ (by omega) (by omega)).mono ?_; rintro e1 w1 ⟨rfl, rfl⟩))
  go_ret
  exact ⟨by simp [hitsB, hx0], hBW⟩
 have hx2 : (pcAt p a == 0) = false := by simpa using hx0
 have hH : hitsB p a b = if kindOf (pcAt p a) = 1 then decide ((b % 8 - a % 8) * (b % 8 - a % 8) ≤ 1) && decide ((b / 8 - a / 8) * (b / 8 - a / 8) ≤ 1)
   else if kindOf (pcAt p a) = 5 then decide ((b % 8 - a % 8) * (b % 8 - a % 8) + (b / 8 - a / 8) * (b / 8 - a / 8) = 5)
   else if kindOf (pcAt p a) = 6 then decide ((b % 8 - a % 8) * (b % 8 - a % 8) = 1) && decide (b / 8 - a / 8 = upOf (sideOf (pcAt p a)))
   else if (inLine a b && decide (kindOf (pcAt p a) ≠ 4)) || (inSlant a b && decide (kindOf (pcAt p a) ≠ 3)) then clearRun p (wayOf a b) (lineN a b) (a + wayOf a b)
   else false := by
  rw [hitsB, if_neg (by simp [hab, hx0])]
 have hf : -7 ≤ b % 8 - a % 8 ∧ b % 8 - a % 8 ≤ 7 := by omega
 have hr : -7 ≤ b / 8 - a / 8 ∧ b / 8 - a / 8 ≤ 7 := by omega
 obtain ⟨ff0, ff1, ff⟩ := sq_range _ hf.1 hf.2
 obtain ⟨rr0, rr1, rr⟩ := sq_range _ hr.1 hr.2
 rw [show hitsB p a b = hitsB p a b from rfl] at hk0
 have hHs := show Shut _ from hH
 have hc' := show Shut _ from hcell
 have hab' := show Shut _ from hab
 clear hH hk0 hx hcell hab hx0
 generalize hxe : pcAt p a = x at *
 have sd0 : 0 ≤ sideOf x ∧ sideOf x ≤ 1 := by unfold sideOf; split <;> omega
 obtain ⟨sd0, sd1⟩ := sd0
 by_cases k1 : kindOf x = 1
 ·have hid := show Shut _ from hBW
  clear hBW hf hr
  rw [if_pos k1] at hHs
  go_enter Tryz.func95, Tryz.ntmps95
  go_wp2_with (first
   | (go_at_call 88; refine (po_file _ _ (by omega) (by omega)).mono ?_; rintro e1 w1 ⟨rfl, rfl⟩)
   | (go_at_call 49; refine (po_rank _ _ (by omega) (by omega)).mono ?_; rintro e1 w1 ⟨rfl, rfl⟩)
   | (go_at_call 47; refine (po_kindOf _ _ (by omega)).mono ?_; rintro e1 w1 ⟨rfl, rfl⟩)
   | (go_at_call 90; refine (hi_side _ _ (by omega)).mono ?_; rintro e1 w1 ⟨rfl, rfl⟩)
   | (go_at_call 112; refine (hi_up _ _ (by omega) (by omega)).mono ?_; rintro e1 w1 ⟨rfl, rfl⟩)
   | (go_at_call 116; refine (hi_sign _ _ (by omega) (by omega)).mono ?_; rintro e1 w1 ⟨rfl, rfl⟩))
  all_goals
   go_ret
   refine ⟨?_, hid.out⟩
   rw [hHs.out]
   refine ret_bool ?_
   go_light
   first
   | (simp [*]; done)
   | (rw [Bool.eq_iff_iff]; simp [*]; done)
   | (rw [Bool.eq_iff_iff]; simp [*]; omega)
 by_cases k5 : kindOf x = 5
 ·have hid := show Shut _ from hBW
  clear hBW hf hr
  rw [if_neg k1, if_pos k5] at hHs
  go_enter Tryz.func95, Tryz.ntmps95
  go_wp2_with (first
   | (go_at_call 88; refine (po_file _ _ (by omega) (by omega)).mono ?_; rintro e1 w1 ⟨rfl, rfl⟩)
   | (go_at_call 49; refine (po_rank _ _ (by omega) (by omega)).mono ?_; rintro e1 w1 ⟨rfl, rfl⟩)
   | (go_at_call 47; refine (po_kindOf _ _ (by omega)).mono ?_; rintro e1 w1 ⟨rfl, rfl⟩)
   | (go_at_call 90; refine (hi_side _ _ (by omega)).mono ?_; rintro e1 w1 ⟨rfl, rfl⟩)
   | (go_at_call 112; refine (hi_up _ _ (by omega) (by omega)).mono ?_; rintro e1 w1 ⟨rfl, rfl⟩)
   | (go_at_call 116; refine (hi_sign _ _ (by omega) (by omega)).mono ?_; rintro e1 w1 ⟨rfl, rfl⟩))
  all_goals
   go_ret
   refine ⟨?_, hid.out⟩
   rw [hHs.out]
   refine ret_bool ?_
   go_light
   first
   | (simp [*]; done)
   | (rw [Bool.eq_iff_iff]; simp [*]; done)
   | (rw [Bool.eq_iff_iff]; simp [*]; omega)
 by_cases k6 : kindOf x = 6
 ·have hid := show Shut _ from hBW
  clear hBW hf hr
  rw [if_neg k1, if_neg k5, if_pos k6] at hHs
  go_enter Tryz.func95, Tryz.ntmps95
  go_wp2_with (first
   | (go_at_call 88; refine (po_file _ _ (by omega) (by omega)).mono ?_; rintro e1 w1 ⟨rfl, rfl⟩)
   | (go_at_call 49; refine (po_rank _ _ (by omega) (by omega)).mono ?_; rintro e1 w1 ⟨rfl, rfl⟩)
   | (go_at_call 47; refine (po_kindOf _ _ (by omega)).mono ?_; rintro e1 w1 ⟨rfl, rfl⟩)
   | (go_at_call 90; refine (hi_side _ _ (by omega)).mono ?_; rintro e1 w1 ⟨rfl, rfl⟩)
   | (go_at_call 112; refine (hi_up _ _ (by omega) (by omega)).mono ?_; rintro e1 w1 ⟨rfl, rfl⟩)
   | (go_at_call 116; refine (hi_sign _ _ (by omega) (by omega)).mono ?_; rintro e1 w1 ⟨rfl, rfl⟩))
  all_goals
   go_ret
   refine ⟨?_, hid.out⟩
   rw [hHs.out]
   refine ret_bool ?_
   go_light
   first
   | (simp [*]; done)
   | (rw [Bool.eq_iff_iff]; simp [*]; done)
   | (rw [Bool.eq_iff_iff]; simp [*]; omega)
 have hx3 : x ≠ 0 := by simpa using hx2
 rcases hk with h | h | h | h | h
 ·exact absurd h hab'.out
 ·exact absurd h hx3
 ·exact absurd h k1
 ·exact absurd h k5
 ·exact absurd h k6
end Go.Proofs.YtnjdgooljnbebaaGreatDoor
namespace Go.Proofs.YtnjdgooljnbebaaGreatDoor
open Go Go.RowKit
set_option maxHeartbeats 8000000
set_option linter.unusedSimpArgs false
set_option linter.unusedVariables false
set_option maxRecDepth 100000

theorem hj_1 (p : List Int) (hp : Pos p) (a b : Int) (a0 : 0 ≤ a) (a1 : a ≤ 63) (b0 : 0 ≤ b) (b1 : b ≤ 63) (w : World) (hab : a ≠ b) (hx0 : pcAt p a ≠ 0) (k1 : kindOf (pcAt p a) ≠ 1) (k5 : kindOf (pcAt p a) ≠ 5) (k6 : kindOf (pcAt p a) ≠ 6) (hT : b % 8 - a % 8 = 0) :
  Calls Tryz.prog 95 #[.agg (ints p), .int .i64 a, .int .i64 b] w fun e w' => e = .returned (.bool (hitsB p a b)) ∧ Below w.heap.size w w' := by
 have hrow := heap_alloc_new w (.cells (ints p) 24)
 have hBW : Below w.heap.size w (w.alloc (.cells (ints p) 24)) := (Below.refl _ _).alloc (Nat.le_refl _) _
 have hcell : ∀ i : Int, 0 ≤ i → i ≤ 63 → (w.alloc (.cells (ints p) 24)).cell? ⟨w.heap.size, i.toNat, none⟩ = some (.int .i64 (pcAt p i)) := fun i h0 h1 => row_cell hrow i.toNat (by rw [hp.len]; omega)
 clear hrow
 have ca := hcell a a0 a1
 have xa0 : 0 ≤ pcAt p a := hp.lo _ (by omega)
 have xa1 : pcAt p a ≤ 12 := hp.hi _ (by omega)
 have hlines := lines_all a.toNat (by omega) b.toNat (by omega)
 rw [Int.toNat_of_nonneg a0, Int.toNat_of_nonneg b0] at hlines
 have hab2 : (a == b) = false := by simpa using hab
 have hx2 : (pcAt p a == 0) = false := by simpa using hx0
 have hk1 : (kindOf (pcAt p a) == 1) = false := by simpa using k1
 have hk5 : (kindOf (pcAt p a) == 5) = false := by simpa using k5
 have hk6 : (kindOf (pcAt p a) == 6) = false := by simpa using k6
 have hH : hitsB p a b = if (inLine a b && decide (kindOf (pcAt p a) ≠ 4)) || (inSlant a b && decide (kindOf (pcAt p a) ≠ 3)) then clearRun p (wayOf a b) (lineN a b) (a + wayOf a b) else false := by
  rw [hitsB, if_neg (by simp [hab, hx0]), if_neg k1, if_neg k5, if_neg k6]
 have t0 : (b % 8 - a % 8 == 0) = true := by first | (simp; omega) | (simp; done)
 have t1 : (b / 8 - a / 8 == 0) = false := by first | (simp; omega) | (simp; done)
 have t2 : (b % 8 - a % 8 == b / 8 - a / 8) = false := by first | (simp; omega) | (simp; done)
 have t3 : (b % 8 - a % 8 == -(b / 8 - a / 8)) = false := by first | (simp; omega) | (simp; done)
 have hin : inLine a b = true := by unfold inLine; simp; omega
 have hsl : inSlant a b = false := by unfold inSlant; simp; omega
 rw [hin, hsl] at hH
 obtain ⟨s10, s11⟩ := sgn_range (b % 8 - a % 8)
 obtain ⟨s20, s21⟩ := sgn_range (b / 8 - a / 8)
 have hc' := show Shut _ from hcell
 have hbw := show Shut _ from hBW
 have hw : wayOf a b = sgn (b % 8 - a % 8) + 8 * sgn (b / 8 - a / 8) := rfl
 have hnn : a.toNat ≠ b.toNat := fun h => hab (by omega)
 have hL : Line b (wayOf a b) (a + wayOf a b) (lineN a b) := line_of _ _ _ _ (hlines (by rw [hin, hsl]; simp [hnn]))
 rw [hw] at hL hH
 have hHs := show Shut _ from hH
 clear hH hw hnn hin hsl hlines hcell hBW hT hab hx0 k1 k5 k6
 generalize hxe : pcAt p a = x at *
 generalize lineN a b = N at *
 by_cases k3 : kindOf x = 3
 ·rw [k3] at hHs
  go_enter Tryz.func95, Tryz.ntmps95
  go_wp2_with (first
    | (go_at_call 88; refine (po_file _ _ (by omega) (by omega)).mono ?_; rintro e1 w1 ⟨rfl, rfl⟩)
    | (go_at_call 49; refine (po_rank _ _ (by omega) (by omega)).mono ?_; rintro e1 w1 ⟨rfl, rfl⟩)
    | (go_at_call 47; refine (po_kindOf _ _ (by omega)).mono ?_; rintro e1 w1 ⟨rfl, rfl⟩)
    | (go_at_call 116; refine (hi_sign _ _ (by omega) (by omega)).mono ?_; rintro e1 w1 ⟨rfl, rfl⟩))
  go_loopw [12] (fun s wr => ∃ (i : Int) (n : Nat), s = .int .i64 i ∧ wr = w.alloc (.cells (ints p) 24) ∧ Line b (sgn (b % 8 - a % 8) + 8 * sgn (b / 8 - a / 8)) i n ∧ clearRun p (sgn (b % 8 - a % 8) + 8 * sgn (b / 8 - a / 8)) n i = hitsB p a b) (fun s _ => (b - intOf s).natAbs)
  case atStart => exact ⟨_, _, rfl, rfl, hL, hHs.out.symm⟩
  case round =>
   obtain ⟨i, n, rfl, rfl, hLi, hcl⟩ := hrel
   cases hLi with
   | nil =>
    have hcs := show Shut _ from hcl
    clear hcl hL
    go_wp2_with fail
    go_ret
    exact ⟨by rw [← hcs.out]; rfl, hbw.out⟩
   | cons _ n i0 i1 ine hdec hnext =>
    have ci := hc'.out i i0 i1
    have hne : (i == b) = false := by simpa using ine
    rw [clear_step] at hcl
    have hds := show Shut _ from And.intro hdec hnext
    clear hL hdec hnext ine
    by_cases hz : pcAt p i = 0
    ·rw [decide_eq_true hz] at hcl
     rw [hz] at ci
     have hcs := show Shut _ from hcl
     clear hcl hz
     go_wp2_with fail
     go_roundw
     case rel => exact ⟨_, n, rfl, trivial, hds.out.2, hcs.out⟩
     case measure => exact hds.out.1
    ·rw [decide_eq_false hz] at hcl
     have hz2 : (pcAt p i == 0) = false := by simpa using hz
     have hcs := show Shut _ from hcl
     clear hcl hz
     generalize pcAt p i = y at *
     go_wp2_with fail
     go_ret
     exact ⟨by rw [← hcs.out]; rfl, hbw.out⟩
 by_cases k4 : kindOf x = 4
 ·rw [k4] at hHs
  go_enter Tryz.func95, Tryz.ntmps95
  go_wp2_with (first
    | (go_at_call 88; refine (po_file _ _ (by omega) (by omega)).mono ?_; rintro e1 w1 ⟨rfl, rfl⟩)
    | (go_at_call 49; refine (po_rank _ _ (by omega) (by omega)).mono ?_; rintro e1 w1 ⟨rfl, rfl⟩)
    | (go_at_call 47; refine (po_kindOf _ _ (by omega)).mono ?_; rintro e1 w1 ⟨rfl, rfl⟩)
    | (go_at_call 116; refine (hi_sign _ _ (by omega) (by omega)).mono ?_; rintro e1 w1 ⟨rfl, rfl⟩))
  go_ret
  exact ⟨by rw [hHs.out]; rfl, hbw.out⟩
 ·have hk3 : (kindOf x == 3) = false := by simpa using k3
  have hk4 : (kindOf x == 4) = false := by simpa using k4
  rw [show decide (kindOf x ≠ 3) = true from by simpa using k3, show decide (kindOf x ≠ 4) = true from by simpa using k4] at hHs
  clear k3 k4
  go_enter Tryz.func95, Tryz.ntmps95
  go_wp2_with (first
    | (go_at_call 88; refine (po_file _ _ (by omega) (by omega)).mono ?_; rintro e1 w1 ⟨rfl, rfl⟩)
    | (go_at_call 49; refine (po_rank _ _ (by omega) (by omega)).mono ?_; rintro e1 w1 ⟨rfl, rfl⟩)
    | (go_at_call 47; refine (po_kindOf _ _ (by omega)).mono ?_; rintro e1 w1 ⟨rfl, rfl⟩)
    | (go_at_call 116; refine (hi_sign _ _ (by omega) (by omega)).mono ?_; rintro e1 w1 ⟨rfl, rfl⟩))
  go_loopw [12] (fun s wr => ∃ (i : Int) (n : Nat), s = .int .i64 i ∧ wr = w.alloc (.cells (ints p) 24) ∧ Line b (sgn (b % 8 - a % 8) + 8 * sgn (b / 8 - a / 8)) i n ∧ clearRun p (sgn (b % 8 - a % 8) + 8 * sgn (b / 8 - a / 8)) n i = hitsB p a b) (fun s _ => (b - intOf s).natAbs)
  case atStart => exact ⟨_, _, rfl, rfl, hL, hHs.out.symm⟩
  case round =>
   obtain ⟨i, n, rfl, rfl, hLi, hcl⟩ := hrel
   cases hLi with
   | nil =>
    have hcs := show Shut _ from hcl
    clear hcl hL
    go_wp2_with fail
    go_ret
    exact ⟨by rw [← hcs.out]; rfl, hbw.out⟩
   | cons _ n i0 i1 ine hdec hnext =>
    have ci := hc'.out i i0 i1
    have hne : (i == b) = false := by simpa using ine
    rw [clear_step] at hcl
    have hds := show Shut _ from And.intro hdec hnext
    clear hL hdec hnext ine
    by_cases hz : pcAt p i = 0
    ·rw [decide_eq_true hz] at hcl
     rw [hz] at ci
     have hcs := show Shut _ from hcl
     clear hcl hz
     go_wp2_with fail
     go_roundw
     case rel => exact ⟨_, n, rfl, trivial, hds.out.2, hcs.out⟩
     case measure => exact hds.out.1
    ·rw [decide_eq_false hz] at hcl
     have hz2 : (pcAt p i == 0) = false := by simpa using hz
     have hcs := show Shut _ from hcl
     clear hcl hz
     generalize pcAt p i = y at *
     go_wp2_with fail
     go_ret
     exact ⟨by rw [← hcs.out]; rfl, hbw.out⟩
theorem hj_2 (p : List Int) (hp : Pos p) (a b : Int) (a0 : 0 ≤ a) (a1 : a ≤ 63) (b0 : 0 ≤ b) (b1 : b ≤ 63) (w : World) (hab : a ≠ b) (hx0 : pcAt p a ≠ 0) (k1 : kindOf (pcAt p a) ≠ 1) (k5 : kindOf (pcAt p a) ≠ 5) (k6 : kindOf (pcAt p a) ≠ 6) (hT : b / 8 - a / 8 = 0) :
  Calls Tryz.prog 95 #[.agg (ints p), .int .i64 a, .int .i64 b] w fun e w' => e = .returned (.bool (hitsB p a b)) ∧ Below w.heap.size w w' := by
 have hrow := heap_alloc_new w (.cells (ints p) 24)
 have hBW : Below w.heap.size w (w.alloc (.cells (ints p) 24)) := (Below.refl _ _).alloc (Nat.le_refl _) _
 have hcell : ∀ i : Int, 0 ≤ i → i ≤ 63 → (w.alloc (.cells (ints p) 24)).cell? ⟨w.heap.size, i.toNat, none⟩ = some (.int .i64 (pcAt p i)) := fun i h0 h1 => row_cell hrow i.toNat (by rw [hp.len]; omega)
 clear hrow
 have ca := hcell a a0 a1
 have xa0 : 0 ≤ pcAt p a := hp.lo _ (by omega)
 have xa1 : pcAt p a ≤ 12 := hp.hi _ (by omega)
 have hlines := lines_all a.toNat (by omega) b.toNat (by omega)
 rw [Int.toNat_of_nonneg a0, Int.toNat_of_nonneg b0] at hlines
 have hab2 : (a == b) = false := by simpa using hab
 have hx2 : (pcAt p a == 0) = false := by simpa using hx0
 have hk1 : (kindOf (pcAt p a) == 1) = false := by simpa using k1
 have hk5 : (kindOf (pcAt p a) == 5) = false := by simpa using k5
 have hk6 : (kindOf (pcAt p a) == 6) = false := by simpa using k6
 have hH : hitsB p a b = if (inLine a b && decide (kindOf (pcAt p a) ≠ 4)) || (inSlant a b && decide (kindOf (pcAt p a) ≠ 3)) then clearRun p (wayOf a b) (lineN a b) (a + wayOf a b) else false := by
  rw [hitsB, if_neg (by simp [hab, hx0]), if_neg k1, if_neg k5, if_neg k6]
 have t0 : (b % 8 - a % 8 == 0) = false := by first | (simp; omega) | (simp; done)
 have t1 : (b / 8 - a / 8 == 0) = true := by first | (simp; omega) | (simp; done)
 have t2 : (b % 8 - a % 8 == b / 8 - a / 8) = false := by first | (simp; omega) | (simp; done)
 have t3 : (b % 8 - a % 8 == -(b / 8 - a / 8)) = false := by first | (simp; omega) | (simp; done)
 have hin : inLine a b = true := by unfold inLine; simp; omega
 have hsl : inSlant a b = false := by unfold inSlant; simp; omega
 rw [hin, hsl] at hH
 obtain ⟨s10, s11⟩ := sgn_range (b % 8 - a % 8)
 obtain ⟨s20, s21⟩ := sgn_range (b / 8 - a / 8)
 have hc' := show Shut _ from hcell
 have hbw := show Shut _ from hBW
 have hw : wayOf a b = sgn (b % 8 - a % 8) + 8 * sgn (b / 8 - a / 8) := rfl
 have hnn : a.toNat ≠ b.toNat := fun h => hab (by omega)
 have hL : Line b (wayOf a b) (a + wayOf a b) (lineN a b) := line_of _ _ _ _ (hlines (by rw [hin, hsl]; simp [hnn]))
 rw [hw] at hL hH
 have hHs := show Shut _ from hH
 clear hH hw hnn hin hsl hlines hcell hBW hT hab hx0 k1 k5 k6
 generalize hxe : pcAt p a = x at *
 generalize lineN a b = N at *
 by_cases k3 : kindOf x = 3
 ·rw [k3] at hHs
  go_enter Tryz.func95, Tryz.ntmps95
  go_wp2_with (first
    | (go_at_call 88; refine (po_file _ _ (by omega) (by omega)).mono ?_; rintro e1 w1 ⟨rfl, rfl⟩)
    | (go_at_call 49; refine (po_rank _ _ (by omega) (by omega)).mono ?_; rintro e1 w1 ⟨rfl, rfl⟩)
    | (go_at_call 47; refine (po_kindOf _ _ (by omega)).mono ?_; rintro e1 w1 ⟨rfl, rfl⟩)
    | (go_at_call 116; refine (hi_sign _ _ (by omega) (by omega)).mono ?_; rintro e1 w1 ⟨rfl, rfl⟩))
  go_loopw [12] (fun s wr => ∃ (i : Int) (n : Nat), s = .int .i64 i ∧ wr = w.alloc (.cells (ints p) 24) ∧ Line b (sgn (b % 8 - a % 8) + 8 * sgn (b / 8 - a / 8)) i n ∧ clearRun p (sgn (b % 8 - a % 8) + 8 * sgn (b / 8 - a / 8)) n i = hitsB p a b) (fun s _ => (b - intOf s).natAbs)
  case atStart => exact ⟨_, _, rfl, rfl, hL, hHs.out.symm⟩
  case round =>
   obtain ⟨i, n, rfl, rfl, hLi, hcl⟩ := hrel
   cases hLi with
   | nil =>
    have hcs := show Shut _ from hcl
    clear hcl hL
    go_wp2_with fail
    go_ret
    exact ⟨by rw [← hcs.out]; rfl, hbw.out⟩
   | cons _ n i0 i1 ine hdec hnext =>
    have ci := hc'.out i i0 i1
    have hne : (i == b) = false := by simpa using ine
    rw [clear_step] at hcl
    have hds := show Shut _ from And.intro hdec hnext
    clear hL hdec hnext ine
    by_cases hz : pcAt p i = 0
    ·rw [decide_eq_true hz] at hcl
     rw [hz] at ci
     have hcs := show Shut _ from hcl
     clear hcl hz
     go_wp2_with fail
     go_roundw
     case rel => exact ⟨_, n, rfl, trivial, hds.out.2, hcs.out⟩
     case measure => exact hds.out.1
    ·rw [decide_eq_false hz] at hcl
     have hz2 : (pcAt p i == 0) = false := by simpa using hz
     have hcs := show Shut _ from hcl
     clear hcl hz
     generalize pcAt p i = y at *
     go_wp2_with fail
     go_ret
     exact ⟨by rw [← hcs.out]; rfl, hbw.out⟩
 by_cases k4 : kindOf x = 4
 ·rw [k4] at hHs
  go_enter Tryz.func95, Tryz.ntmps95
  go_wp2_with (first
    | (go_at_call 88; refine (po_file _ _ (by omega) (by omega)).mono ?_; rintro e1 w1 ⟨rfl, rfl⟩)
    | (go_at_call 49; refine (po_rank _ _ (by omega) (by omega)).mono ?_; rintro e1 w1 ⟨rfl, rfl⟩)
    | (go_at_call 47; refine (po_kindOf _ _ (by omega)).mono ?_; rintro e1 w1 ⟨rfl, rfl⟩)
    | (go_at_call 116; refine (hi_sign _ _ (by omega) (by omega)).mono ?_; rintro e1 w1 ⟨rfl, rfl⟩))
  go_ret
  exact ⟨by rw [hHs.out]; rfl, hbw.out⟩
 ·have hk3 : (kindOf x == 3) = false := by simpa using k3
  have hk4 : (kindOf x == 4) = false := by simpa using k4
  rw [show decide (kindOf x ≠ 3) = true from by simpa using k3, show decide (kindOf x ≠ 4) = true from by simpa using k4] at hHs
  clear k3 k4
  go_enter Tryz.func95, Tryz.ntmps95
  go_wp2_with (first
    | (go_at_call 88; refine (po_file _ _ (by omega) (by omega)).mono ?_; rintro e1 w1 ⟨rfl, rfl⟩)
    | (go_at_call 49; refine (po_rank _ _ (by omega) (by omega)).mono ?_; rintro e1 w1 ⟨rfl, rfl⟩)
    | (go_at_call 47; refine (po_kindOf _ _ (by omega)).mono ?_; rintro e1 w1 ⟨rfl, rfl⟩)
    | (go_at_call 116; refine (hi_sign _ _ (by omega) (by omega)).mono ?_; rintro e1 w1 ⟨rfl, rfl⟩))
  go_loopw [12] (fun s wr => ∃ (i : Int) (n : Nat), s = .int .i64 i ∧ wr = w.alloc (.cells (ints p) 24) ∧ Line b (sgn (b % 8 - a % 8) + 8 * sgn (b / 8 - a / 8)) i n ∧ clearRun p (sgn (b % 8 - a % 8) + 8 * sgn (b / 8 - a / 8)) n i = hitsB p a b) (fun s _ => (b - intOf s).natAbs)
  case atStart => exact ⟨_, _, rfl, rfl, hL, hHs.out.symm⟩
  case round =>
   obtain ⟨i, n, rfl, rfl, hLi, hcl⟩ := hrel
   cases hLi with
   | nil =>
    have hcs := show Shut _ from hcl
    clear hcl hL
    go_wp2_with fail
    go_ret
    exact ⟨by rw [← hcs.out]; rfl, hbw.out⟩
   | cons _ n i0 i1 ine hdec hnext =>
    have ci := hc'.out i i0 i1
    have hne : (i == b) = false := by simpa using ine
    rw [clear_step] at hcl
    have hds := show Shut _ from And.intro hdec hnext
    clear hL hdec hnext ine
    by_cases hz : pcAt p i = 0
    ·rw [decide_eq_true hz] at hcl
     rw [hz] at ci
     have hcs := show Shut _ from hcl
     clear hcl hz
     go_wp2_with fail
     go_roundw
     case rel => exact ⟨_, n, rfl, trivial, hds.out.2, hcs.out⟩
     case measure => exact hds.out.1
    ·rw [decide_eq_false hz] at hcl
     have hz2 : (pcAt p i == 0) = false := by simpa using hz
     have hcs := show Shut _ from hcl
     clear hcl hz
     generalize pcAt p i = y at *
     go_wp2_with fail
     go_ret
     exact ⟨by rw [← hcs.out]; rfl, hbw.out⟩
theorem hj_3 (p : List Int) (hp : Pos p) (a b : Int) (a0 : 0 ≤ a) (a1 : a ≤ 63) (b0 : 0 ≤ b) (b1 : b ≤ 63) (w : World) (hab : a ≠ b) (hx0 : pcAt p a ≠ 0) (k1 : kindOf (pcAt p a) ≠ 1) (k5 : kindOf (pcAt p a) ≠ 5) (k6 : kindOf (pcAt p a) ≠ 6) (hT : b % 8 - a % 8 = b / 8 - a / 8) :
  Calls Tryz.prog 95 #[.agg (ints p), .int .i64 a, .int .i64 b] w fun e w' => e = .returned (.bool (hitsB p a b)) ∧ Below w.heap.size w w' := by
 have hrow := heap_alloc_new w (.cells (ints p) 24)
 have hBW : Below w.heap.size w (w.alloc (.cells (ints p) 24)) := (Below.refl _ _).alloc (Nat.le_refl _) _
 have hcell : ∀ i : Int, 0 ≤ i → i ≤ 63 → (w.alloc (.cells (ints p) 24)).cell? ⟨w.heap.size, i.toNat, none⟩ = some (.int .i64 (pcAt p i)) := fun i h0 h1 => row_cell hrow i.toNat (by rw [hp.len]; omega)
 clear hrow
 have ca := hcell a a0 a1
 have xa0 : 0 ≤ pcAt p a := hp.lo _ (by omega)
 have xa1 : pcAt p a ≤ 12 := hp.hi _ (by omega)
 have hlines := lines_all a.toNat (by omega) b.toNat (by omega)
 rw [Int.toNat_of_nonneg a0, Int.toNat_of_nonneg b0] at hlines
 have hab2 : (a == b) = false := by simpa using hab
 have hx2 : (pcAt p a == 0) = false := by simpa using hx0
 have hk1 : (kindOf (pcAt p a) == 1) = false := by simpa using k1
 have hk5 : (kindOf (pcAt p a) == 5) = false := by simpa using k5
 have hk6 : (kindOf (pcAt p a) == 6) = false := by simpa using k6
 have hH : hitsB p a b = if (inLine a b && decide (kindOf (pcAt p a) ≠ 4)) || (inSlant a b && decide (kindOf (pcAt p a) ≠ 3)) then clearRun p (wayOf a b) (lineN a b) (a + wayOf a b) else false := by
  rw [hitsB, if_neg (by simp [hab, hx0]), if_neg k1, if_neg k5, if_neg k6]
 have t0 : (b % 8 - a % 8 == 0) = false := by first | (simp; omega) | (simp; done)
 have t1 : (b / 8 - a / 8 == 0) = false := by first | (simp; omega) | (simp; done)
 have t2 : (b % 8 - a % 8 == b / 8 - a / 8) = true := by first | (simp; omega) | (simp; done)
 have t3 : (b % 8 - a % 8 == -(b / 8 - a / 8)) = false := by first | (simp; omega) | (simp; done)
 have hin : inLine a b = false := by unfold inLine; simp; omega
 have hsl : inSlant a b = true := by unfold inSlant; simp; omega
 rw [hin, hsl] at hH
 obtain ⟨s10, s11⟩ := sgn_range (b % 8 - a % 8)
 obtain ⟨s20, s21⟩ := sgn_range (b / 8 - a / 8)
 have hc' := show Shut _ from hcell
 have hbw := show Shut _ from hBW
 have hw : wayOf a b = sgn (b % 8 - a % 8) + 8 * sgn (b / 8 - a / 8) := rfl
 have hnn : a.toNat ≠ b.toNat := fun h => hab (by omega)
 have hL : Line b (wayOf a b) (a + wayOf a b) (lineN a b) := line_of _ _ _ _ (hlines (by rw [hin, hsl]; simp [hnn]))
 rw [hw] at hL hH
 have hHs := show Shut _ from hH
 clear hH hw hnn hin hsl hlines hcell hBW hT hab hx0 k1 k5 k6
 generalize hxe : pcAt p a = x at *
 generalize lineN a b = N at *
 by_cases k3 : kindOf x = 3
 ·rw [k3] at hHs
  go_enter Tryz.func95, Tryz.ntmps95
  go_wp2_with (first
    | (go_at_call 88; refine (po_file _ _ (by omega) (by omega)).mono ?_; rintro e1 w1 ⟨rfl, rfl⟩)
    | (go_at_call 49; refine (po_rank _ _ (by omega) (by omega)).mono ?_; rintro e1 w1 ⟨rfl, rfl⟩)
    | (go_at_call 47; refine (po_kindOf _ _ (by omega)).mono ?_; rintro e1 w1 ⟨rfl, rfl⟩)
    | (go_at_call 116; refine (hi_sign _ _ (by omega) (by omega)).mono ?_; rintro e1 w1 ⟨rfl, rfl⟩))
  go_ret
  exact ⟨by rw [hHs.out]; rfl, hbw.out⟩
 by_cases k4 : kindOf x = 4
 ·rw [k4] at hHs
  go_enter Tryz.func95, Tryz.ntmps95
  go_wp2_with (first
    | (go_at_call 88; refine (po_file _ _ (by omega) (by omega)).mono ?_; rintro e1 w1 ⟨rfl, rfl⟩)
    | (go_at_call 49; refine (po_rank _ _ (by omega) (by omega)).mono ?_; rintro e1 w1 ⟨rfl, rfl⟩)
    | (go_at_call 47; refine (po_kindOf _ _ (by omega)).mono ?_; rintro e1 w1 ⟨rfl, rfl⟩)
    | (go_at_call 116; refine (hi_sign _ _ (by omega) (by omega)).mono ?_; rintro e1 w1 ⟨rfl, rfl⟩))
  go_loopw [12] (fun s wr => ∃ (i : Int) (n : Nat), s = .int .i64 i ∧ wr = w.alloc (.cells (ints p) 24) ∧ Line b (sgn (b % 8 - a % 8) + 8 * sgn (b / 8 - a / 8)) i n ∧ clearRun p (sgn (b % 8 - a % 8) + 8 * sgn (b / 8 - a / 8)) n i = hitsB p a b) (fun s _ => (b - intOf s).natAbs)
  case atStart => exact ⟨_, _, rfl, rfl, hL, hHs.out.symm⟩
  case round =>
   obtain ⟨i, n, rfl, rfl, hLi, hcl⟩ := hrel
   cases hLi with
   | nil =>
    have hcs := show Shut _ from hcl
    clear hcl hL
    go_wp2_with fail
    go_ret
    exact ⟨by rw [← hcs.out]; rfl, hbw.out⟩
   | cons _ n i0 i1 ine hdec hnext =>
    have ci := hc'.out i i0 i1
    have hne : (i == b) = false := by simpa using ine
    rw [clear_step] at hcl
    have hds := show Shut _ from And.intro hdec hnext
    clear hL hdec hnext ine
    by_cases hz : pcAt p i = 0
    ·rw [decide_eq_true hz] at hcl
     rw [hz] at ci
     have hcs := show Shut _ from hcl
     clear hcl hz
     go_wp2_with fail
     go_roundw
     case rel => exact ⟨_, n, rfl, trivial, hds.out.2, hcs.out⟩
     case measure => exact hds.out.1
    ·rw [decide_eq_false hz] at hcl
     have hz2 : (pcAt p i == 0) = false := by simpa using hz
     have hcs := show Shut _ from hcl
     clear hcl hz
     generalize pcAt p i = y at *
     go_wp2_with fail
     go_ret
     exact ⟨by rw [← hcs.out]; rfl, hbw.out⟩
 ·have hk3 : (kindOf x == 3) = false := by simpa using k3
  have hk4 : (kindOf x == 4) = false := by simpa using k4
  rw [show decide (kindOf x ≠ 3) = true from by simpa using k3, show decide (kindOf x ≠ 4) = true from by simpa using k4] at hHs
  clear k3 k4
  go_enter Tryz.func95, Tryz.ntmps95
  go_wp2_with (first
    | (go_at_call 88; refine (po_file _ _ (by omega) (by omega)).mono ?_; rintro e1 w1 ⟨rfl, rfl⟩)
    | (go_at_call 49; refine (po_rank _ _ (by omega) (by omega)).mono ?_; rintro e1 w1 ⟨rfl, rfl⟩)
    | (go_at_call 47; refine (po_kindOf _ _ (by omega)).mono ?_; rintro e1 w1 ⟨rfl, rfl⟩)
    | (go_at_call 116; refine (hi_sign _ _ (by omega) (by omega)).mono ?_; rintro e1 w1 ⟨rfl, rfl⟩))
  go_loopw [12] (fun s wr => ∃ (i : Int) (n : Nat), s = .int .i64 i ∧ wr = w.alloc (.cells (ints p) 24) ∧ Line b (sgn (b % 8 - a % 8) + 8 * sgn (b / 8 - a / 8)) i n ∧ clearRun p (sgn (b % 8 - a % 8) + 8 * sgn (b / 8 - a / 8)) n i = hitsB p a b) (fun s _ => (b - intOf s).natAbs)
  case atStart => exact ⟨_, _, rfl, rfl, hL, hHs.out.symm⟩
  case round =>
   obtain ⟨i, n, rfl, rfl, hLi, hcl⟩ := hrel
   cases hLi with
   | nil =>
    have hcs := show Shut _ from hcl
    clear hcl hL
    go_wp2_with fail
    go_ret
    exact ⟨by rw [← hcs.out]; rfl, hbw.out⟩
   | cons _ n i0 i1 ine hdec hnext =>
    have ci := hc'.out i i0 i1
    have hne : (i == b) = false := by simpa using ine
    rw [clear_step] at hcl
    have hds := show Shut _ from And.intro hdec hnext
    clear hL hdec hnext ine
    by_cases hz : pcAt p i = 0
    ·rw [decide_eq_true hz] at hcl
     rw [hz] at ci
     have hcs := show Shut _ from hcl
     clear hcl hz
     go_wp2_with fail
     go_roundw
     case rel => exact ⟨_, n, rfl, trivial, hds.out.2, hcs.out⟩
     case measure => exact hds.out.1
    ·rw [decide_eq_false hz] at hcl
     have hz2 : (pcAt p i == 0) = false := by simpa using hz
     have hcs := show Shut _ from hcl
     clear hcl hz
     generalize pcAt p i = y at *
     go_wp2_with fail
     go_ret
     exact ⟨by rw [← hcs.out]; rfl, hbw.out⟩
theorem hj_4 (p : List Int) (hp : Pos p) (a b : Int) (a0 : 0 ≤ a) (a1 : a ≤ 63) (b0 : 0 ≤ b) (b1 : b ≤ 63) (w : World) (hab : a ≠ b) (hx0 : pcAt p a ≠ 0) (k1 : kindOf (pcAt p a) ≠ 1) (k5 : kindOf (pcAt p a) ≠ 5) (k6 : kindOf (pcAt p a) ≠ 6) (hT : b % 8 - a % 8 = -(b / 8 - a / 8)) :
  Calls Tryz.prog 95 #[.agg (ints p), .int .i64 a, .int .i64 b] w fun e w' => e = .returned (.bool (hitsB p a b)) ∧ Below w.heap.size w w' := by
 have hrow := heap_alloc_new w (.cells (ints p) 24)
 have hBW : Below w.heap.size w (w.alloc (.cells (ints p) 24)) := (Below.refl _ _).alloc (Nat.le_refl _) _
 have hcell : ∀ i : Int, 0 ≤ i → i ≤ 63 → (w.alloc (.cells (ints p) 24)).cell? ⟨w.heap.size, i.toNat, none⟩ = some (.int .i64 (pcAt p i)) := fun i h0 h1 => row_cell hrow i.toNat (by rw [hp.len]; omega)
 clear hrow
 have ca := hcell a a0 a1
 have xa0 : 0 ≤ pcAt p a := hp.lo _ (by omega)
 have xa1 : pcAt p a ≤ 12 := hp.hi _ (by omega)
 have hlines := lines_all a.toNat (by omega) b.toNat (by omega)
 rw [Int.toNat_of_nonneg a0, Int.toNat_of_nonneg b0] at hlines
 have hab2 : (a == b) = false := by simpa using hab
 have hx2 : (pcAt p a == 0) = false := by simpa using hx0
 have hk1 : (kindOf (pcAt p a) == 1) = false := by simpa using k1
 have hk5 : (kindOf (pcAt p a) == 5) = false := by simpa using k5
 have hk6 : (kindOf (pcAt p a) == 6) = false := by simpa using k6
 have hH : hitsB p a b = if (inLine a b && decide (kindOf (pcAt p a) ≠ 4)) || (inSlant a b && decide (kindOf (pcAt p a) ≠ 3)) then clearRun p (wayOf a b) (lineN a b) (a + wayOf a b) else false := by
  rw [hitsB, if_neg (by simp [hab, hx0]), if_neg k1, if_neg k5, if_neg k6]
 have t0 : (b % 8 - a % 8 == 0) = false := by first | (simp; omega) | (simp; done)
 have t1 : (b / 8 - a / 8 == 0) = false := by first | (simp; omega) | (simp; done)
 have t2 : (b % 8 - a % 8 == b / 8 - a / 8) = false := by first | (simp; omega) | (simp; done)
 have t3 : (b % 8 - a % 8 == -(b / 8 - a / 8)) = true := by first | (simp; omega) | (simp; done)
 have hin : inLine a b = false := by unfold inLine; simp; omega
 have hsl : inSlant a b = true := by unfold inSlant; simp; omega
 rw [hin, hsl] at hH
 obtain ⟨s10, s11⟩ := sgn_range (b % 8 - a % 8)
 obtain ⟨s20, s21⟩ := sgn_range (b / 8 - a / 8)
 have hc' := show Shut _ from hcell
 have hbw := show Shut _ from hBW
 have hw : wayOf a b = sgn (b % 8 - a % 8) + 8 * sgn (b / 8 - a / 8) := rfl
 have hnn : a.toNat ≠ b.toNat := fun h => hab (by omega)
 have hL : Line b (wayOf a b) (a + wayOf a b) (lineN a b) := line_of _ _ _ _ (hlines (by rw [hin, hsl]; simp [hnn]))
 rw [hw] at hL hH
 have hHs := show Shut _ from hH
 clear hH hw hnn hin hsl hlines hcell hBW hT hab hx0 k1 k5 k6
 generalize hxe : pcAt p a = x at *
 generalize lineN a b = N at *
 by_cases k3 : kindOf x = 3
 ·rw [k3] at hHs
  go_enter Tryz.func95, Tryz.ntmps95
  go_wp2_with (first
    | (go_at_call 88; refine (po_file _ _ (by omega) (by omega)).mono ?_; rintro e1 w1 ⟨rfl, rfl⟩)
    | (go_at_call 49; refine (po_rank _ _ (by omega) (by omega)).mono ?_; rintro e1 w1 ⟨rfl, rfl⟩)
    | (go_at_call 47; refine (po_kindOf _ _ (by omega)).mono ?_; rintro e1 w1 ⟨rfl, rfl⟩)
    | (go_at_call 116; refine (hi_sign _ _ (by omega) (by omega)).mono ?_; rintro e1 w1 ⟨rfl, rfl⟩))
  go_ret
  exact ⟨by rw [hHs.out]; rfl, hbw.out⟩
 by_cases k4 : kindOf x = 4
 ·rw [k4] at hHs
  go_enter Tryz.func95, Tryz.ntmps95
  go_wp2_with (first
    | (go_at_call 88; refine (po_file _ _ (by omega) (by omega)).mono ?_; rintro e1 w1 ⟨rfl, rfl⟩)
    | (go_at_call 49; refine (po_rank _ _ (by omega) (by omega)).mono ?_; rintro e1 w1 ⟨rfl, rfl⟩)
    | (go_at_call 47; refine (po_kindOf _ _ (by omega)).mono ?_; rintro e1 w1 ⟨rfl, rfl⟩)
    | (go_at_call 116; refine (hi_sign _ _ (by omega) (by omega)).mono ?_; rintro e1 w1 ⟨rfl, rfl⟩))
  go_loopw [12] (fun s wr => ∃ (i : Int) (n : Nat), s = .int .i64 i ∧ wr = w.alloc (.cells (ints p) 24) ∧ Line b (sgn (b % 8 - a % 8) + 8 * sgn (b / 8 - a / 8)) i n ∧ clearRun p (sgn (b % 8 - a % 8) + 8 * sgn (b / 8 - a / 8)) n i = hitsB p a b) (fun s _ => (b - intOf s).natAbs)
  case atStart => exact ⟨_, _, rfl, rfl, hL, hHs.out.symm⟩
  case round =>
   obtain ⟨i, n, rfl, rfl, hLi, hcl⟩ := hrel
   cases hLi with
   | nil =>
    have hcs := show Shut _ from hcl
    clear hcl hL
    go_wp2_with fail
    go_ret
    exact ⟨by rw [← hcs.out]; rfl, hbw.out⟩
   | cons _ n i0 i1 ine hdec hnext =>
    have ci := hc'.out i i0 i1
    have hne : (i == b) = false := by simpa using ine
    rw [clear_step] at hcl
    have hds := show Shut _ from And.intro hdec hnext
    clear hL hdec hnext ine
    by_cases hz : pcAt p i = 0
    ·rw [decide_eq_true hz] at hcl
     rw [hz] at ci
     have hcs := show Shut _ from hcl
     clear hcl hz
     go_wp2_with fail
     go_roundw
     case rel => exact ⟨_, n, rfl, trivial, hds.out.2, hcs.out⟩
     case measure => exact hds.out.1
    ·rw [decide_eq_false hz] at hcl
     have hz2 : (pcAt p i == 0) = false := by simpa using hz
     have hcs := show Shut _ from hcl
     clear hcl hz
     generalize pcAt p i = y at *
     go_wp2_with fail
     go_ret
     exact ⟨by rw [← hcs.out]; rfl, hbw.out⟩
 ·have hk3 : (kindOf x == 3) = false := by simpa using k3
  have hk4 : (kindOf x == 4) = false := by simpa using k4
  rw [show decide (kindOf x ≠ 3) = true from by simpa using k3, show decide (kindOf x ≠ 4) = true from by simpa using k4] at hHs
  clear k3 k4
  go_enter Tryz.func95, Tryz.ntmps95
  go_wp2_with (first
    | (go_at_call 88; refine (po_file _ _ (by omega) (by omega)).mono ?_; rintro e1 w1 ⟨rfl, rfl⟩)
    | (go_at_call 49; refine (po_rank _ _ (by omega) (by omega)).mono ?_; rintro e1 w1 ⟨rfl, rfl⟩)
    | (go_at_call 47; refine (po_kindOf _ _ (by omega)).mono ?_; rintro e1 w1 ⟨rfl, rfl⟩)
    | (go_at_call 116; refine (hi_sign _ _ (by omega) (by omega)).mono ?_; rintro e1 w1 ⟨rfl, rfl⟩))
  go_loopw [12] (fun s wr => ∃ (i : Int) (n : Nat), s = .int .i64 i ∧ wr = w.alloc (.cells (ints p) 24) ∧ Line b (sgn (b % 8 - a % 8) + 8 * sgn (b / 8 - a / 8)) i n ∧ clearRun p (sgn (b % 8 - a % 8) + 8 * sgn (b / 8 - a / 8)) n i = hitsB p a b) (fun s _ => (b - intOf s).natAbs)
  case atStart => exact ⟨_, _, rfl, rfl, hL, hHs.out.symm⟩
  case round =>
   obtain ⟨i, n, rfl, rfl, hLi, hcl⟩ := hrel
   cases hLi with
   | nil =>
    have hcs := show Shut _ from hcl
    clear hcl hL
    go_wp2_with fail
    go_ret
    exact ⟨by rw [← hcs.out]; rfl, hbw.out⟩
   | cons _ n i0 i1 ine hdec hnext =>
    have ci := hc'.out i i0 i1
    have hne : (i == b) = false := by simpa using ine
    rw [clear_step] at hcl
    have hds := show Shut _ from And.intro hdec hnext
    clear hL hdec hnext ine
    by_cases hz : pcAt p i = 0
    ·rw [decide_eq_true hz] at hcl
     rw [hz] at ci
     have hcs := show Shut _ from hcl
     clear hcl hz
     go_wp2_with fail
     go_roundw
     case rel => exact ⟨_, n, rfl, trivial, hds.out.2, hcs.out⟩
     case measure => exact hds.out.1
    ·rw [decide_eq_false hz] at hcl
     have hz2 : (pcAt p i == 0) = false := by simpa using hz
     have hcs := show Shut _ from hcl
     clear hcl hz
     generalize pcAt p i = y at *
     go_wp2_with fail
     go_ret
     exact ⟨by rw [← hcs.out]; rfl, hbw.out⟩
theorem hj_5 (p : List Int) (hp : Pos p) (a b : Int) (a0 : 0 ≤ a) (a1 : a ≤ 63) (b0 : 0 ≤ b) (b1 : b ≤ 63) (w : World) (hab : a ≠ b) (hx0 : pcAt p a ≠ 0) (k1 : kindOf (pcAt p a) ≠ 1) (k5 : kindOf (pcAt p a) ≠ 5) (k6 : kindOf (pcAt p a) ≠ 6) (hT : b % 8 - a % 8 ≠ 0 ∧ b / 8 - a / 8 ≠ 0 ∧ b % 8 - a % 8 ≠ b / 8 - a / 8 ∧ b % 8 - a % 8 ≠ -(b / 8 - a / 8)) :
  Calls Tryz.prog 95 #[.agg (ints p), .int .i64 a, .int .i64 b] w fun e w' => e = .returned (.bool (hitsB p a b)) ∧ Below w.heap.size w w' := by
 have hrow := heap_alloc_new w (.cells (ints p) 24)
 have hBW : Below w.heap.size w (w.alloc (.cells (ints p) 24)) := (Below.refl _ _).alloc (Nat.le_refl _) _
 have hcell : ∀ i : Int, 0 ≤ i → i ≤ 63 → (w.alloc (.cells (ints p) 24)).cell? ⟨w.heap.size, i.toNat, none⟩ = some (.int .i64 (pcAt p i)) := fun i h0 h1 => row_cell hrow i.toNat (by rw [hp.len]; omega)
 clear hrow
 have ca := hcell a a0 a1
 have xa0 : 0 ≤ pcAt p a := hp.lo _ (by omega)
 have xa1 : pcAt p a ≤ 12 := hp.hi _ (by omega)
 have hlines := lines_all a.toNat (by omega) b.toNat (by omega)
 rw [Int.toNat_of_nonneg a0, Int.toNat_of_nonneg b0] at hlines
 have hab2 : (a == b) = false := by simpa using hab
 have hx2 : (pcAt p a == 0) = false := by simpa using hx0
 have hk1 : (kindOf (pcAt p a) == 1) = false := by simpa using k1
 have hk5 : (kindOf (pcAt p a) == 5) = false := by simpa using k5
 have hk6 : (kindOf (pcAt p a) == 6) = false := by simpa using k6
 have hH : hitsB p a b = if (inLine a b && decide (kindOf (pcAt p a) ≠ 4)) || (inSlant a b && decide (kindOf (pcAt p a) ≠ 3)) then clearRun p (wayOf a b) (lineN a b) (a + wayOf a b) else false := by
  rw [hitsB, if_neg (by simp [hab, hx0]), if_neg k1, if_neg k5, if_neg k6]
 have t0 : (b % 8 - a % 8 == 0) = false := by first | (simp; omega) | (simp; done)
 have t1 : (b / 8 - a / 8 == 0) = false := by first | (simp; omega) | (simp; done)
 have t2 : (b % 8 - a % 8 == b / 8 - a / 8) = false := by first | (simp; omega) | (simp; done)
 have t3 : (b % 8 - a % 8 == -(b / 8 - a / 8)) = false := by first | (simp; omega) | (simp; done)
 have hin : inLine a b = false := by unfold inLine; simp; omega
 have hsl : inSlant a b = false := by unfold inSlant; simp; omega
 rw [hin, hsl] at hH
 obtain ⟨s10, s11⟩ := sgn_range (b % 8 - a % 8)
 obtain ⟨s20, s21⟩ := sgn_range (b / 8 - a / 8)
 have hc' := show Shut _ from hcell
 have hbw := show Shut _ from hBW
 have hw : wayOf a b = sgn (b % 8 - a % 8) + 8 * sgn (b / 8 - a / 8) := rfl
 have hnn : a.toNat ≠ b.toNat := fun h => hab (by omega)
 have hHs := show Shut _ from hH
 clear hH hw hnn hin hsl hlines hcell hBW hT hab hx0 k1 k5 k6
 generalize hxe : pcAt p a = x at *
 by_cases k3 : kindOf x = 3
 ·rw [k3] at hHs
  go_enter Tryz.func95, Tryz.ntmps95
  go_wp2_with (first
    | (go_at_call 88; refine (po_file _ _ (by omega) (by omega)).mono ?_; rintro e1 w1 ⟨rfl, rfl⟩)
    | (go_at_call 49; refine (po_rank _ _ (by omega) (by omega)).mono ?_; rintro e1 w1 ⟨rfl, rfl⟩)
    | (go_at_call 47; refine (po_kindOf _ _ (by omega)).mono ?_; rintro e1 w1 ⟨rfl, rfl⟩)
    | (go_at_call 116; refine (hi_sign _ _ (by omega) (by omega)).mono ?_; rintro e1 w1 ⟨rfl, rfl⟩))
  go_ret
  exact ⟨by rw [hHs.out]; rfl, hbw.out⟩
 by_cases k4 : kindOf x = 4
 ·rw [k4] at hHs
  go_enter Tryz.func95, Tryz.ntmps95
  go_wp2_with (first
    | (go_at_call 88; refine (po_file _ _ (by omega) (by omega)).mono ?_; rintro e1 w1 ⟨rfl, rfl⟩)
    | (go_at_call 49; refine (po_rank _ _ (by omega) (by omega)).mono ?_; rintro e1 w1 ⟨rfl, rfl⟩)
    | (go_at_call 47; refine (po_kindOf _ _ (by omega)).mono ?_; rintro e1 w1 ⟨rfl, rfl⟩)
    | (go_at_call 116; refine (hi_sign _ _ (by omega) (by omega)).mono ?_; rintro e1 w1 ⟨rfl, rfl⟩))
  go_ret
  exact ⟨by rw [hHs.out]; rfl, hbw.out⟩
 ·have hk3 : (kindOf x == 3) = false := by simpa using k3
  have hk4 : (kindOf x == 4) = false := by simpa using k4
  rw [show decide (kindOf x ≠ 3) = true from by simpa using k3, show decide (kindOf x ≠ 4) = true from by simpa using k4] at hHs
  clear k3 k4
  go_enter Tryz.func95, Tryz.ntmps95
  go_wp2_with (first
    | (go_at_call 88; refine (po_file _ _ (by omega) (by omega)).mono ?_; rintro e1 w1 ⟨rfl, rfl⟩)
    | (go_at_call 49; refine (po_rank _ _ (by omega) (by omega)).mono ?_; rintro e1 w1 ⟨rfl, rfl⟩)
    | (go_at_call 47; refine (po_kindOf _ _ (by omega)).mono ?_; rintro e1 w1 ⟨rfl, rfl⟩)
    | (go_at_call 116; refine (hi_sign _ _ (by omega) (by omega)).mono ?_; rintro e1 w1 ⟨rfl, rfl⟩))
  go_ret
  exact ⟨by rw [hHs.out]; rfl, hbw.out⟩
theorem hi_hits (p : List Int) (hp : Pos p) (a b : Int) (a0 : 0 ≤ a) (a1 : a ≤ 63) (b0 : 0 ≤ b) (b1 : b ≤ 63) (w : World) :
  Calls Tryz.prog 95 #[.agg (ints p), .int .i64 a, .int .i64 b] w fun e w' => e = .returned (.bool (hitsB p a b)) ∧ Below w.heap.size w w' := by
 by_cases hk : a = b ∨ pcAt p a = 0 ∨ kindOf (pcAt p a) = 1 ∨ kindOf (pcAt p a) = 5 ∨ kindOf (pcAt p a) = 6
 ·exact hi_small p hp a b a0 a1 b0 b1 w hk
 have hab : a ≠ b := fun h => hk (Or.inl h)
 have hx0 : pcAt p a ≠ 0 := fun h => hk (Or.inr (Or.inl h))
 have k1 : kindOf (pcAt p a) ≠ 1 := fun h => hk (Or.inr (Or.inr (Or.inl h)))
 have k5 : kindOf (pcAt p a) ≠ 5 := fun h => hk (Or.inr (Or.inr (Or.inr (Or.inl h))))
 have k6 : kindOf (pcAt p a) ≠ 6 := fun h => hk (Or.inr (Or.inr (Or.inr (Or.inr h))))
 by_cases t1 : b % 8 - a % 8 = 0
 ·exact hj_1 p hp a b a0 a1 b0 b1 w hab hx0 k1 k5 k6 t1
 by_cases t2 : b / 8 - a / 8 = 0
 ·exact hj_2 p hp a b a0 a1 b0 b1 w hab hx0 k1 k5 k6 t2
 by_cases t3 : b % 8 - a % 8 = b / 8 - a / 8
 ·exact hj_3 p hp a b a0 a1 b0 b1 w hab hx0 k1 k5 k6 t3
 by_cases t4 : b % 8 - a % 8 = -(b / 8 - a / 8)
 ·exact hj_4 p hp a b a0 a1 b0 b1 w hab hx0 k1 k5 k6 t4
 exact hj_5 p hp a b a0 a1 b0 b1 w hab hx0 k1 k5 k6 ⟨t1, t2, t3, t4⟩
end Go.Proofs.YtnjdgooljnbebaaGreatDoor
namespace Go.Proofs.YtnjdgooljnbebaaGreatDoor
open Go Go.RowKit
set_option maxHeartbeats 4000000
set_option linter.unusedSimpArgs false
set_option linter.unusedVariables false
set_option maxRecDepth 100000

def atkOne (p : List Int) (s c : Int) (i : Nat) : Bool := decide (pcAt p i ≠ 0) && (decide (sideOf (pcAt p i) = c) && hitsB p i s)
/-- Whether a piece of the side c attacks the square s. -/
def attackedB (p : List Int) (s c : Int) : Bool := (List.range 64).any (atkOne p s c)
theorem att_yes (p : List Int) (s c : Int) (k : Nat) (hk : k < 64) (h : atkOne p s c k = true) : attackedB p s c = true :=
 List.any_eq_true.2 ⟨k, List.mem_range.2 hk, h⟩
theorem att_no (p : List Int) (s c : Int) (h : ∀ k, k < 64 → atkOne p s c k = false) : attackedB p s c = false := by
 rw [attackedB, List.any_eq_false]
 intro k hk
 rw [h k (List.mem_range.1 hk)]
 decide
theorem at_attacked (p : List Int) (hp : Pos p) (s c : Int) (s0 : 0 ≤ s) (s1 : s ≤ 63) (w : World) :
  Calls Tryz.prog 53 #[.agg (ints p), .int .i64 s, .int .i64 c] w fun e w' => e = .returned (.bool (attackedB p s c)) ∧ Below w.heap.size w w' := by
 go_enter Tryz.func53, Tryz.ntmps53
 go_wp2_with fail
 have hrow := heap_alloc_new w (.cells (ints p) 24)
 have hBW : Below w.heap.size w (w.alloc (.cells (ints p) 24)) := (Below.refl _ _).alloc (Nat.le_refl _) _
 generalize w.alloc (.cells (ints p) 24) = W at *
 go_loopw [7] (fun i wr => ∃ k : Nat, k ≤ 64 ∧ i = .int .i64 (k : Int) ∧ wr.heap[w.heap.size]? = some (.cells (ints p) 24 (0, 0)) ∧ Below w.heap.size w wr ∧ ∀ j, j < k → atkOne p s c j = false) (fun i _ => (64 - intOf i).toNat)
 case atStart => exact ⟨0, by omega, rfl, hrow, hBW, fun j hj => by omega⟩
 case round =>
  clear hrow hBW
  obtain ⟨k, hk, rfl, hr, hB, hall⟩ := hrel
  by_cases hlt : k < 64
  ·have hc := row_cell hr k (by rw [hp.len]; omega)
   have hone : atkOne p s c k = (decide (p.getD k 0 ≠ 0) && (decide (sideOf (p.getD k 0) = c) && hitsB p k s)) := rfl
   have hnext : atkOne p s c k = false → ∀ j, j < k + 1 → atkOne p s c j = false := fun h j hj => by
    by_cases e : j = k
    ·subst e; exact h
    ·exact hall j (by omega)
   have hlo := hp.lo k hlt
   have hhi := hp.hi k hlt
   have hhid := show Shut _ from And.intro hone (And.intro hnext hB)
   clear hone hnext hB hall
   generalize hx : p.getD k 0 = x at *
   have hxs := show Shut _ from hx
   clear hx
   by_cases h0 : x = 0
   ·subst h0
    go_wp2_with fail
    go_roundw
    case rel => exact ⟨k + 1, by omega, by go_num, hr, hhid.out.2.2, hhid.out.2.1 (hhid.out.1.trans (by simp))⟩
    case measure => simp [intOf]; omega
   have hx0 : (x == 0) = false := by simpa using h0
   have hx1 : (x != 0) = true := by simp [h0]
   have hne := show Shut _ from h0
   clear h0
   by_cases hs : sideOf x = c
   ·subst hs
    have hss : (sideOf x == sideOf x) = true := by simp
    go_wp2_with (first
     | (go_at_call 90; refine (hi_side _ _ (by omega)).mono ?_; rintro e1 w1 ⟨rfl, rfl⟩)
     | ((with_reducible refine at_load_rowG hr Tryz.underlying24 rfl ?_ ?_ ?_ ?_); (rw [ints_size, hp.len]; kernel_rfl); rfl; rfl))
    refine (hi_hits p hp k s (by omega) (by omega) s0 s1 _).mono ?_
    rintro e1 w1 ⟨rfl, hb1⟩
    have hr1 := (hb1.block _ (Array.getElem?_eq_some_iff.1 hr).1).trans hr
    have hB1 := hhid.out.2.2.trans (hb1.mono hhid.out.2.2.size)
    clear hr hb1
    cases hh : hitsB p k s with
    | true =>
     go_wp2_with fail
     go_ret
     have hone : atkOne p s (sideOf x) k = true := hhid.out.1.trans (by have h1 : ¬ x = 0 := hne.out; rw [hh]; simp [h1])
     exact ⟨by rw [att_yes p s _ k hlt hone]; rfl, hB1⟩
    | false =>
     have hone : atkOne p s (sideOf x) k = false := hhid.out.1.trans (by rw [hh]; simp)
     have hall := show Shut _ from hhid.out.2.1 hone
     clear hone
     go_wp2_with fail
     go_roundw
     case rel => exact ⟨k + 1, by omega, by go_num, hr1, hB1, hall.out⟩
     case measure => simp [intOf]; omega
   ·have hss : (sideOf x == c) = false := by simpa using hs
    have hns := show Shut _ from hs
    clear hs
    go_wp2_with (first
     | (go_at_call 90; refine (hi_side _ _ (by omega)).mono ?_; rintro e1 w1 ⟨rfl, rfl⟩))
    go_roundw
    case rel => exact ⟨k + 1, by omega, by go_num, hr, hhid.out.2.2, hhid.out.2.1 (hhid.out.1.trans (by have h1 : ¬ sideOf x = c := hns.out; simp [h1]))⟩
    case measure => simp [intOf]; omega
  ·obtain rfl : k = 64 := by omega
   have hn := show Shut _ from att_no p s c hall
   clear hall
   go_wp2_with fail
   go_ret
   exact ⟨by rw [hn.out]; rfl, hB⟩
def kingAt (p : List Int) (c : Int) : Int := firstK p (1 + 6 * c) 0 64
def checkedB (p : List Int) (c : Int) : Bool := decide (0 ≤ kingAt p c) && attackedB p (kingAt p c) (1 - c)
theorem firstK_range (p : List Int) (k : Int) : ∀ n i, -1 ≤ firstK p k i n ∧ (firstK p k i n < i + n)
 | 0, i => by simp only [firstK]; omega
 | n + 1, i => by
  have := firstK_range p k n (i + 1)
  rw [firstK]
  split <;> omega
theorem kingAt_range (p : List Int) (c : Int) : -1 ≤ kingAt p c ∧ kingAt p c ≤ 63 := by
 have := firstK_range p (1 + 6 * c) 64 0
 unfold kingAt
 omega
end Go.Proofs.YtnjdgooljnbebaaGreatDoor
namespace Go.Proofs.YtnjdgooljnbebaaGreatDoor
open Go Go.RowKit
set_option maxHeartbeats 4000000
set_option linter.unusedSimpArgs false
set_option linter.unusedVariables false
set_option maxRecDepth 100000

def oneSq (t : Int) : List Int := if 0 ≤ t then [t] else []
/-- The squares that a pawn attacks: those of d, d + 2 .. up to 1. -/
def hitTo (s c : Int) : Nat → List Int
 | 0 => []
 | n + 1 => hitTo s c n ++ oneSq (atSq (s % 8 + (2 * (n : Int) - 1)) (s / 8 + upOf c))
def hitL (s c : Int) : List Int := hitTo s c 2
theorem oneSq_le (t : Int) : (oneSq t).length ≤ 1 := by unfold oneSq; split <;> simp
theorem hitTo_le (s c : Int) : ∀ n, (hitTo s c n).length ≤ n
 | 0 => by simp [hitTo]
 | n + 1 => by
  have h1 := hitTo_le s c n
  have h2 := oneSq_le (atSq (s % 8 + (2 * (n : Int) - 1)) (s / 8 + upOf c))
  rw [hitTo, List.length_append]
  omega
theorem ht_hits (s c : Int) (s0 : 0 ≤ s) (s1 : s ≤ 63) (c0 : 0 ≤ c) (c1 : c ≤ 1) (w : World) :
  Calls Tryz.prog 113 #[.int .i64 s, .int .i64 c] w fun e w' => ∃ v, e = .returned v ∧ ownInts w' w.heap.size v (hitL s c) ∧ Below w.heap.size w w' := by
 obtain ⟨i0, hi, hz0, hz1, hz2⟩ := info_parts po_info1
 go_enter Tryz.func113, Tryz.ntmps113
 go_wp2_with fail
 go_loopw [5, 6] (fun l d wr => ∃ n : Nat, n ≤ 2 ∧ d = .int .i64 (2 * (n : Int) - 1) ∧ ownInts wr w.heap.size l (hitTo s c n) ∧ Below w.heap.size w wr) (fun _ d _ => (3 - intOf d).toNat)
 case atStart => exact ⟨0, by omega, rfl, World.ownsRow_nil _ _ _ _, Below.refl _ _⟩
 case round =>
  obtain ⟨n, hn, rfl, hown, hB⟩ := hrel
  by_cases hlt : n < 2
  ·have hu : -1 ≤ upOf c ∧ upOf c ≤ 1 := by unfold upOf; omega
   have hsz := hB.size
   have hle := hitTo_le s c n
   have hrg := atSq_range (s % 8 + (2 * (n : Int) - 1)) (s / 8 + upOf c)
   have hst : hitTo s c (n + 1) = hitTo s c n ++ oneSq (atSq (s % 8 + (2 * (n : Int) - 1)) (s / 8 + upOf c)) := rfl
   have hstS := show Shut _ from hst
   clear hst
   go_wp2_with (first
    | (go_at_call 88; refine (po_file _ _ (by omega) (by omega)).mono ?_; rintro e1 w1 ⟨rfl, rfl⟩)
    | (go_at_call 49; refine (po_rank _ _ (by omega) (by omega)).mono ?_; rintro e1 w1 ⟨rfl, rfl⟩)
    | (go_at_call 112; refine (hi_up _ _ (by omega) (by omega)).mono ?_; rintro e1 w1 ⟨rfl, rfl⟩))
   refine (po_at _ _ _ (by omega) (by omega) (by omega) (by omega)).mono ?_
   rintro e1 w1 ⟨rfl, rfl⟩
   generalize atSq (s % 8 + (2 * (n : Int) - 1)) (s / 8 + upOf c) = t at *
   by_cases ht : 0 ≤ t
   ·go_wp2_with (with_reducible refine at_append1 Tryz.underlying37 hi hz0 hz1 hz2 rfl (by decide) rfl w.heap.size _ _ _ hown ?_ hsz ?_ ?_ ?_)
    ·omega
    ·rfl
    ·rfl
    intro v' w' hown' hbel'
    go_wp2_with fail
    go_roundw
    case rel => exact ⟨n + 1, by omega, by go_num, by rw [hstS.out, show oneSq t = [t] from if_pos ht]; unfold ownInts; rw [List.length_append, List.map_append]; exact hown', hB.trans hbel'⟩
    case measure => simp [intOf]; omega
   ·go_wp2_with fail
    go_roundw
    case rel => exact ⟨n + 1, by omega, by go_num, by rw [hstS.out, show oneSq t = [] from if_neg (by omega), List.append_nil]; exact hown, hB⟩
    case measure => simp [intOf]; omega
  ·obtain rfl : n = 2 := by omega
   go_wp2_with fail
   go_ret
   exact ⟨_, rfl, hown, hB⟩
end Go.Proofs.YtnjdgooljnbebaaGreatDoor
namespace Go.Proofs.YtnjdgooljnbebaaGreatDoor
open Go Go.RowKit
set_option linter.unusedVariables false

theorem news_cell (w : World) (us : List Value) (t : TypeId) (b : Nat) (hb : b = w.heap.size) : ∀ j v, us[j]? = some v → (w.alloc (.cells us.toArray t)).cell? ((⟨b, 0, none⟩ : Addr).add j) = some v := by
 subst hb
 intro j v h
 have e : (⟨w.heap.size, 0, none⟩ : Addr).add j = ⟨w.heap.size, j, none⟩ := by unfold Addr.add; split <;> simp_all
 rw [e, cell_of_row _ _ _ _ _ _ (heap_alloc_new w _)]
 simpa using h
theorem at_appendk {P : Program} {ops : Array Oper} {rest : List Oper} {a : Act} {w : World} {Q : Exit → Act → World → Prop} {d : Option Tmp} {x y : Operand} {ty : TypeId} {ps : String} {af : Array Edge} {t e : TypeId}
  (us : List Value) {esz : Nat} (hes : us.length = esz) {i : TypeInfo} {z : Value} {bytes : Nat} (ht : P.underlying t = some (.slice e)) (hi : P.info? e = some i) (hz : i.zero = some z) (hsize : i.size = esz) (hby : i.bytes = bytes) (hzs : z.cells.size = esz) (h0 : 0 < esz) (hb : bytes ≤ 100) (hu : ∀ u ∈ us, u.oneCell' = true)
  (base : Nat) (v : Value) (n : Nat) (xs : List Value) (hO : w.ownsRow base e esz v n xs) (hlen : n ≤ 1000000) (hbase : base ≤ w.heap.size)
  (hx : a.eval x = v) (hy : a.eval y = .slice (some ⟨w.heap.size, 0, none⟩) 1 1)
  (h : ∀ v' w', w'.ownsRow base e esz v' (n + 1) (xs ++ us) → Below base w w' → (∀ g, g < w.heap.size → v.ownBlock ≠ some g → w'.heap[g]? = w.heap[g]?) → (∀ g, g < w.heap.size → v.ownBlock ≠ some g → v'.ownBlock ≠ some g) → w.heap.size ≤ w'.heap.size → wpList P ops Q rest (a.put d v') w') :
  wpList P ops Q ({ dst := d, op := .call { callee := .builtin .append, args := #[x, y], argTypes := #[t, t] }, type := ty, pos := ps, after := af, guard := none } :: rest) a (w.alloc (.cells us.toArray e)) := by
 refine wpList_append_lies _ rfl x y t rfl base e i z esz bytes ht hi hz hsize hby hzs h0 v n xs hx (hO.alloc _)
  ⟨w.heap.size, 0, none⟩ 1 1 us hy (by simpa using hes) (news_cell w us e _ rfl) hu (by decide) ?_ ?_ ?_ (w.heap.size + 1) (by simp) ?_
 ·unfold maxLen; omega
 ·have : (n + 1) * bytes ≤ 1000001 * 100 := Nat.mul_le_mul (by omega) hb
  omega
 ·simp; omega
 ·intro g cap w' hown hgrow hg hlt
  have hsz := hgrow.size
  rw [World.size_alloc] at hsz
  refine h _ _ hown (((Below.refl _ _).alloc hbase _).grown hgrow (by simp; omega) (own_ge hO)) (fun k hk hne => ?_) (fun k hk hne he => ?_) (by omega)
  ·have e1 : w'.heap[k]? = (w.alloc (.cells us.toArray e)).heap[k]? := hgrow.block k (by simp; omega) (fun e2 => hne e2.symm)
   rw [e1, heap_alloc_old _ _ hk]
  ·have e3 : g = k := by simpa [Value.ownBlock] using he
   subst e3
   rcases hg with hg | hg
   ·exact hne hg
   ·omega
/-- A list that was made is appended as a whole to a list that the call owns. -/
theorem at_append_all {P : Program} {ops : Array Oper} {rest : List Oper} {a : Act} {w : World} {Q : Exit → Act → World → Prop} {d : Option Tmp} {x y : Operand} {ty : TypeId} {ps : String} {af : Array Edge} {t e : TypeId}
  {esz : Nat} {i : TypeInfo} {z : Value} {bytes : Nat} (ht : P.underlying t = some (.slice e)) (hi : P.info? e = some i) (hz : i.zero = some z) (hsize : i.size = esz) (hby : i.bytes = bytes) (hzs : z.cells.size = esz) (h0 : 0 < esz) (hb : bytes ≤ 100)
  (base : Nat) (v : Value) (n : Nat) (xs : List Value) (hO : w.ownsRow base e esz v n xs) (base' : Nat) (u : Value) (m : Nat) (ys : List Value) (hS : w.ownsRow base' e esz u m ys) (hone : ∀ q ∈ ys, q.oneCell' = true) (hlen : n + m ≤ 1000000) (hbase : base ≤ w.heap.size)
  (hx : a.eval x = v) (hy : a.eval y = u)
  (h : ∀ v' w', w'.ownsRow base e esz v' (n + m) (xs ++ ys) → Below base w w' → w.heap.size ≤ w'.heap.size → wpList P ops Q rest (a.put d v') w') :
  wpList P ops Q ({ dst := d, op := .call { callee := .builtin .append, args := #[x, y], argTypes := #[t, t] }, type := ty, pos := ps, after := af, guard := none } :: rest) a w := by
 rcases hS.2 with ⟨rfl, rfl⟩ | ⟨g, cap, cur, rfl, _⟩
 ·have hx0 : ys = [] := List.eq_nil_of_length_eq_zero (by simpa using hS.1)
  subst hx0
  refine wpList_append_own_none rfl x y t rfl base e i esz ht hi v n xs hx hO hy ?_
  exact h v w (by simpa using hO) (Below.refl _ _) (Nat.le_refl _)
 ·refine wpList_append_own _ rfl x y t rfl base e i z esz bytes ht hi hz hsize hby hzs h0 v n xs hx hO ⟨g, 0, none⟩ m cap ys hy hS.1 (hS.cells rfl) hone (by unfold maxLen; omega) ?_ hbase ?_
  ·have : (n + m) * bytes ≤ 1000000 * 100 := Nat.mul_le_mul (by omega) hb
   omega
  ·intro v' w' h1 h2 _
   exact h v' w' h1 ((Below.refl base w).grown h2 hbase (own_ge hO)) h2.size
end Go.Proofs.YtnjdgooljnbebaaGreatDoor
namespace Go.Proofs.YtnjdgooljnbebaaGreatDoor
open Go Go.RowKit
set_option maxHeartbeats 8000000
set_option linter.unusedSimpArgs false
set_option linter.unusedVariables false
set_option maxRecDepth 100000

theorem ints_slice {w : World} {base : Nat} {v : Value} {l : List Int} (h : ownInts w base v l) :
  ∃ a c, v = .slice a l.length c ∧ ∀ i, i < l.length → ∃ g, a = some ⟨g, 0, none⟩ ∧ base ≤ g ∧ g < w.heap.size ∧ w.cell? ⟨g, i, none⟩ = some (.int .i64 (l.getD i 0)) := by
 have hf := h
 obtain ⟨hn, ⟨rfl, h0⟩ | ⟨g, cap, cur, rfl, hge, hg, _⟩⟩ := h
 ·exact ⟨none, 0, by rw [h0], fun i hi => by omega⟩
 ·refine ⟨_, _, rfl, fun i hi => ⟨g, rfl, hge, (Array.getElem?_eq_some_iff.1 hg).1, ?_⟩⟩
  have hc := hf.cellAt i (by omega)
  exact hc.trans (by simp [hi])
/-- A list that the call made is as it was behind a call that left it alone. -/
theorem ownInts.below {w w' : World} {base : Nat} {v : Value} {l : List Int} (h : ownInts w base v l) (hb : Below w.heap.size w w') : ownInts w' base v l := by
 obtain ⟨h1, h2 | ⟨g, cap, cur, a1, b, c, d⟩⟩ := h
 ·exact ⟨h1, Or.inl h2⟩
 ·exact ⟨h1, Or.inr ⟨g, cap, cur, a1, b, (hb.block g (Array.getElem?_eq_some_iff.1 c).1).trans c, d⟩⟩
def takeOk (p : List Int) (c t : Int) : Bool := (decide (pcAt p t ≠ 0) && decide (sideOf (pcAt p t) ≠ c)) || (decide (pcAt p t = 0) && (decide (t = p.getD 66 0) && decide (t / 8 = 5 - 3 * c)))
def fwdL (p : List Int) (s c : Int) : List Int :=
 if 0 ≤ atSq (s % 8) (s / 8 + upOf c) ∧ pcAt p (atSq (s % 8) (s / 8 + upOf c)) = 0 then
  (if s / 8 = 1 + 5 * c ∧ pcAt p (atSq (s % 8) (s / 8 + 2 * upOf c)) = 0 then [atSq (s % 8) (s / 8 + upOf c), atSq (s % 8) (s / 8 + 2 * upOf c)] else [atSq (s % 8) (s / 8 + upOf c)])
 else []
def stepL (p : List Int) (s : Int) : List Int := fwdL p s (sideOf (pcAt p s)) ++ (hitL s (sideOf (pcAt p s))).filter (takeOk p (sideOf (pcAt p s)))
theorem fwd_le (p : List Int) (s c : Int) : (fwdL p s c).length ≤ 2 := by
 unfold fwdL
 split
 ·split <;> simp
 ·simp
theorem hitL_range (s c : Int) : ∀ t ∈ hitL s c, 0 ≤ t ∧ t ≤ 63 := by
 intro t ht
 have h1 : ∀ x, t ∈ oneSq x → t = x ∧ 0 ≤ x := fun x h => by
  unfold oneSq at h
  split at h
  ·simp at h; exact ⟨h, by omega⟩
  ·cases h
 simp only [hitL, hitTo, List.nil_append, List.mem_append] at ht
 rcases ht with h | h
 ·obtain ⟨rfl, h0⟩ := h1 _ h
  exact ⟨h0, (atSq_range _ _).2⟩
 ·obtain ⟨rfl, h0⟩ := h1 _ h
  exact ⟨h0, (atSq_range _ _).2⟩
theorem take_filter (f : Int → Bool) (l : List Int) (k : Nat) (h : k < l.length) : (l.take (k + 1)).filter f = (l.take k).filter f ++ (if f (l.getD k 0) then [l.getD k 0] else []) := by
 rw [List.take_succ_eq_append_getElem h, List.filter_append]
 have e : l.getD k 0 = l[k] := by simp [h]
 rw [e]
 by_cases c : f l[k] <;> simp [c]
theorem st_steps (p : List Int) (hp : Pos p) (s : Int) (s0 : 0 ≤ s) (s1 : s ≤ 63) (hep : -1 ≤ p.getD 66 0 ∧ p.getD 66 0 ≤ 63) (w : World) :
  Calls Tryz.prog 91 #[.agg (ints p), .int .i64 s] w fun e w' => ∃ v, e = .returned v ∧ ownInts w' w.heap.size v (stepL p s) ∧ Below w.heap.size w w' := by
 obtain ⟨i0, hi, hz0, hz1, hz2⟩ := info_parts po_info1
 have hrow := heap_alloc_new w (.cells (ints p) 24)
 have hBW : Below w.heap.size w (w.alloc (.cells (ints p) 24)) := (Below.refl _ _).alloc (Nat.le_refl _) _
 have hsz0 : (w.alloc (.cells (ints p) 24)).heap.size ≥ w.heap.size + 1 := by simp
 have hcell : ∀ i : Int, 0 ≤ i → i ≤ 63 → (w.alloc (.cells (ints p) 24)).cell? ⟨w.heap.size, i.toNat, none⟩ = some (.int .i64 (pcAt p i)) := fun i h0 h1 => row_cell hrow i.toNat (by rw [hp.len]; omega)
 have hpr : ∀ i : Int, 0 ≤ i → i ≤ 63 → 0 ≤ pcAt p i ∧ pcAt p i ≤ 12 := fun i h0 h1 => ⟨hp.lo _ (by omega), hp.hi _ (by omega)⟩
 have ca := hcell s s0 s1
 obtain ⟨x0, x1⟩ := hpr s s0 s1
 have hc01 : 0 ≤ sideOf (pcAt p s) ∧ sideOf (pcAt p s) ≤ 1 := by unfold sideOf; split <;> omega
 have hT : stepL p s = fwdL p s (sideOf (pcAt p s)) ++ (hitL s (sideOf (pcAt p s))).filter (takeOk p (sideOf (pcAt p s))) := rfl
 generalize stepL p s = total at *
 go_enter Tryz.func91, Tryz.ntmps91
 go_wp2_with fail
 have hcs := show Shut _ from And.intro hcell hpr
 have hTs := show Shut _ from hT
 clear hcell hpr hT
 refine (hi_side _ _ (by omega)).mono ?_
 rintro e1 w1 ⟨rfl, rfl⟩
 generalize sideOf (pcAt p s) = c at *
 obtain ⟨c0, c1⟩ := hc01
 have hu : -1 ≤ upOf c ∧ upOf c ≤ 1 := by unfold upOf; omega
 obtain ⟨u0, u1⟩ := hu
 have ho1 := atSq_range (s % 8) (s / 8 + upOf c)
 have ho2 := atSq_range (s % 8) (s / 8 + 2 * upOf c)
 have hat : s / 8 = 1 + 5 * c → 0 ≤ atSq (s % 8) (s / 8 + 2 * upOf c) := fun h => by
  unfold atSq upOf
  rw [if_neg (by omega)]
  omega
 have hfw : fwdL p s c = if 0 ≤ atSq (s % 8) (s / 8 + upOf c) ∧ pcAt p (atSq (s % 8) (s / 8 + upOf c)) = 0 then
  (if s / 8 = 1 + 5 * c ∧ pcAt p (atSq (s % 8) (s / 8 + 2 * upOf c)) = 0 then [atSq (s % 8) (s / 8 + upOf c), atSq (s % 8) (s / 8 + 2 * upOf c)] else [atSq (s % 8) (s / 8 + upOf c)])
 else [] := rfl
 have hat1 : ∀ W, Calls Tryz.prog 48 #[.int .i64 (s % 8), .int .i64 (s / 8 + upOf c)] W fun e w' => e = .returned (.int .i64 (atSq (s % 8) (s / 8 + upOf c))) ∧ W = w' := fun W => po_at _ _ W (by omega) (by omega) (by omega) (by omega)
 have hat2 : ∀ W, Calls Tryz.prog 48 #[.int .i64 (s % 8), .int .i64 (s / 8 + 2 * upOf c)] W fun e w' => e = .returned (.int .i64 (atSq (s % 8) (s / 8 + 2 * upOf c))) ∧ W = w' := fun W => po_at _ _ W (by omega) (by omega) (by omega) (by omega)
 generalize hfl : fwdL p s c = fw at *
 have hflS := show Shut _ from hfl
 clear hfl
 generalize atSq (s % 8) (s / 8 + upOf c) = o at *
 generalize atSq (s % 8) (s / 8 + 2 * upOf c) = t at *
 have hfs := show Shut _ from And.intro hfw (And.intro hat (And.intro hat1 hat2))
 clear hfw hat hat1 hat2
 generalize w.alloc (.cells (ints p) 24) = W0 at *
 by_cases hA : 0 ≤ o ∧ pcAt p o = 0
 ·obtain ⟨ho, hz⟩ := hA
  have co := hcs.out.1 o ho (by omega)
  rw [hz] at co
  have hzs := show Shut _ from hz
  clear hz
  have hs1 : w.heap.size + 1 ≤ W0.heap.size := by omega
  have hown0 : W0.ownsRow (w.heap.size + 1) 3 1 (Value.slice none 0 0) 0 [] := World.ownsRow_nil _ _ _ _
  go_wp2_with (first
   | (go_at_call 48; refine (hfs.out.2.2.1 _).mono ?_; rintro e1 w1 ⟨rfl, rfl⟩)
   | (with_reducible refine at_appendk (esz := 1) [.int .i64 o] rfl Tryz.underlying37 hi hz0 hz1 hz2 rfl (by decide) (by decide) ?_ (w.heap.size + 1) _ _ _ hown0 ?_ hs1 ?_ ?_ ?_)
   | (go_at_call 88; refine (po_file _ _ (by omega) (by omega)).mono ?_; rintro e1 w1 ⟨rfl, rfl⟩)
   | (go_at_call 49; refine (po_rank _ _ (by omega) (by omega)).mono ?_; rintro e1 w1 ⟨rfl, rfl⟩)
   | (go_at_call 112; refine (hi_up _ _ (by omega) (by omega)).mono ?_; rintro e1 w1 ⟨rfl, rfl⟩))
  ·intro u hu; simp at hu; subst hu; rfl
  ·simp
  ·rfl
  ·rfl
  intro v1 w1 hown1 hbel1 hkeep1 hap1 hsz1
  have hrow1 := (hbel1.block w.heap.size (by omega)).trans hrow
  have hB1 := hBW.trans (hbel1.mono (by omega))
  have hown1' : ownInts w1 (w.heap.size + 1) v1 [o] := hown1
  clear hbel1 hkeep1 hap1 hown1 hown0 hrow hBW ca co
  by_cases hR : s / 8 = 1 + 5 * c
  ·have ht0 := hfs.out.2.1 hR
   have ct : w1.cell? ⟨w.heap.size, t.toNat, none⟩ = some (.int .i64 (pcAt p t)) := row_cell hrow1 t.toNat (by rw [hp.len]; omega)
   have hR2 : (s / 8 == 1 + 5 * c) = true := by simpa using hR
   by_cases hz2 : pcAt p t = 0
   ·have hfeq : fw = [o, t] := by have h := hfs.out.1; rw [if_pos ⟨ho, hzs.out⟩, if_pos ⟨hR, hz2⟩] at h; exact h
    rw [hz2] at ct
    have hRs := show Shut _ from And.intro hR (And.intro hz2 hfeq)
    have hs2 : w.heap.size + 1 ≤ w1.heap.size := by omega
    clear hR hz2 hfeq
    go_wp2_with (first
     | (go_at_call 48; refine (hfs.out.2.2.2 _).mono ?_; rintro e1 w1 ⟨rfl, rfl⟩)
     | (with_reducible refine at_appendk (esz := 1) [.int .i64 t] rfl Tryz.underlying37 hi hz0 hz1 hz2 rfl (by decide) (by decide) ?_ (w.heap.size + 1) _ _ _ hown1' ?_ hs2 ?_ ?_ ?_)
     | (go_at_call 88; refine (po_file _ _ (by omega) (by omega)).mono ?_; rintro e1 w1 ⟨rfl, rfl⟩)
     | (go_at_call 49; refine (po_rank _ _ (by omega) (by omega)).mono ?_; rintro e1 w1 ⟨rfl, rfl⟩)
     | (go_at_call 112; refine (hi_up _ _ (by omega) (by omega)).mono ?_; rintro e1 w1 ⟨rfl, rfl⟩))
    ·intro u hu; simp at hu; subst hu; rfl
    ·simp
    ·rfl
    ·rfl
    intro v3 w3 hown3 hbel3 hkeep3 hap3 hsz3
    have hrowW := (hbel3.block w.heap.size (by omega)).trans hrow1
    have hB3 := hB1.trans (hbel3.mono (by omega))
    have hown3' : ownInts w3 (w.heap.size + 1) v3 [o, t] := hown3
    have hfeq := hRs.out.2.2
    have hszW : w.heap.size < w3.heap.size := by omega
    clear hbel3 hkeep3 hap3 hown3 hown1' hrow1 hB1 ct
    go_wp2_with fail
    have hownW : ownInts w3 (w.heap.size + 1) v3 fw := by rw [hfeq]; exact hown3'
    have hBw := hB3
    have hsw := hBw.size
    refine (ht_hits s c s0 s1 c0 c1 w3).mono ?_
    rintro e2 w2 ⟨v2, rfl, hown2, hb2⟩
    obtain ⟨a2, cap2, rfl, hcells⟩ := ints_slice hown2
    have hownX := hownW.below hb2
    have hlt1 : ∀ g, (v3).ownBlock = some g → g < (w3).heap.size := fun g hg => (hownW.lt g hg).2
    have hB2 := hBw.trans (hb2.mono (by omega))
    have hrow2 := (hb2.block w.heap.size (by have := hszW; omega)).trans hrowW
    have hrng := hitL_range s c
    have hlen := hitTo_le s c 2
    have hfle : fw.length ≤ 2 := by have := fwd_le p s c; rw [hflS.out] at this; exact this
    change (hitL s c).length ≤ 2 at hlen
    have hkeep : ∀ i, i < (hitL s c).length → ∃ g, a2 = some ⟨g, 0, none⟩ ∧ g < w2.heap.size ∧ w2.cell? ⟨g, i, none⟩ = some (.int .i64 ((hitL s c).getD i 0)) ∧ (v3).ownBlock ≠ some g := fun i hi => by
     obtain ⟨g, h1, h2, h3, h4⟩ := hcells i hi
     exact ⟨g, h1, h3, h4, fun e => by have := hlt1 g e; omega⟩
    generalize hitL s c = L at *
    clear hownW hBw hown2 hb2 hrowW hcells hlt1
    go_wp2_with fail
    go_loopw [6, 10] (fun l i wr => ∃ k : Nat, k ≤ L.length ∧ i = .int .i64 (k : Int) ∧ ownInts wr (w.heap.size + 1) l (fw ++ (L.take k).filter (takeOk p c)) ∧ Below w.heap.size w wr ∧ wr.heap[w.heap.size]? = some (.cells (ints p) 24 (0, 0)) ∧ ∀ i, i < L.length → ∃ g, a2 = some ⟨g, 0, none⟩ ∧ g < wr.heap.size ∧ wr.cell? ⟨g, i, none⟩ = some (.int .i64 (L.getD i 0)) ∧ l.ownBlock ≠ some g) (fun _ i _ => L.length - (intOf i).toNat)
    case atStart => exact ⟨0, by omega, rfl, by simpa using hownX, hB2, hrow2, hkeep⟩
    case round =>
     clear hownX hB2 hrow2 hkeep
     obtain ⟨k, hk, rfl, hown, hB, hrr, hkp⟩ := hrel
     by_cases hlt : k < L.length
     ·obtain ⟨g2, rfl, hg2, hck, hng⟩ := hkp k hlt
      have hst := take_filter (takeOk p c) L k hlt
      obtain ⟨q0, q1⟩ := hrng (L.getD k 0) (by simp [hlt])
      have hlf : (fw ++ (L.take k).filter (takeOk p c)).length ≤ 4 := by
       have h1 := List.length_filter_le (takeOk p c) (L.take k)
       have h2 : (L.take k).length ≤ k := List.length_take_le _ _
       rw [List.length_append]
       omega
      generalize hq : L.getD k 0 = q at *
      generalize hxs : fw ++ (L.take k).filter (takeOk p c) = xs at *
      have hcq : wr.cell? ⟨w.heap.size, q.toNat, none⟩ = some (.int .i64 (pcAt p q)) := row_cell hrr q.toNat (by rw [hp.len]; omega)
      have hce : wr.cell? ⟨w.heap.size, 66, none⟩ = some (.int .i64 (p.getD 66 0)) := row_cell hrr 66 (by rw [hp.len]; omega)
      have htk : takeOk p c q = ((decide (pcAt p q ≠ 0) && decide (sideOf (pcAt p q) ≠ c)) || (decide (pcAt p q = 0) && (decide (q = p.getD 66 0) && decide (q / 8 = 5 - 3 * c)))) := rfl
      obtain ⟨y0, y1⟩ := hcs.out.2 q q0 q1
      obtain ⟨e0, e1⟩ := hep
      have hsd : 0 ≤ sideOf (pcAt p q) ∧ sideOf (pcAt p q) ≤ 1 := by unfold sideOf; split <;> omega
      obtain ⟨d0, d1⟩ := hsd
      generalize pcAt p q = y at *
      generalize p.getD 66 0 = ep at *
      have hsize := hB.size
      have hsz1 : w.heap.size + 1 ≤ wr.heap.size := by have := (Array.getElem?_eq_some_iff.1 hrr).1; omega
      have hids := show Shut _ from And.intro hst (And.intro htk (And.intro hxs (And.intro hB (And.intro hrr hkp))))
      clear hst htk hxs hB hq hrr hkp hrng
      by_cases hy : y = 0
      ·subst hy
       clear y0 y1 d0 d1
       by_cases he : q = ep ∧ q / 8 = 5 - 3 * c
       ·obtain ⟨rfl, hrk⟩ := he
        have hrk2 : (q / 8 == 5 - 3 * c) = true := by simpa using hrk
        have htrue : takeOk p c q = true := hids.out.2.1.trans (by simp [hrk])
        have hrs := show Shut _ from htrue
        clear hrk htrue
        go_wp2_with fail
        go_quiet (first | (go_at_call 90; refine quiet' (hi_side _ _ (by omega))) | (go_at_call 49; refine quiet' (po_rank _ _ (by omega) (by omega))))
        have hownq : ownInts (wr.drewN nq) (w.heap.size + 1) u6 xs := hown
        have hckq : (wr.drewN nq).cell? ⟨g2, k, none⟩ = some (.int .i64 q) := hck
        have hszq : w.heap.size + 1 ≤ (wr.drewN nq).heap.size := hsz1
        have hBq := hids.out.2.2.2.1.trans ((drewN_below wr nq).mono hsize)
        have hrq : (wr.drewN nq).heap[w.heap.size]? = some (.cells (ints p) 24 (0, 0)) := hids.out.2.2.2.2.1
        have hkq : ∀ i, i < L.length → ∃ g, some (⟨g2, 0, none⟩ : Addr) = some ⟨g, 0, none⟩ ∧ g < (wr.drewN nq).heap.size ∧ (wr.drewN nq).cell? ⟨g, i, none⟩ = some (.int .i64 (L.getD i 0)) ∧ u6.ownBlock ≠ some g := hids.out.2.2.2.2.2
        have hkqS := show Shut _ from And.intro hBq (And.intro hrq hkq)
        clear hck hcq hce hown hBq hrq hkq
        generalize wr.drewN nq = wq at *
        go_wp2_with (with_reducible refine at_appendk (esz := 1) [.int .i64 q] rfl Tryz.underlying37 hi hz0 hz1 hz2 rfl (by decide) (by decide) ?_ (w.heap.size + 1) _ _ _ hownq ?_ hszq ?_ ?_ ?_)
        ·intro u hu; simp at hu; subst hu; rfl
        ·omega
        ·rfl
        ·rfl
        intro v' w' hown' hbel' hkeep' hap' hsz'
        obtain ⟨hBq, hrq, hkq⟩ := hkqS.out
        have R : ∃ k' : Nat, k' ≤ L.length ∧ Value.int .i64 ((k : Int) + 1) = .int .i64 (k' : Int) ∧ ownInts w' (w.heap.size + 1) v' (fw ++ (L.take k').filter (takeOk p c)) ∧ Below w.heap.size w w' ∧ w'.heap[w.heap.size]? = some (.cells (ints p) 24 (0, 0)) ∧ ∀ i, i < L.length → ∃ g, some (⟨g2, 0, none⟩ : Addr) = some ⟨g, 0, none⟩ ∧ g < w'.heap.size ∧ w'.cell? ⟨g, i, none⟩ = some (.int .i64 (L.getD i 0)) ∧ v'.ownBlock ≠ some g := by
         refine ⟨k + 1, by omega, by go_num, ?_, hBq.trans (hbel'.mono (by omega)), (hbel'.block _ (by omega)).trans hrq, fun i hi => ?_⟩
         ·rw [hids.out.1, hrs.out, if_pos rfl, ← List.append_assoc, hids.out.2.2.1]
          unfold ownInts
          rw [List.length_append, List.map_append]
          exact hown'
         ·obtain ⟨g, h1, h2, h3, h4⟩ := hkq i hi
          exact ⟨g, h1, by omega, (World.cell?_of_block (a := ⟨g, i, none⟩) (hkeep' g h2 h4)).trans h3, hap' g h2 h4⟩
        have RS := show Shut _ from R
        clear R hBq hrq hkq
        go_wp2_with fail
        go_roundw
        case rel =>
         have R := RS.out
         first | exact R | ((repeat apply Exists.intro); exact ⟨R, rfl⟩)
        case measure => simp [intOf]; omega
       ·by_cases he1 : q = ep
        ·have hrk : ¬ q / 8 = 5 - 3 * c := fun h => he ⟨he1, h⟩
         subst he1
         have hrk2 : (q / 8 == 5 - 3 * c) = false := by simpa using hrk
         have hfalse : takeOk p c q = false := hids.out.2.1.trans (by simp [hrk])
         have hrs := show Shut _ from hfalse
         clear hrk he hfalse
         go_wp2_with fail
         go_quiet (first | (go_at_call 90; refine quiet' (hi_side _ _ (by omega))) | (go_at_call 49; refine quiet' (po_rank _ _ (by omega) (by omega))))
         go_wp2
         go_roundw
         case rel =>
          have R : ∃ k' : Nat, k' ≤ L.length ∧ Value.int .i64 ((k : Int) + 1) = .int .i64 (k' : Int) ∧ ownInts (wr.drewN nq) (w.heap.size + 1) u6 (fw ++ (L.take k').filter (takeOk p c)) ∧ Below w.heap.size w (wr.drewN nq) ∧ (wr.drewN nq).heap[w.heap.size]? = some (.cells (ints p) 24 (0, 0)) ∧ ∀ i, i < L.length → ∃ g, some (⟨g2, 0, none⟩ : Addr) = some ⟨g, 0, none⟩ ∧ g < (wr.drewN nq).heap.size ∧ (wr.drewN nq).cell? ⟨g, i, none⟩ = some (.int .i64 (L.getD i 0)) ∧ u6.ownBlock ≠ some g := by
           refine ⟨k + 1, by omega, by go_num, ?_, hids.out.2.2.2.1.trans ((drewN_below wr nq).mono hsize), hids.out.2.2.2.2.1, hids.out.2.2.2.2.2⟩
           rw [hids.out.1, hrs.out, if_neg (by decide), List.append_nil, hids.out.2.2.1]
           exact hown
          first | exact R | ((repeat apply Exists.intro); exact ⟨R, rfl⟩)
         case measure => simp [intOf]; omega
        ·have hrk2 : (q == ep) = false := by simpa using he1
         have hfalse : takeOk p c q = false := hids.out.2.1.trans (by simp [he1])
         have hrs := show Shut _ from hfalse
         clear he he1 hfalse
         go_wp2_with fail
         go_quiet (first | (go_at_call 90; refine quiet' (hi_side _ _ (by omega))) | (go_at_call 49; refine quiet' (po_rank _ _ (by omega) (by omega))))
         go_wp2
         go_roundw
         case rel =>
          have R : ∃ k' : Nat, k' ≤ L.length ∧ Value.int .i64 ((k : Int) + 1) = .int .i64 (k' : Int) ∧ ownInts (wr.drewN nq) (w.heap.size + 1) u6 (fw ++ (L.take k').filter (takeOk p c)) ∧ Below w.heap.size w (wr.drewN nq) ∧ (wr.drewN nq).heap[w.heap.size]? = some (.cells (ints p) 24 (0, 0)) ∧ ∀ i, i < L.length → ∃ g, some (⟨g2, 0, none⟩ : Addr) = some ⟨g, 0, none⟩ ∧ g < (wr.drewN nq).heap.size ∧ (wr.drewN nq).cell? ⟨g, i, none⟩ = some (.int .i64 (L.getD i 0)) ∧ u6.ownBlock ≠ some g := by
           refine ⟨k + 1, by omega, by go_num, ?_, hids.out.2.2.2.1.trans ((drewN_below wr nq).mono hsize), hids.out.2.2.2.2.1, hids.out.2.2.2.2.2⟩
           rw [hids.out.1, hrs.out, if_neg (by decide), List.append_nil, hids.out.2.2.1]
           exact hown
          first | exact R | ((repeat apply Exists.intro); exact ⟨R, rfl⟩)
         case measure => simp [intOf]; omega
      ·have hy1 : (y == 0) = false := by simpa using hy
       have hy2 : (y != 0) = true := by simpa using hy
       by_cases hs : sideOf y = c
       ·have hs2 : (sideOf y != c) = false := by simpa using hs
        have hfalse : takeOk p c q = false := hids.out.2.1.trans (by simp [hy, hs])
        have hrs := show Shut _ from hfalse
        clear hs hy hfalse
        go_wp2_with fail
        go_quiet (first | (go_at_call 90; refine quiet' (hi_side _ _ (by omega))) | (go_at_call 49; refine quiet' (po_rank _ _ (by omega) (by omega))))
        go_wp2
        go_roundw
        case rel =>
         have R : ∃ k' : Nat, k' ≤ L.length ∧ Value.int .i64 ((k : Int) + 1) = .int .i64 (k' : Int) ∧ ownInts (wr.drewN nq) (w.heap.size + 1) u6 (fw ++ (L.take k').filter (takeOk p c)) ∧ Below w.heap.size w (wr.drewN nq) ∧ (wr.drewN nq).heap[w.heap.size]? = some (.cells (ints p) 24 (0, 0)) ∧ ∀ i, i < L.length → ∃ g, some (⟨g2, 0, none⟩ : Addr) = some ⟨g, 0, none⟩ ∧ g < (wr.drewN nq).heap.size ∧ (wr.drewN nq).cell? ⟨g, i, none⟩ = some (.int .i64 (L.getD i 0)) ∧ u6.ownBlock ≠ some g := by
          refine ⟨k + 1, by omega, by go_num, ?_, hids.out.2.2.2.1.trans ((drewN_below wr nq).mono hsize), hids.out.2.2.2.2.1, hids.out.2.2.2.2.2⟩
          rw [hids.out.1, hrs.out, if_neg (by decide), List.append_nil, hids.out.2.2.1]
          exact hown
         first | exact R | ((repeat apply Exists.intro); exact ⟨R, rfl⟩)
        case measure => simp [intOf]; omega
       ·have hs2 : (sideOf y != c) = true := by simpa using hs
        have htrue : takeOk p c q = true := hids.out.2.1.trans (by simp [hy, hs])
        have hrs := show Shut _ from htrue
        clear hs hy htrue
        go_wp2_with fail
        go_quiet (first | (go_at_call 90; refine quiet' (hi_side _ _ (by omega))) | (go_at_call 49; refine quiet' (po_rank _ _ (by omega) (by omega))))
        have hownq : ownInts (wr.drewN nq) (w.heap.size + 1) u6 xs := hown
        have hckq : (wr.drewN nq).cell? ⟨g2, k, none⟩ = some (.int .i64 q) := hck
        have hszq : w.heap.size + 1 ≤ (wr.drewN nq).heap.size := hsz1
        have hBq := hids.out.2.2.2.1.trans ((drewN_below wr nq).mono hsize)
        have hrq : (wr.drewN nq).heap[w.heap.size]? = some (.cells (ints p) 24 (0, 0)) := hids.out.2.2.2.2.1
        have hkq : ∀ i, i < L.length → ∃ g, some (⟨g2, 0, none⟩ : Addr) = some ⟨g, 0, none⟩ ∧ g < (wr.drewN nq).heap.size ∧ (wr.drewN nq).cell? ⟨g, i, none⟩ = some (.int .i64 (L.getD i 0)) ∧ u6.ownBlock ≠ some g := hids.out.2.2.2.2.2
        have hkqS := show Shut _ from And.intro hBq (And.intro hrq hkq)
        clear hck hcq hce hown hBq hrq hkq
        generalize wr.drewN nq = wq at *
        go_wp2_with (with_reducible refine at_appendk (esz := 1) [.int .i64 q] rfl Tryz.underlying37 hi hz0 hz1 hz2 rfl (by decide) (by decide) ?_ (w.heap.size + 1) _ _ _ hownq ?_ hszq ?_ ?_ ?_)
        ·intro u hu; simp at hu; subst hu; rfl
        ·omega
        ·rfl
        ·rfl
        intro v' w' hown' hbel' hkeep' hap' hsz'
        obtain ⟨hBq, hrq, hkq⟩ := hkqS.out
        have R : ∃ k' : Nat, k' ≤ L.length ∧ Value.int .i64 ((k : Int) + 1) = .int .i64 (k' : Int) ∧ ownInts w' (w.heap.size + 1) v' (fw ++ (L.take k').filter (takeOk p c)) ∧ Below w.heap.size w w' ∧ w'.heap[w.heap.size]? = some (.cells (ints p) 24 (0, 0)) ∧ ∀ i, i < L.length → ∃ g, some (⟨g2, 0, none⟩ : Addr) = some ⟨g, 0, none⟩ ∧ g < w'.heap.size ∧ w'.cell? ⟨g, i, none⟩ = some (.int .i64 (L.getD i 0)) ∧ v'.ownBlock ≠ some g := by
         refine ⟨k + 1, by omega, by go_num, ?_, hBq.trans (hbel'.mono (by omega)), (hbel'.block _ (by omega)).trans hrq, fun i hi => ?_⟩
         ·rw [hids.out.1, hrs.out, if_pos rfl, ← List.append_assoc, hids.out.2.2.1]
          unfold ownInts
          rw [List.length_append, List.map_append]
          exact hown'
         ·obtain ⟨g, h1, h2, h3, h4⟩ := hkq i hi
          exact ⟨g, h1, by omega, (World.cell?_of_block (a := ⟨g, i, none⟩) (hkeep' g h2 h4)).trans h3, hap' g h2 h4⟩
        have RS := show Shut _ from R
        clear R hBq hrq hkq
        go_wp2_with fail
        go_roundw
        case rel =>
         have R := RS.out
         first | exact R | ((repeat apply Exists.intro); exact ⟨R, rfl⟩)
        case measure => simp [intOf]; omega
     ·obtain rfl : k = L.length := by omega
      clear hkp
      go_wp2_with fail
      go_ret
      have hfin := hown
      rw [List.take_length] at hfin
      exact ⟨_, rfl, by rw [hTs.out]; exact own_mono hfin (by omega), hB⟩
   ·have hfeq : fw = [o] := by have h := hfs.out.1; rw [if_pos ⟨ho, hzs.out⟩, if_neg (fun h => hz2 h.2)] at h; exact h
    have hz3 : (pcAt p t == 0) = false := by simpa using hz2
    have hRs := show Shut _ from And.intro hR (And.intro hz2 hfeq)
    clear hR hz2 hfeq
    generalize pcAt p t = z2 at *
    go_wp2_with (first
     | (go_at_call 48; refine (hfs.out.2.2.2 _).mono ?_; rintro e1 w1 ⟨rfl, rfl⟩)
     | (go_at_call 88; refine (po_file _ _ (by omega) (by omega)).mono ?_; rintro e1 w1 ⟨rfl, rfl⟩)
     | (go_at_call 49; refine (po_rank _ _ (by omega) (by omega)).mono ?_; rintro e1 w1 ⟨rfl, rfl⟩)
     | (go_at_call 112; refine (hi_up _ _ (by omega) (by omega)).mono ?_; rintro e1 w1 ⟨rfl, rfl⟩))
    have hfeq := hRs.out.2.2
    have hszW : w.heap.size < w1.heap.size := by omega
    have hrowW := hrow1
    have hownW : ownInts w1 (w.heap.size + 1) v1 fw := by rw [hfeq]; exact hown1'
    have hBw := hB1
    have hsw := hBw.size
    refine (ht_hits s c s0 s1 c0 c1 w1).mono ?_
    rintro e2 w2 ⟨v2, rfl, hown2, hb2⟩
    obtain ⟨a2, cap2, rfl, hcells⟩ := ints_slice hown2
    have hownX := hownW.below hb2
    have hlt1 : ∀ g, (v1).ownBlock = some g → g < (w1).heap.size := fun g hg => (hownW.lt g hg).2
    have hB2 := hBw.trans (hb2.mono (by omega))
    have hrow2 := (hb2.block w.heap.size (by have := hszW; omega)).trans hrowW
    have hrng := hitL_range s c
    have hlen := hitTo_le s c 2
    have hfle : fw.length ≤ 2 := by have := fwd_le p s c; rw [hflS.out] at this; exact this
    change (hitL s c).length ≤ 2 at hlen
    have hkeep : ∀ i, i < (hitL s c).length → ∃ g, a2 = some ⟨g, 0, none⟩ ∧ g < w2.heap.size ∧ w2.cell? ⟨g, i, none⟩ = some (.int .i64 ((hitL s c).getD i 0)) ∧ (v1).ownBlock ≠ some g := fun i hi => by
     obtain ⟨g, h1, h2, h3, h4⟩ := hcells i hi
     exact ⟨g, h1, h3, h4, fun e => by have := hlt1 g e; omega⟩
    generalize hitL s c = L at *
    clear hownW hBw hown2 hb2 hrowW hcells hlt1
    go_wp2_with fail
    go_loopw [6, 10] (fun l i wr => ∃ k : Nat, k ≤ L.length ∧ i = .int .i64 (k : Int) ∧ ownInts wr (w.heap.size + 1) l (fw ++ (L.take k).filter (takeOk p c)) ∧ Below w.heap.size w wr ∧ wr.heap[w.heap.size]? = some (.cells (ints p) 24 (0, 0)) ∧ ∀ i, i < L.length → ∃ g, a2 = some ⟨g, 0, none⟩ ∧ g < wr.heap.size ∧ wr.cell? ⟨g, i, none⟩ = some (.int .i64 (L.getD i 0)) ∧ l.ownBlock ≠ some g) (fun _ i _ => L.length - (intOf i).toNat)
    case atStart => exact ⟨0, by omega, rfl, by simpa using hownX, hB2, hrow2, hkeep⟩
    case round =>
     clear hownX hB2 hrow2 hkeep
     obtain ⟨k, hk, rfl, hown, hB, hrr, hkp⟩ := hrel
     by_cases hlt : k < L.length
     ·obtain ⟨g2, rfl, hg2, hck, hng⟩ := hkp k hlt
      have hst := take_filter (takeOk p c) L k hlt
      obtain ⟨q0, q1⟩ := hrng (L.getD k 0) (by simp [hlt])
      have hlf : (fw ++ (L.take k).filter (takeOk p c)).length ≤ 4 := by
       have h1 := List.length_filter_le (takeOk p c) (L.take k)
       have h2 : (L.take k).length ≤ k := List.length_take_le _ _
       rw [List.length_append]
       omega
      generalize hq : L.getD k 0 = q at *
      generalize hxs : fw ++ (L.take k).filter (takeOk p c) = xs at *
      have hcq : wr.cell? ⟨w.heap.size, q.toNat, none⟩ = some (.int .i64 (pcAt p q)) := row_cell hrr q.toNat (by rw [hp.len]; omega)
      have hce : wr.cell? ⟨w.heap.size, 66, none⟩ = some (.int .i64 (p.getD 66 0)) := row_cell hrr 66 (by rw [hp.len]; omega)
      have htk : takeOk p c q = ((decide (pcAt p q ≠ 0) && decide (sideOf (pcAt p q) ≠ c)) || (decide (pcAt p q = 0) && (decide (q = p.getD 66 0) && decide (q / 8 = 5 - 3 * c)))) := rfl
      obtain ⟨y0, y1⟩ := hcs.out.2 q q0 q1
      obtain ⟨e0, e1⟩ := hep
      have hsd : 0 ≤ sideOf (pcAt p q) ∧ sideOf (pcAt p q) ≤ 1 := by unfold sideOf; split <;> omega
      obtain ⟨d0, d1⟩ := hsd
      generalize pcAt p q = y at *
      generalize p.getD 66 0 = ep at *
      have hsize := hB.size
      have hsz1 : w.heap.size + 1 ≤ wr.heap.size := by have := (Array.getElem?_eq_some_iff.1 hrr).1; omega
      have hids := show Shut _ from And.intro hst (And.intro htk (And.intro hxs (And.intro hB (And.intro hrr hkp))))
      clear hst htk hxs hB hq hrr hkp hrng
      by_cases hy : y = 0
      ·subst hy
       clear y0 y1 d0 d1
       by_cases he : q = ep ∧ q / 8 = 5 - 3 * c
       ·obtain ⟨rfl, hrk⟩ := he
        have hrk2 : (q / 8 == 5 - 3 * c) = true := by simpa using hrk
        have htrue : takeOk p c q = true := hids.out.2.1.trans (by simp [hrk])
        have hrs := show Shut _ from htrue
        clear hrk htrue
        go_wp2_with fail
        go_quiet (first | (go_at_call 90; refine quiet' (hi_side _ _ (by omega))) | (go_at_call 49; refine quiet' (po_rank _ _ (by omega) (by omega))))
        have hownq : ownInts (wr.drewN nq) (w.heap.size + 1) u6 xs := hown
        have hckq : (wr.drewN nq).cell? ⟨g2, k, none⟩ = some (.int .i64 q) := hck
        have hszq : w.heap.size + 1 ≤ (wr.drewN nq).heap.size := hsz1
        have hBq := hids.out.2.2.2.1.trans ((drewN_below wr nq).mono hsize)
        have hrq : (wr.drewN nq).heap[w.heap.size]? = some (.cells (ints p) 24 (0, 0)) := hids.out.2.2.2.2.1
        have hkq : ∀ i, i < L.length → ∃ g, some (⟨g2, 0, none⟩ : Addr) = some ⟨g, 0, none⟩ ∧ g < (wr.drewN nq).heap.size ∧ (wr.drewN nq).cell? ⟨g, i, none⟩ = some (.int .i64 (L.getD i 0)) ∧ u6.ownBlock ≠ some g := hids.out.2.2.2.2.2
        have hkqS := show Shut _ from And.intro hBq (And.intro hrq hkq)
        clear hck hcq hce hown hBq hrq hkq
        generalize wr.drewN nq = wq at *
        go_wp2_with (with_reducible refine at_appendk (esz := 1) [.int .i64 q] rfl Tryz.underlying37 hi hz0 hz1 hz2 rfl (by decide) (by decide) ?_ (w.heap.size + 1) _ _ _ hownq ?_ hszq ?_ ?_ ?_)
        ·intro u hu; simp at hu; subst hu; rfl
        ·omega
        ·rfl
        ·rfl
        intro v' w' hown' hbel' hkeep' hap' hsz'
        obtain ⟨hBq, hrq, hkq⟩ := hkqS.out
        have R : ∃ k' : Nat, k' ≤ L.length ∧ Value.int .i64 ((k : Int) + 1) = .int .i64 (k' : Int) ∧ ownInts w' (w.heap.size + 1) v' (fw ++ (L.take k').filter (takeOk p c)) ∧ Below w.heap.size w w' ∧ w'.heap[w.heap.size]? = some (.cells (ints p) 24 (0, 0)) ∧ ∀ i, i < L.length → ∃ g, some (⟨g2, 0, none⟩ : Addr) = some ⟨g, 0, none⟩ ∧ g < w'.heap.size ∧ w'.cell? ⟨g, i, none⟩ = some (.int .i64 (L.getD i 0)) ∧ v'.ownBlock ≠ some g := by
         refine ⟨k + 1, by omega, by go_num, ?_, hBq.trans (hbel'.mono (by omega)), (hbel'.block _ (by omega)).trans hrq, fun i hi => ?_⟩
         ·rw [hids.out.1, hrs.out, if_pos rfl, ← List.append_assoc, hids.out.2.2.1]
          unfold ownInts
          rw [List.length_append, List.map_append]
          exact hown'
         ·obtain ⟨g, h1, h2, h3, h4⟩ := hkq i hi
          exact ⟨g, h1, by omega, (World.cell?_of_block (a := ⟨g, i, none⟩) (hkeep' g h2 h4)).trans h3, hap' g h2 h4⟩
        have RS := show Shut _ from R
        clear R hBq hrq hkq
        go_wp2_with fail
        go_roundw
        case rel =>
         have R := RS.out
         first | exact R | ((repeat apply Exists.intro); exact ⟨R, rfl⟩)
        case measure => simp [intOf]; omega
       ·by_cases he1 : q = ep
        ·have hrk : ¬ q / 8 = 5 - 3 * c := fun h => he ⟨he1, h⟩
         subst he1
         have hrk2 : (q / 8 == 5 - 3 * c) = false := by simpa using hrk
         have hfalse : takeOk p c q = false := hids.out.2.1.trans (by simp [hrk])
         have hrs := show Shut _ from hfalse
         clear hrk he hfalse
         go_wp2_with fail
         go_quiet (first | (go_at_call 90; refine quiet' (hi_side _ _ (by omega))) | (go_at_call 49; refine quiet' (po_rank _ _ (by omega) (by omega))))
         go_wp2
         go_roundw
         case rel =>
          have R : ∃ k' : Nat, k' ≤ L.length ∧ Value.int .i64 ((k : Int) + 1) = .int .i64 (k' : Int) ∧ ownInts (wr.drewN nq) (w.heap.size + 1) u6 (fw ++ (L.take k').filter (takeOk p c)) ∧ Below w.heap.size w (wr.drewN nq) ∧ (wr.drewN nq).heap[w.heap.size]? = some (.cells (ints p) 24 (0, 0)) ∧ ∀ i, i < L.length → ∃ g, some (⟨g2, 0, none⟩ : Addr) = some ⟨g, 0, none⟩ ∧ g < (wr.drewN nq).heap.size ∧ (wr.drewN nq).cell? ⟨g, i, none⟩ = some (.int .i64 (L.getD i 0)) ∧ u6.ownBlock ≠ some g := by
           refine ⟨k + 1, by omega, by go_num, ?_, hids.out.2.2.2.1.trans ((drewN_below wr nq).mono hsize), hids.out.2.2.2.2.1, hids.out.2.2.2.2.2⟩
           rw [hids.out.1, hrs.out, if_neg (by decide), List.append_nil, hids.out.2.2.1]
           exact hown
          first | exact R | ((repeat apply Exists.intro); exact ⟨R, rfl⟩)
         case measure => simp [intOf]; omega
        ·have hrk2 : (q == ep) = false := by simpa using he1
         have hfalse : takeOk p c q = false := hids.out.2.1.trans (by simp [he1])
         have hrs := show Shut _ from hfalse
         clear he he1 hfalse
         go_wp2_with fail
         go_quiet (first | (go_at_call 90; refine quiet' (hi_side _ _ (by omega))) | (go_at_call 49; refine quiet' (po_rank _ _ (by omega) (by omega))))
         go_wp2
         go_roundw
         case rel =>
          have R : ∃ k' : Nat, k' ≤ L.length ∧ Value.int .i64 ((k : Int) + 1) = .int .i64 (k' : Int) ∧ ownInts (wr.drewN nq) (w.heap.size + 1) u6 (fw ++ (L.take k').filter (takeOk p c)) ∧ Below w.heap.size w (wr.drewN nq) ∧ (wr.drewN nq).heap[w.heap.size]? = some (.cells (ints p) 24 (0, 0)) ∧ ∀ i, i < L.length → ∃ g, some (⟨g2, 0, none⟩ : Addr) = some ⟨g, 0, none⟩ ∧ g < (wr.drewN nq).heap.size ∧ (wr.drewN nq).cell? ⟨g, i, none⟩ = some (.int .i64 (L.getD i 0)) ∧ u6.ownBlock ≠ some g := by
           refine ⟨k + 1, by omega, by go_num, ?_, hids.out.2.2.2.1.trans ((drewN_below wr nq).mono hsize), hids.out.2.2.2.2.1, hids.out.2.2.2.2.2⟩
           rw [hids.out.1, hrs.out, if_neg (by decide), List.append_nil, hids.out.2.2.1]
           exact hown
          first | exact R | ((repeat apply Exists.intro); exact ⟨R, rfl⟩)
         case measure => simp [intOf]; omega
      ·have hy1 : (y == 0) = false := by simpa using hy
       have hy2 : (y != 0) = true := by simpa using hy
       by_cases hs : sideOf y = c
       ·have hs2 : (sideOf y != c) = false := by simpa using hs
        have hfalse : takeOk p c q = false := hids.out.2.1.trans (by simp [hy, hs])
        have hrs := show Shut _ from hfalse
        clear hs hy hfalse
        go_wp2_with fail
        go_quiet (first | (go_at_call 90; refine quiet' (hi_side _ _ (by omega))) | (go_at_call 49; refine quiet' (po_rank _ _ (by omega) (by omega))))
        go_wp2
        go_roundw
        case rel =>
         have R : ∃ k' : Nat, k' ≤ L.length ∧ Value.int .i64 ((k : Int) + 1) = .int .i64 (k' : Int) ∧ ownInts (wr.drewN nq) (w.heap.size + 1) u6 (fw ++ (L.take k').filter (takeOk p c)) ∧ Below w.heap.size w (wr.drewN nq) ∧ (wr.drewN nq).heap[w.heap.size]? = some (.cells (ints p) 24 (0, 0)) ∧ ∀ i, i < L.length → ∃ g, some (⟨g2, 0, none⟩ : Addr) = some ⟨g, 0, none⟩ ∧ g < (wr.drewN nq).heap.size ∧ (wr.drewN nq).cell? ⟨g, i, none⟩ = some (.int .i64 (L.getD i 0)) ∧ u6.ownBlock ≠ some g := by
          refine ⟨k + 1, by omega, by go_num, ?_, hids.out.2.2.2.1.trans ((drewN_below wr nq).mono hsize), hids.out.2.2.2.2.1, hids.out.2.2.2.2.2⟩
          rw [hids.out.1, hrs.out, if_neg (by decide), List.append_nil, hids.out.2.2.1]
          exact hown
         first | exact R | ((repeat apply Exists.intro); exact ⟨R, rfl⟩)
        case measure => simp [intOf]; omega
       ·have hs2 : (sideOf y != c) = true := by simpa using hs
        have htrue : takeOk p c q = true := hids.out.2.1.trans (by simp [hy, hs])
        have hrs := show Shut _ from htrue
        clear hs hy htrue
        go_wp2_with fail
        go_quiet (first | (go_at_call 90; refine quiet' (hi_side _ _ (by omega))) | (go_at_call 49; refine quiet' (po_rank _ _ (by omega) (by omega))))
        have hownq : ownInts (wr.drewN nq) (w.heap.size + 1) u6 xs := hown
        have hckq : (wr.drewN nq).cell? ⟨g2, k, none⟩ = some (.int .i64 q) := hck
        have hszq : w.heap.size + 1 ≤ (wr.drewN nq).heap.size := hsz1
        have hBq := hids.out.2.2.2.1.trans ((drewN_below wr nq).mono hsize)
        have hrq : (wr.drewN nq).heap[w.heap.size]? = some (.cells (ints p) 24 (0, 0)) := hids.out.2.2.2.2.1
        have hkq : ∀ i, i < L.length → ∃ g, some (⟨g2, 0, none⟩ : Addr) = some ⟨g, 0, none⟩ ∧ g < (wr.drewN nq).heap.size ∧ (wr.drewN nq).cell? ⟨g, i, none⟩ = some (.int .i64 (L.getD i 0)) ∧ u6.ownBlock ≠ some g := hids.out.2.2.2.2.2
        have hkqS := show Shut _ from And.intro hBq (And.intro hrq hkq)
        clear hck hcq hce hown hBq hrq hkq
        generalize wr.drewN nq = wq at *
        go_wp2_with (with_reducible refine at_appendk (esz := 1) [.int .i64 q] rfl Tryz.underlying37 hi hz0 hz1 hz2 rfl (by decide) (by decide) ?_ (w.heap.size + 1) _ _ _ hownq ?_ hszq ?_ ?_ ?_)
        ·intro u hu; simp at hu; subst hu; rfl
        ·omega
        ·rfl
        ·rfl
        intro v' w' hown' hbel' hkeep' hap' hsz'
        obtain ⟨hBq, hrq, hkq⟩ := hkqS.out
        have R : ∃ k' : Nat, k' ≤ L.length ∧ Value.int .i64 ((k : Int) + 1) = .int .i64 (k' : Int) ∧ ownInts w' (w.heap.size + 1) v' (fw ++ (L.take k').filter (takeOk p c)) ∧ Below w.heap.size w w' ∧ w'.heap[w.heap.size]? = some (.cells (ints p) 24 (0, 0)) ∧ ∀ i, i < L.length → ∃ g, some (⟨g2, 0, none⟩ : Addr) = some ⟨g, 0, none⟩ ∧ g < w'.heap.size ∧ w'.cell? ⟨g, i, none⟩ = some (.int .i64 (L.getD i 0)) ∧ v'.ownBlock ≠ some g := by
         refine ⟨k + 1, by omega, by go_num, ?_, hBq.trans (hbel'.mono (by omega)), (hbel'.block _ (by omega)).trans hrq, fun i hi => ?_⟩
         ·rw [hids.out.1, hrs.out, if_pos rfl, ← List.append_assoc, hids.out.2.2.1]
          unfold ownInts
          rw [List.length_append, List.map_append]
          exact hown'
         ·obtain ⟨g, h1, h2, h3, h4⟩ := hkq i hi
          exact ⟨g, h1, by omega, (World.cell?_of_block (a := ⟨g, i, none⟩) (hkeep' g h2 h4)).trans h3, hap' g h2 h4⟩
        have RS := show Shut _ from R
        clear R hBq hrq hkq
        go_wp2_with fail
        go_roundw
        case rel =>
         have R := RS.out
         first | exact R | ((repeat apply Exists.intro); exact ⟨R, rfl⟩)
        case measure => simp [intOf]; omega
     ·obtain rfl : k = L.length := by omega
      clear hkp
      go_wp2_with fail
      go_ret
      have hfin := hown
      rw [List.take_length] at hfin
      exact ⟨_, rfl, by rw [hTs.out]; exact own_mono hfin (by omega), hB⟩
  ·have hfeq : fw = [o] := by have h := hfs.out.1; rw [if_pos ⟨ho, hzs.out⟩, if_neg (fun h => hR h.1)] at h; exact h
   have hR2 : (s / 8 == 1 + 5 * c) = false := by simpa using hR
   have hRs := show Shut _ from And.intro hR hfeq
   clear hR hfeq
   go_wp2_with (first
    | (go_at_call 48; refine (hfs.out.2.2.2 _).mono ?_; rintro e1 w1 ⟨rfl, rfl⟩)
    | (go_at_call 88; refine (po_file _ _ (by omega) (by omega)).mono ?_; rintro e1 w1 ⟨rfl, rfl⟩)
    | (go_at_call 49; refine (po_rank _ _ (by omega) (by omega)).mono ?_; rintro e1 w1 ⟨rfl, rfl⟩)
    | (go_at_call 112; refine (hi_up _ _ (by omega) (by omega)).mono ?_; rintro e1 w1 ⟨rfl, rfl⟩))
   have hfeq := hRs.out.2
   have hszW : w.heap.size < w1.heap.size := by omega
   have hrowW := hrow1
   have hownW : ownInts w1 (w.heap.size + 1) v1 fw := by rw [hfeq]; exact hown1'
   have hBw := hB1
   have hsw := hBw.size
   refine (ht_hits s c s0 s1 c0 c1 w1).mono ?_
   rintro e2 w2 ⟨v2, rfl, hown2, hb2⟩
   obtain ⟨a2, cap2, rfl, hcells⟩ := ints_slice hown2
   have hownX := hownW.below hb2
   have hlt1 : ∀ g, (v1).ownBlock = some g → g < (w1).heap.size := fun g hg => (hownW.lt g hg).2
   have hB2 := hBw.trans (hb2.mono (by omega))
   have hrow2 := (hb2.block w.heap.size (by have := hszW; omega)).trans hrowW
   have hrng := hitL_range s c
   have hlen := hitTo_le s c 2
   have hfle : fw.length ≤ 2 := by have := fwd_le p s c; rw [hflS.out] at this; exact this
   change (hitL s c).length ≤ 2 at hlen
   have hkeep : ∀ i, i < (hitL s c).length → ∃ g, a2 = some ⟨g, 0, none⟩ ∧ g < w2.heap.size ∧ w2.cell? ⟨g, i, none⟩ = some (.int .i64 ((hitL s c).getD i 0)) ∧ (v1).ownBlock ≠ some g := fun i hi => by
    obtain ⟨g, h1, h2, h3, h4⟩ := hcells i hi
    exact ⟨g, h1, h3, h4, fun e => by have := hlt1 g e; omega⟩
   generalize hitL s c = L at *
   clear hownW hBw hown2 hb2 hrowW hcells hlt1
   go_wp2_with fail
   go_loopw [6, 10] (fun l i wr => ∃ k : Nat, k ≤ L.length ∧ i = .int .i64 (k : Int) ∧ ownInts wr (w.heap.size + 1) l (fw ++ (L.take k).filter (takeOk p c)) ∧ Below w.heap.size w wr ∧ wr.heap[w.heap.size]? = some (.cells (ints p) 24 (0, 0)) ∧ ∀ i, i < L.length → ∃ g, a2 = some ⟨g, 0, none⟩ ∧ g < wr.heap.size ∧ wr.cell? ⟨g, i, none⟩ = some (.int .i64 (L.getD i 0)) ∧ l.ownBlock ≠ some g) (fun _ i _ => L.length - (intOf i).toNat)
   case atStart => exact ⟨0, by omega, rfl, by simpa using hownX, hB2, hrow2, hkeep⟩
   case round =>
    clear hownX hB2 hrow2 hkeep
    obtain ⟨k, hk, rfl, hown, hB, hrr, hkp⟩ := hrel
    by_cases hlt : k < L.length
    ·obtain ⟨g2, rfl, hg2, hck, hng⟩ := hkp k hlt
     have hst := take_filter (takeOk p c) L k hlt
     obtain ⟨q0, q1⟩ := hrng (L.getD k 0) (by simp [hlt])
     have hlf : (fw ++ (L.take k).filter (takeOk p c)).length ≤ 4 := by
      have h1 := List.length_filter_le (takeOk p c) (L.take k)
      have h2 : (L.take k).length ≤ k := List.length_take_le _ _
      rw [List.length_append]
      omega
     generalize hq : L.getD k 0 = q at *
     generalize hxs : fw ++ (L.take k).filter (takeOk p c) = xs at *
     have hcq : wr.cell? ⟨w.heap.size, q.toNat, none⟩ = some (.int .i64 (pcAt p q)) := row_cell hrr q.toNat (by rw [hp.len]; omega)
     have hce : wr.cell? ⟨w.heap.size, 66, none⟩ = some (.int .i64 (p.getD 66 0)) := row_cell hrr 66 (by rw [hp.len]; omega)
     have htk : takeOk p c q = ((decide (pcAt p q ≠ 0) && decide (sideOf (pcAt p q) ≠ c)) || (decide (pcAt p q = 0) && (decide (q = p.getD 66 0) && decide (q / 8 = 5 - 3 * c)))) := rfl
     obtain ⟨y0, y1⟩ := hcs.out.2 q q0 q1
     obtain ⟨e0, e1⟩ := hep
     have hsd : 0 ≤ sideOf (pcAt p q) ∧ sideOf (pcAt p q) ≤ 1 := by unfold sideOf; split <;> omega
     obtain ⟨d0, d1⟩ := hsd
     generalize pcAt p q = y at *
     generalize p.getD 66 0 = ep at *
     have hsize := hB.size
     have hsz1 : w.heap.size + 1 ≤ wr.heap.size := by have := (Array.getElem?_eq_some_iff.1 hrr).1; omega
     have hids := show Shut _ from And.intro hst (And.intro htk (And.intro hxs (And.intro hB (And.intro hrr hkp))))
     clear hst htk hxs hB hq hrr hkp hrng
     by_cases hy : y = 0
     ·subst hy
      clear y0 y1 d0 d1
      by_cases he : q = ep ∧ q / 8 = 5 - 3 * c
      ·obtain ⟨rfl, hrk⟩ := he
       have hrk2 : (q / 8 == 5 - 3 * c) = true := by simpa using hrk
       have htrue : takeOk p c q = true := hids.out.2.1.trans (by simp [hrk])
       have hrs := show Shut _ from htrue
       clear hrk htrue
       go_wp2_with fail
       go_quiet (first | (go_at_call 90; refine quiet' (hi_side _ _ (by omega))) | (go_at_call 49; refine quiet' (po_rank _ _ (by omega) (by omega))))
       have hownq : ownInts (wr.drewN nq) (w.heap.size + 1) u6 xs := hown
       have hckq : (wr.drewN nq).cell? ⟨g2, k, none⟩ = some (.int .i64 q) := hck
       have hszq : w.heap.size + 1 ≤ (wr.drewN nq).heap.size := hsz1
       have hBq := hids.out.2.2.2.1.trans ((drewN_below wr nq).mono hsize)
       have hrq : (wr.drewN nq).heap[w.heap.size]? = some (.cells (ints p) 24 (0, 0)) := hids.out.2.2.2.2.1
       have hkq : ∀ i, i < L.length → ∃ g, some (⟨g2, 0, none⟩ : Addr) = some ⟨g, 0, none⟩ ∧ g < (wr.drewN nq).heap.size ∧ (wr.drewN nq).cell? ⟨g, i, none⟩ = some (.int .i64 (L.getD i 0)) ∧ u6.ownBlock ≠ some g := hids.out.2.2.2.2.2
       have hkqS := show Shut _ from And.intro hBq (And.intro hrq hkq)
       clear hck hcq hce hown hBq hrq hkq
       generalize wr.drewN nq = wq at *
       go_wp2_with (with_reducible refine at_appendk (esz := 1) [.int .i64 q] rfl Tryz.underlying37 hi hz0 hz1 hz2 rfl (by decide) (by decide) ?_ (w.heap.size + 1) _ _ _ hownq ?_ hszq ?_ ?_ ?_)
       ·intro u hu; simp at hu; subst hu; rfl
       ·omega
       ·rfl
       ·rfl
       intro v' w' hown' hbel' hkeep' hap' hsz'
       obtain ⟨hBq, hrq, hkq⟩ := hkqS.out
       have R : ∃ k' : Nat, k' ≤ L.length ∧ Value.int .i64 ((k : Int) + 1) = .int .i64 (k' : Int) ∧ ownInts w' (w.heap.size + 1) v' (fw ++ (L.take k').filter (takeOk p c)) ∧ Below w.heap.size w w' ∧ w'.heap[w.heap.size]? = some (.cells (ints p) 24 (0, 0)) ∧ ∀ i, i < L.length → ∃ g, some (⟨g2, 0, none⟩ : Addr) = some ⟨g, 0, none⟩ ∧ g < w'.heap.size ∧ w'.cell? ⟨g, i, none⟩ = some (.int .i64 (L.getD i 0)) ∧ v'.ownBlock ≠ some g := by
        refine ⟨k + 1, by omega, by go_num, ?_, hBq.trans (hbel'.mono (by omega)), (hbel'.block _ (by omega)).trans hrq, fun i hi => ?_⟩
        ·rw [hids.out.1, hrs.out, if_pos rfl, ← List.append_assoc, hids.out.2.2.1]
         unfold ownInts
         rw [List.length_append, List.map_append]
         exact hown'
        ·obtain ⟨g, h1, h2, h3, h4⟩ := hkq i hi
         exact ⟨g, h1, by omega, (World.cell?_of_block (a := ⟨g, i, none⟩) (hkeep' g h2 h4)).trans h3, hap' g h2 h4⟩
       have RS := show Shut _ from R
       clear R hBq hrq hkq
       go_wp2_with fail
       go_roundw
       case rel =>
        have R := RS.out
        first | exact R | ((repeat apply Exists.intro); exact ⟨R, rfl⟩)
       case measure => simp [intOf]; omega
      ·by_cases he1 : q = ep
       ·have hrk : ¬ q / 8 = 5 - 3 * c := fun h => he ⟨he1, h⟩
        subst he1
        have hrk2 : (q / 8 == 5 - 3 * c) = false := by simpa using hrk
        have hfalse : takeOk p c q = false := hids.out.2.1.trans (by simp [hrk])
        have hrs := show Shut _ from hfalse
        clear hrk he hfalse
        go_wp2_with fail
        go_quiet (first | (go_at_call 90; refine quiet' (hi_side _ _ (by omega))) | (go_at_call 49; refine quiet' (po_rank _ _ (by omega) (by omega))))
        go_wp2
        go_roundw
        case rel =>
         have R : ∃ k' : Nat, k' ≤ L.length ∧ Value.int .i64 ((k : Int) + 1) = .int .i64 (k' : Int) ∧ ownInts (wr.drewN nq) (w.heap.size + 1) u6 (fw ++ (L.take k').filter (takeOk p c)) ∧ Below w.heap.size w (wr.drewN nq) ∧ (wr.drewN nq).heap[w.heap.size]? = some (.cells (ints p) 24 (0, 0)) ∧ ∀ i, i < L.length → ∃ g, some (⟨g2, 0, none⟩ : Addr) = some ⟨g, 0, none⟩ ∧ g < (wr.drewN nq).heap.size ∧ (wr.drewN nq).cell? ⟨g, i, none⟩ = some (.int .i64 (L.getD i 0)) ∧ u6.ownBlock ≠ some g := by
          refine ⟨k + 1, by omega, by go_num, ?_, hids.out.2.2.2.1.trans ((drewN_below wr nq).mono hsize), hids.out.2.2.2.2.1, hids.out.2.2.2.2.2⟩
          rw [hids.out.1, hrs.out, if_neg (by decide), List.append_nil, hids.out.2.2.1]
          exact hown
         first | exact R | ((repeat apply Exists.intro); exact ⟨R, rfl⟩)
        case measure => simp [intOf]; omega
       ·have hrk2 : (q == ep) = false := by simpa using he1
        have hfalse : takeOk p c q = false := hids.out.2.1.trans (by simp [he1])
        have hrs := show Shut _ from hfalse
        clear he he1 hfalse
        go_wp2_with fail
        go_quiet (first | (go_at_call 90; refine quiet' (hi_side _ _ (by omega))) | (go_at_call 49; refine quiet' (po_rank _ _ (by omega) (by omega))))
        go_wp2
        go_roundw
        case rel =>
         have R : ∃ k' : Nat, k' ≤ L.length ∧ Value.int .i64 ((k : Int) + 1) = .int .i64 (k' : Int) ∧ ownInts (wr.drewN nq) (w.heap.size + 1) u6 (fw ++ (L.take k').filter (takeOk p c)) ∧ Below w.heap.size w (wr.drewN nq) ∧ (wr.drewN nq).heap[w.heap.size]? = some (.cells (ints p) 24 (0, 0)) ∧ ∀ i, i < L.length → ∃ g, some (⟨g2, 0, none⟩ : Addr) = some ⟨g, 0, none⟩ ∧ g < (wr.drewN nq).heap.size ∧ (wr.drewN nq).cell? ⟨g, i, none⟩ = some (.int .i64 (L.getD i 0)) ∧ u6.ownBlock ≠ some g := by
          refine ⟨k + 1, by omega, by go_num, ?_, hids.out.2.2.2.1.trans ((drewN_below wr nq).mono hsize), hids.out.2.2.2.2.1, hids.out.2.2.2.2.2⟩
          rw [hids.out.1, hrs.out, if_neg (by decide), List.append_nil, hids.out.2.2.1]
          exact hown
         first | exact R | ((repeat apply Exists.intro); exact ⟨R, rfl⟩)
        case measure => simp [intOf]; omega
     ·have hy1 : (y == 0) = false := by simpa using hy
      have hy2 : (y != 0) = true := by simpa using hy
      by_cases hs : sideOf y = c
      ·have hs2 : (sideOf y != c) = false := by simpa using hs
       have hfalse : takeOk p c q = false := hids.out.2.1.trans (by simp [hy, hs])
       have hrs := show Shut _ from hfalse
       clear hs hy hfalse
       go_wp2_with fail
       go_quiet (first | (go_at_call 90; refine quiet' (hi_side _ _ (by omega))) | (go_at_call 49; refine quiet' (po_rank _ _ (by omega) (by omega))))
       go_wp2
       go_roundw
       case rel =>
        have R : ∃ k' : Nat, k' ≤ L.length ∧ Value.int .i64 ((k : Int) + 1) = .int .i64 (k' : Int) ∧ ownInts (wr.drewN nq) (w.heap.size + 1) u6 (fw ++ (L.take k').filter (takeOk p c)) ∧ Below w.heap.size w (wr.drewN nq) ∧ (wr.drewN nq).heap[w.heap.size]? = some (.cells (ints p) 24 (0, 0)) ∧ ∀ i, i < L.length → ∃ g, some (⟨g2, 0, none⟩ : Addr) = some ⟨g, 0, none⟩ ∧ g < (wr.drewN nq).heap.size ∧ (wr.drewN nq).cell? ⟨g, i, none⟩ = some (.int .i64 (L.getD i 0)) ∧ u6.ownBlock ≠ some g := by
         refine ⟨k + 1, by omega, by go_num, ?_, hids.out.2.2.2.1.trans ((drewN_below wr nq).mono hsize), hids.out.2.2.2.2.1, hids.out.2.2.2.2.2⟩
         rw [hids.out.1, hrs.out, if_neg (by decide), List.append_nil, hids.out.2.2.1]
         exact hown
        first | exact R | ((repeat apply Exists.intro); exact ⟨R, rfl⟩)
       case measure => simp [intOf]; omega
      ·have hs2 : (sideOf y != c) = true := by simpa using hs
       have htrue : takeOk p c q = true := hids.out.2.1.trans (by simp [hy, hs])
       have hrs := show Shut _ from htrue
       clear hs hy htrue
       go_wp2_with fail
       go_quiet (first | (go_at_call 90; refine quiet' (hi_side _ _ (by omega))) | (go_at_call 49; refine quiet' (po_rank _ _ (by omega) (by omega))))
       have hownq : ownInts (wr.drewN nq) (w.heap.size + 1) u6 xs := hown
       have hckq : (wr.drewN nq).cell? ⟨g2, k, none⟩ = some (.int .i64 q) := hck
       have hszq : w.heap.size + 1 ≤ (wr.drewN nq).heap.size := hsz1
       have hBq := hids.out.2.2.2.1.trans ((drewN_below wr nq).mono hsize)
       have hrq : (wr.drewN nq).heap[w.heap.size]? = some (.cells (ints p) 24 (0, 0)) := hids.out.2.2.2.2.1
       have hkq : ∀ i, i < L.length → ∃ g, some (⟨g2, 0, none⟩ : Addr) = some ⟨g, 0, none⟩ ∧ g < (wr.drewN nq).heap.size ∧ (wr.drewN nq).cell? ⟨g, i, none⟩ = some (.int .i64 (L.getD i 0)) ∧ u6.ownBlock ≠ some g := hids.out.2.2.2.2.2
       have hkqS := show Shut _ from And.intro hBq (And.intro hrq hkq)
       clear hck hcq hce hown hBq hrq hkq
       generalize wr.drewN nq = wq at *
       go_wp2_with (with_reducible refine at_appendk (esz := 1) [.int .i64 q] rfl Tryz.underlying37 hi hz0 hz1 hz2 rfl (by decide) (by decide) ?_ (w.heap.size + 1) _ _ _ hownq ?_ hszq ?_ ?_ ?_)
       ·intro u hu; simp at hu; subst hu; rfl
       ·omega
       ·rfl
       ·rfl
       intro v' w' hown' hbel' hkeep' hap' hsz'
       obtain ⟨hBq, hrq, hkq⟩ := hkqS.out
       have R : ∃ k' : Nat, k' ≤ L.length ∧ Value.int .i64 ((k : Int) + 1) = .int .i64 (k' : Int) ∧ ownInts w' (w.heap.size + 1) v' (fw ++ (L.take k').filter (takeOk p c)) ∧ Below w.heap.size w w' ∧ w'.heap[w.heap.size]? = some (.cells (ints p) 24 (0, 0)) ∧ ∀ i, i < L.length → ∃ g, some (⟨g2, 0, none⟩ : Addr) = some ⟨g, 0, none⟩ ∧ g < w'.heap.size ∧ w'.cell? ⟨g, i, none⟩ = some (.int .i64 (L.getD i 0)) ∧ v'.ownBlock ≠ some g := by
        refine ⟨k + 1, by omega, by go_num, ?_, hBq.trans (hbel'.mono (by omega)), (hbel'.block _ (by omega)).trans hrq, fun i hi => ?_⟩
        ·rw [hids.out.1, hrs.out, if_pos rfl, ← List.append_assoc, hids.out.2.2.1]
         unfold ownInts
         rw [List.length_append, List.map_append]
         exact hown'
        ·obtain ⟨g, h1, h2, h3, h4⟩ := hkq i hi
         exact ⟨g, h1, by omega, (World.cell?_of_block (a := ⟨g, i, none⟩) (hkeep' g h2 h4)).trans h3, hap' g h2 h4⟩
       have RS := show Shut _ from R
       clear R hBq hrq hkq
       go_wp2_with fail
       go_roundw
       case rel =>
        have R := RS.out
        first | exact R | ((repeat apply Exists.intro); exact ⟨R, rfl⟩)
       case measure => simp [intOf]; omega
    ·obtain rfl : k = L.length := by omega
     clear hkp
     go_wp2_with fail
     go_ret
     have hfin := hown
     rw [List.take_length] at hfin
     exact ⟨_, rfl, by rw [hTs.out]; exact own_mono hfin (by omega), hB⟩
 ·have hfeq : fw = [] := by have h := hfs.out.1; rw [if_neg hA] at h; exact h
  have hszW : w.heap.size < W0.heap.size := by omega
  have hrowW := hrow
  have hAs := show Shut _ from And.intro hA hfeq
  clear hfeq
  by_cases ho : 0 ≤ o
  ·have hne : pcAt p o ≠ 0 := fun h => hA ⟨ho, h⟩
   have co := hcs.out.1 o ho (by omega)
   have hne2 : (pcAt p o == 0) = false := by simpa using hne
   generalize pcAt p o = z at *
   clear hA hne
   go_wp2_with (first
    | (go_at_call 48; refine (hfs.out.2.2.1 _).mono ?_; rintro e1 w1 ⟨rfl, rfl⟩)
    | (go_at_call 88; refine (po_file _ _ (by omega) (by omega)).mono ?_; rintro e1 w1 ⟨rfl, rfl⟩)
    | (go_at_call 49; refine (po_rank _ _ (by omega) (by omega)).mono ?_; rintro e1 w1 ⟨rfl, rfl⟩)
    | (go_at_call 112; refine (hi_up _ _ (by omega) (by omega)).mono ?_; rintro e1 w1 ⟨rfl, rfl⟩))
   have hfeq := hAs.out.2
   have hownW : ownInts W0 (w.heap.size + 1) (Value.slice none 0 0) fw := by rw [hfeq]; exact World.ownsRow_nil _ _ _ _
   have hBw := hBW
   have hsw := hBw.size
   refine (ht_hits s c s0 s1 c0 c1 W0).mono ?_
   rintro e2 w2 ⟨v2, rfl, hown2, hb2⟩
   obtain ⟨a2, cap2, rfl, hcells⟩ := ints_slice hown2
   have hownX := hownW.below hb2
   have hlt1 : ∀ g, ((Value.slice none 0 0)).ownBlock = some g → g < (W0).heap.size := fun g hg => (hownW.lt g hg).2
   have hB2 := hBw.trans (hb2.mono (by omega))
   have hrow2 := (hb2.block w.heap.size (by have := hszW; omega)).trans hrowW
   have hrng := hitL_range s c
   have hlen := hitTo_le s c 2
   have hfle : fw.length ≤ 2 := by have := fwd_le p s c; rw [hflS.out] at this; exact this
   change (hitL s c).length ≤ 2 at hlen
   have hkeep : ∀ i, i < (hitL s c).length → ∃ g, a2 = some ⟨g, 0, none⟩ ∧ g < w2.heap.size ∧ w2.cell? ⟨g, i, none⟩ = some (.int .i64 ((hitL s c).getD i 0)) ∧ ((Value.slice none 0 0)).ownBlock ≠ some g := fun i hi => by
    obtain ⟨g, h1, h2, h3, h4⟩ := hcells i hi
    exact ⟨g, h1, h3, h4, fun e => by have := hlt1 g e; omega⟩
   generalize hitL s c = L at *
   clear hownW hBw hown2 hb2 hrowW hcells hlt1
   go_wp2_with fail
   go_loopw [6, 10] (fun l i wr => ∃ k : Nat, k ≤ L.length ∧ i = .int .i64 (k : Int) ∧ ownInts wr (w.heap.size + 1) l (fw ++ (L.take k).filter (takeOk p c)) ∧ Below w.heap.size w wr ∧ wr.heap[w.heap.size]? = some (.cells (ints p) 24 (0, 0)) ∧ ∀ i, i < L.length → ∃ g, a2 = some ⟨g, 0, none⟩ ∧ g < wr.heap.size ∧ wr.cell? ⟨g, i, none⟩ = some (.int .i64 (L.getD i 0)) ∧ l.ownBlock ≠ some g) (fun _ i _ => L.length - (intOf i).toNat)
   case atStart => exact ⟨0, by omega, rfl, by simpa using hownX, hB2, hrow2, hkeep⟩
   case round =>
    clear hownX hB2 hrow2 hkeep
    obtain ⟨k, hk, rfl, hown, hB, hrr, hkp⟩ := hrel
    by_cases hlt : k < L.length
    ·obtain ⟨g2, rfl, hg2, hck, hng⟩ := hkp k hlt
     have hst := take_filter (takeOk p c) L k hlt
     obtain ⟨q0, q1⟩ := hrng (L.getD k 0) (by simp [hlt])
     have hlf : (fw ++ (L.take k).filter (takeOk p c)).length ≤ 4 := by
      have h1 := List.length_filter_le (takeOk p c) (L.take k)
      have h2 : (L.take k).length ≤ k := List.length_take_le _ _
      rw [List.length_append]
      omega
     generalize hq : L.getD k 0 = q at *
     generalize hxs : fw ++ (L.take k).filter (takeOk p c) = xs at *
     have hcq : wr.cell? ⟨w.heap.size, q.toNat, none⟩ = some (.int .i64 (pcAt p q)) := row_cell hrr q.toNat (by rw [hp.len]; omega)
     have hce : wr.cell? ⟨w.heap.size, 66, none⟩ = some (.int .i64 (p.getD 66 0)) := row_cell hrr 66 (by rw [hp.len]; omega)
     have htk : takeOk p c q = ((decide (pcAt p q ≠ 0) && decide (sideOf (pcAt p q) ≠ c)) || (decide (pcAt p q = 0) && (decide (q = p.getD 66 0) && decide (q / 8 = 5 - 3 * c)))) := rfl
     obtain ⟨y0, y1⟩ := hcs.out.2 q q0 q1
     obtain ⟨e0, e1⟩ := hep
     have hsd : 0 ≤ sideOf (pcAt p q) ∧ sideOf (pcAt p q) ≤ 1 := by unfold sideOf; split <;> omega
     obtain ⟨d0, d1⟩ := hsd
     generalize pcAt p q = y at *
     generalize p.getD 66 0 = ep at *
     have hsize := hB.size
     have hsz1 : w.heap.size + 1 ≤ wr.heap.size := by have := (Array.getElem?_eq_some_iff.1 hrr).1; omega
     have hids := show Shut _ from And.intro hst (And.intro htk (And.intro hxs (And.intro hB (And.intro hrr hkp))))
     clear hst htk hxs hB hq hrr hkp hrng
     by_cases hy : y = 0
     ·subst hy
      clear y0 y1 d0 d1
      by_cases he : q = ep ∧ q / 8 = 5 - 3 * c
      ·obtain ⟨rfl, hrk⟩ := he
       have hrk2 : (q / 8 == 5 - 3 * c) = true := by simpa using hrk
       have htrue : takeOk p c q = true := hids.out.2.1.trans (by simp [hrk])
       have hrs := show Shut _ from htrue
       clear hrk htrue
       go_wp2_with fail
       go_quiet (first | (go_at_call 90; refine quiet' (hi_side _ _ (by omega))) | (go_at_call 49; refine quiet' (po_rank _ _ (by omega) (by omega))))
       have hownq : ownInts (wr.drewN nq) (w.heap.size + 1) u6 xs := hown
       have hckq : (wr.drewN nq).cell? ⟨g2, k, none⟩ = some (.int .i64 q) := hck
       have hszq : w.heap.size + 1 ≤ (wr.drewN nq).heap.size := hsz1
       have hBq := hids.out.2.2.2.1.trans ((drewN_below wr nq).mono hsize)
       have hrq : (wr.drewN nq).heap[w.heap.size]? = some (.cells (ints p) 24 (0, 0)) := hids.out.2.2.2.2.1
       have hkq : ∀ i, i < L.length → ∃ g, some (⟨g2, 0, none⟩ : Addr) = some ⟨g, 0, none⟩ ∧ g < (wr.drewN nq).heap.size ∧ (wr.drewN nq).cell? ⟨g, i, none⟩ = some (.int .i64 (L.getD i 0)) ∧ u6.ownBlock ≠ some g := hids.out.2.2.2.2.2
       have hkqS := show Shut _ from And.intro hBq (And.intro hrq hkq)
       clear hck hcq hce hown hBq hrq hkq
       generalize wr.drewN nq = wq at *
       go_wp2_with (with_reducible refine at_appendk (esz := 1) [.int .i64 q] rfl Tryz.underlying37 hi hz0 hz1 hz2 rfl (by decide) (by decide) ?_ (w.heap.size + 1) _ _ _ hownq ?_ hszq ?_ ?_ ?_)
       ·intro u hu; simp at hu; subst hu; rfl
       ·omega
       ·rfl
       ·rfl
       intro v' w' hown' hbel' hkeep' hap' hsz'
       obtain ⟨hBq, hrq, hkq⟩ := hkqS.out
       have R : ∃ k' : Nat, k' ≤ L.length ∧ Value.int .i64 ((k : Int) + 1) = .int .i64 (k' : Int) ∧ ownInts w' (w.heap.size + 1) v' (fw ++ (L.take k').filter (takeOk p c)) ∧ Below w.heap.size w w' ∧ w'.heap[w.heap.size]? = some (.cells (ints p) 24 (0, 0)) ∧ ∀ i, i < L.length → ∃ g, some (⟨g2, 0, none⟩ : Addr) = some ⟨g, 0, none⟩ ∧ g < w'.heap.size ∧ w'.cell? ⟨g, i, none⟩ = some (.int .i64 (L.getD i 0)) ∧ v'.ownBlock ≠ some g := by
        refine ⟨k + 1, by omega, by go_num, ?_, hBq.trans (hbel'.mono (by omega)), (hbel'.block _ (by omega)).trans hrq, fun i hi => ?_⟩
        ·rw [hids.out.1, hrs.out, if_pos rfl, ← List.append_assoc, hids.out.2.2.1]
         unfold ownInts
         rw [List.length_append, List.map_append]
         exact hown'
        ·obtain ⟨g, h1, h2, h3, h4⟩ := hkq i hi
         exact ⟨g, h1, by omega, (World.cell?_of_block (a := ⟨g, i, none⟩) (hkeep' g h2 h4)).trans h3, hap' g h2 h4⟩
       have RS := show Shut _ from R
       clear R hBq hrq hkq
       go_wp2_with fail
       go_roundw
       case rel =>
        have R := RS.out
        first | exact R | ((repeat apply Exists.intro); exact ⟨R, rfl⟩)
       case measure => simp [intOf]; omega
      ·by_cases he1 : q = ep
       ·have hrk : ¬ q / 8 = 5 - 3 * c := fun h => he ⟨he1, h⟩
        subst he1
        have hrk2 : (q / 8 == 5 - 3 * c) = false := by simpa using hrk
        have hfalse : takeOk p c q = false := hids.out.2.1.trans (by simp [hrk])
        have hrs := show Shut _ from hfalse
        clear hrk he hfalse
        go_wp2_with fail
        go_quiet (first | (go_at_call 90; refine quiet' (hi_side _ _ (by omega))) | (go_at_call 49; refine quiet' (po_rank _ _ (by omega) (by omega))))
        go_wp2
        go_roundw
        case rel =>
         have R : ∃ k' : Nat, k' ≤ L.length ∧ Value.int .i64 ((k : Int) + 1) = .int .i64 (k' : Int) ∧ ownInts (wr.drewN nq) (w.heap.size + 1) u6 (fw ++ (L.take k').filter (takeOk p c)) ∧ Below w.heap.size w (wr.drewN nq) ∧ (wr.drewN nq).heap[w.heap.size]? = some (.cells (ints p) 24 (0, 0)) ∧ ∀ i, i < L.length → ∃ g, some (⟨g2, 0, none⟩ : Addr) = some ⟨g, 0, none⟩ ∧ g < (wr.drewN nq).heap.size ∧ (wr.drewN nq).cell? ⟨g, i, none⟩ = some (.int .i64 (L.getD i 0)) ∧ u6.ownBlock ≠ some g := by
          refine ⟨k + 1, by omega, by go_num, ?_, hids.out.2.2.2.1.trans ((drewN_below wr nq).mono hsize), hids.out.2.2.2.2.1, hids.out.2.2.2.2.2⟩
          rw [hids.out.1, hrs.out, if_neg (by decide), List.append_nil, hids.out.2.2.1]
          exact hown
         first | exact R | ((repeat apply Exists.intro); exact ⟨R, rfl⟩)
        case measure => simp [intOf]; omega
       ·have hrk2 : (q == ep) = false := by simpa using he1
        have hfalse : takeOk p c q = false := hids.out.2.1.trans (by simp [he1])
        have hrs := show Shut _ from hfalse
        clear he he1 hfalse
        go_wp2_with fail
        go_quiet (first | (go_at_call 90; refine quiet' (hi_side _ _ (by omega))) | (go_at_call 49; refine quiet' (po_rank _ _ (by omega) (by omega))))
        go_wp2
        go_roundw
        case rel =>
         have R : ∃ k' : Nat, k' ≤ L.length ∧ Value.int .i64 ((k : Int) + 1) = .int .i64 (k' : Int) ∧ ownInts (wr.drewN nq) (w.heap.size + 1) u6 (fw ++ (L.take k').filter (takeOk p c)) ∧ Below w.heap.size w (wr.drewN nq) ∧ (wr.drewN nq).heap[w.heap.size]? = some (.cells (ints p) 24 (0, 0)) ∧ ∀ i, i < L.length → ∃ g, some (⟨g2, 0, none⟩ : Addr) = some ⟨g, 0, none⟩ ∧ g < (wr.drewN nq).heap.size ∧ (wr.drewN nq).cell? ⟨g, i, none⟩ = some (.int .i64 (L.getD i 0)) ∧ u6.ownBlock ≠ some g := by
          refine ⟨k + 1, by omega, by go_num, ?_, hids.out.2.2.2.1.trans ((drewN_below wr nq).mono hsize), hids.out.2.2.2.2.1, hids.out.2.2.2.2.2⟩
          rw [hids.out.1, hrs.out, if_neg (by decide), List.append_nil, hids.out.2.2.1]
          exact hown
         first | exact R | ((repeat apply Exists.intro); exact ⟨R, rfl⟩)
        case measure => simp [intOf]; omega
     ·have hy1 : (y == 0) = false := by simpa using hy
      have hy2 : (y != 0) = true := by simpa using hy
      by_cases hs : sideOf y = c
      ·have hs2 : (sideOf y != c) = false := by simpa using hs
       have hfalse : takeOk p c q = false := hids.out.2.1.trans (by simp [hy, hs])
       have hrs := show Shut _ from hfalse
       clear hs hy hfalse
       go_wp2_with fail
       go_quiet (first | (go_at_call 90; refine quiet' (hi_side _ _ (by omega))) | (go_at_call 49; refine quiet' (po_rank _ _ (by omega) (by omega))))
       go_wp2
       go_roundw
       case rel =>
        have R : ∃ k' : Nat, k' ≤ L.length ∧ Value.int .i64 ((k : Int) + 1) = .int .i64 (k' : Int) ∧ ownInts (wr.drewN nq) (w.heap.size + 1) u6 (fw ++ (L.take k').filter (takeOk p c)) ∧ Below w.heap.size w (wr.drewN nq) ∧ (wr.drewN nq).heap[w.heap.size]? = some (.cells (ints p) 24 (0, 0)) ∧ ∀ i, i < L.length → ∃ g, some (⟨g2, 0, none⟩ : Addr) = some ⟨g, 0, none⟩ ∧ g < (wr.drewN nq).heap.size ∧ (wr.drewN nq).cell? ⟨g, i, none⟩ = some (.int .i64 (L.getD i 0)) ∧ u6.ownBlock ≠ some g := by
         refine ⟨k + 1, by omega, by go_num, ?_, hids.out.2.2.2.1.trans ((drewN_below wr nq).mono hsize), hids.out.2.2.2.2.1, hids.out.2.2.2.2.2⟩
         rw [hids.out.1, hrs.out, if_neg (by decide), List.append_nil, hids.out.2.2.1]
         exact hown
        first | exact R | ((repeat apply Exists.intro); exact ⟨R, rfl⟩)
       case measure => simp [intOf]; omega
      ·have hs2 : (sideOf y != c) = true := by simpa using hs
       have htrue : takeOk p c q = true := hids.out.2.1.trans (by simp [hy, hs])
       have hrs := show Shut _ from htrue
       clear hs hy htrue
       go_wp2_with fail
       go_quiet (first | (go_at_call 90; refine quiet' (hi_side _ _ (by omega))) | (go_at_call 49; refine quiet' (po_rank _ _ (by omega) (by omega))))
       have hownq : ownInts (wr.drewN nq) (w.heap.size + 1) u6 xs := hown
       have hckq : (wr.drewN nq).cell? ⟨g2, k, none⟩ = some (.int .i64 q) := hck
       have hszq : w.heap.size + 1 ≤ (wr.drewN nq).heap.size := hsz1
       have hBq := hids.out.2.2.2.1.trans ((drewN_below wr nq).mono hsize)
       have hrq : (wr.drewN nq).heap[w.heap.size]? = some (.cells (ints p) 24 (0, 0)) := hids.out.2.2.2.2.1
       have hkq : ∀ i, i < L.length → ∃ g, some (⟨g2, 0, none⟩ : Addr) = some ⟨g, 0, none⟩ ∧ g < (wr.drewN nq).heap.size ∧ (wr.drewN nq).cell? ⟨g, i, none⟩ = some (.int .i64 (L.getD i 0)) ∧ u6.ownBlock ≠ some g := hids.out.2.2.2.2.2
       have hkqS := show Shut _ from And.intro hBq (And.intro hrq hkq)
       clear hck hcq hce hown hBq hrq hkq
       generalize wr.drewN nq = wq at *
       go_wp2_with (with_reducible refine at_appendk (esz := 1) [.int .i64 q] rfl Tryz.underlying37 hi hz0 hz1 hz2 rfl (by decide) (by decide) ?_ (w.heap.size + 1) _ _ _ hownq ?_ hszq ?_ ?_ ?_)
       ·intro u hu; simp at hu; subst hu; rfl
       ·omega
       ·rfl
       ·rfl
       intro v' w' hown' hbel' hkeep' hap' hsz'
       obtain ⟨hBq, hrq, hkq⟩ := hkqS.out
       have R : ∃ k' : Nat, k' ≤ L.length ∧ Value.int .i64 ((k : Int) + 1) = .int .i64 (k' : Int) ∧ ownInts w' (w.heap.size + 1) v' (fw ++ (L.take k').filter (takeOk p c)) ∧ Below w.heap.size w w' ∧ w'.heap[w.heap.size]? = some (.cells (ints p) 24 (0, 0)) ∧ ∀ i, i < L.length → ∃ g, some (⟨g2, 0, none⟩ : Addr) = some ⟨g, 0, none⟩ ∧ g < w'.heap.size ∧ w'.cell? ⟨g, i, none⟩ = some (.int .i64 (L.getD i 0)) ∧ v'.ownBlock ≠ some g := by
        refine ⟨k + 1, by omega, by go_num, ?_, hBq.trans (hbel'.mono (by omega)), (hbel'.block _ (by omega)).trans hrq, fun i hi => ?_⟩
        ·rw [hids.out.1, hrs.out, if_pos rfl, ← List.append_assoc, hids.out.2.2.1]
         unfold ownInts
         rw [List.length_append, List.map_append]
         exact hown'
        ·obtain ⟨g, h1, h2, h3, h4⟩ := hkq i hi
         exact ⟨g, h1, by omega, (World.cell?_of_block (a := ⟨g, i, none⟩) (hkeep' g h2 h4)).trans h3, hap' g h2 h4⟩
       have RS := show Shut _ from R
       clear R hBq hrq hkq
       go_wp2_with fail
       go_roundw
       case rel =>
        have R := RS.out
        first | exact R | ((repeat apply Exists.intro); exact ⟨R, rfl⟩)
       case measure => simp [intOf]; omega
    ·obtain rfl : k = L.length := by omega
     clear hkp
     go_wp2_with fail
     go_ret
     have hfin := hown
     rw [List.take_length] at hfin
     exact ⟨_, rfl, by rw [hTs.out]; exact own_mono hfin (by omega), hB⟩
  ·clear hA
   go_wp2_with (first
    | (go_at_call 48; refine (hfs.out.2.2.1 _).mono ?_; rintro e1 w1 ⟨rfl, rfl⟩)
    | (go_at_call 88; refine (po_file _ _ (by omega) (by omega)).mono ?_; rintro e1 w1 ⟨rfl, rfl⟩)
    | (go_at_call 49; refine (po_rank _ _ (by omega) (by omega)).mono ?_; rintro e1 w1 ⟨rfl, rfl⟩)
    | (go_at_call 112; refine (hi_up _ _ (by omega) (by omega)).mono ?_; rintro e1 w1 ⟨rfl, rfl⟩))
   have hfeq := hAs.out.2
   have hownW : ownInts W0 (w.heap.size + 1) (Value.slice none 0 0) fw := by rw [hfeq]; exact World.ownsRow_nil _ _ _ _
   have hBw := hBW
   have hsw := hBw.size
   refine (ht_hits s c s0 s1 c0 c1 W0).mono ?_
   rintro e2 w2 ⟨v2, rfl, hown2, hb2⟩
   obtain ⟨a2, cap2, rfl, hcells⟩ := ints_slice hown2
   have hownX := hownW.below hb2
   have hlt1 : ∀ g, ((Value.slice none 0 0)).ownBlock = some g → g < (W0).heap.size := fun g hg => (hownW.lt g hg).2
   have hB2 := hBw.trans (hb2.mono (by omega))
   have hrow2 := (hb2.block w.heap.size (by have := hszW; omega)).trans hrowW
   have hrng := hitL_range s c
   have hlen := hitTo_le s c 2
   have hfle : fw.length ≤ 2 := by have := fwd_le p s c; rw [hflS.out] at this; exact this
   change (hitL s c).length ≤ 2 at hlen
   have hkeep : ∀ i, i < (hitL s c).length → ∃ g, a2 = some ⟨g, 0, none⟩ ∧ g < w2.heap.size ∧ w2.cell? ⟨g, i, none⟩ = some (.int .i64 ((hitL s c).getD i 0)) ∧ ((Value.slice none 0 0)).ownBlock ≠ some g := fun i hi => by
    obtain ⟨g, h1, h2, h3, h4⟩ := hcells i hi
    exact ⟨g, h1, h3, h4, fun e => by have := hlt1 g e; omega⟩
   generalize hitL s c = L at *
   clear hownW hBw hown2 hb2 hrowW hcells hlt1
   go_wp2_with fail
   go_loopw [6, 10] (fun l i wr => ∃ k : Nat, k ≤ L.length ∧ i = .int .i64 (k : Int) ∧ ownInts wr (w.heap.size + 1) l (fw ++ (L.take k).filter (takeOk p c)) ∧ Below w.heap.size w wr ∧ wr.heap[w.heap.size]? = some (.cells (ints p) 24 (0, 0)) ∧ ∀ i, i < L.length → ∃ g, a2 = some ⟨g, 0, none⟩ ∧ g < wr.heap.size ∧ wr.cell? ⟨g, i, none⟩ = some (.int .i64 (L.getD i 0)) ∧ l.ownBlock ≠ some g) (fun _ i _ => L.length - (intOf i).toNat)
   case atStart => exact ⟨0, by omega, rfl, by simpa using hownX, hB2, hrow2, hkeep⟩
   case round =>
    clear hownX hB2 hrow2 hkeep
    obtain ⟨k, hk, rfl, hown, hB, hrr, hkp⟩ := hrel
    by_cases hlt : k < L.length
    ·obtain ⟨g2, rfl, hg2, hck, hng⟩ := hkp k hlt
     have hst := take_filter (takeOk p c) L k hlt
     obtain ⟨q0, q1⟩ := hrng (L.getD k 0) (by simp [hlt])
     have hlf : (fw ++ (L.take k).filter (takeOk p c)).length ≤ 4 := by
      have h1 := List.length_filter_le (takeOk p c) (L.take k)
      have h2 : (L.take k).length ≤ k := List.length_take_le _ _
      rw [List.length_append]
      omega
     generalize hq : L.getD k 0 = q at *
     generalize hxs : fw ++ (L.take k).filter (takeOk p c) = xs at *
     have hcq : wr.cell? ⟨w.heap.size, q.toNat, none⟩ = some (.int .i64 (pcAt p q)) := row_cell hrr q.toNat (by rw [hp.len]; omega)
     have hce : wr.cell? ⟨w.heap.size, 66, none⟩ = some (.int .i64 (p.getD 66 0)) := row_cell hrr 66 (by rw [hp.len]; omega)
     have htk : takeOk p c q = ((decide (pcAt p q ≠ 0) && decide (sideOf (pcAt p q) ≠ c)) || (decide (pcAt p q = 0) && (decide (q = p.getD 66 0) && decide (q / 8 = 5 - 3 * c)))) := rfl
     obtain ⟨y0, y1⟩ := hcs.out.2 q q0 q1
     obtain ⟨e0, e1⟩ := hep
     have hsd : 0 ≤ sideOf (pcAt p q) ∧ sideOf (pcAt p q) ≤ 1 := by unfold sideOf; split <;> omega
     obtain ⟨d0, d1⟩ := hsd
     generalize pcAt p q = y at *
     generalize p.getD 66 0 = ep at *
     have hsize := hB.size
     have hsz1 : w.heap.size + 1 ≤ wr.heap.size := by have := (Array.getElem?_eq_some_iff.1 hrr).1; omega
     have hids := show Shut _ from And.intro hst (And.intro htk (And.intro hxs (And.intro hB (And.intro hrr hkp))))
     clear hst htk hxs hB hq hrr hkp hrng
     by_cases hy : y = 0
     ·subst hy
      clear y0 y1 d0 d1
      by_cases he : q = ep ∧ q / 8 = 5 - 3 * c
      ·obtain ⟨rfl, hrk⟩ := he
       have hrk2 : (q / 8 == 5 - 3 * c) = true := by simpa using hrk
       have htrue : takeOk p c q = true := hids.out.2.1.trans (by simp [hrk])
       have hrs := show Shut _ from htrue
       clear hrk htrue
       go_wp2_with fail
       go_quiet (first | (go_at_call 90; refine quiet' (hi_side _ _ (by omega))) | (go_at_call 49; refine quiet' (po_rank _ _ (by omega) (by omega))))
       have hownq : ownInts (wr.drewN nq) (w.heap.size + 1) u6 xs := hown
       have hckq : (wr.drewN nq).cell? ⟨g2, k, none⟩ = some (.int .i64 q) := hck
       have hszq : w.heap.size + 1 ≤ (wr.drewN nq).heap.size := hsz1
       have hBq := hids.out.2.2.2.1.trans ((drewN_below wr nq).mono hsize)
       have hrq : (wr.drewN nq).heap[w.heap.size]? = some (.cells (ints p) 24 (0, 0)) := hids.out.2.2.2.2.1
       have hkq : ∀ i, i < L.length → ∃ g, some (⟨g2, 0, none⟩ : Addr) = some ⟨g, 0, none⟩ ∧ g < (wr.drewN nq).heap.size ∧ (wr.drewN nq).cell? ⟨g, i, none⟩ = some (.int .i64 (L.getD i 0)) ∧ u6.ownBlock ≠ some g := hids.out.2.2.2.2.2
       have hkqS := show Shut _ from And.intro hBq (And.intro hrq hkq)
       clear hck hcq hce hown hBq hrq hkq
       generalize wr.drewN nq = wq at *
       go_wp2_with (with_reducible refine at_appendk (esz := 1) [.int .i64 q] rfl Tryz.underlying37 hi hz0 hz1 hz2 rfl (by decide) (by decide) ?_ (w.heap.size + 1) _ _ _ hownq ?_ hszq ?_ ?_ ?_)
       ·intro u hu; simp at hu; subst hu; rfl
       ·omega
       ·rfl
       ·rfl
       intro v' w' hown' hbel' hkeep' hap' hsz'
       obtain ⟨hBq, hrq, hkq⟩ := hkqS.out
       have R : ∃ k' : Nat, k' ≤ L.length ∧ Value.int .i64 ((k : Int) + 1) = .int .i64 (k' : Int) ∧ ownInts w' (w.heap.size + 1) v' (fw ++ (L.take k').filter (takeOk p c)) ∧ Below w.heap.size w w' ∧ w'.heap[w.heap.size]? = some (.cells (ints p) 24 (0, 0)) ∧ ∀ i, i < L.length → ∃ g, some (⟨g2, 0, none⟩ : Addr) = some ⟨g, 0, none⟩ ∧ g < w'.heap.size ∧ w'.cell? ⟨g, i, none⟩ = some (.int .i64 (L.getD i 0)) ∧ v'.ownBlock ≠ some g := by
        refine ⟨k + 1, by omega, by go_num, ?_, hBq.trans (hbel'.mono (by omega)), (hbel'.block _ (by omega)).trans hrq, fun i hi => ?_⟩
        ·rw [hids.out.1, hrs.out, if_pos rfl, ← List.append_assoc, hids.out.2.2.1]
         unfold ownInts
         rw [List.length_append, List.map_append]
         exact hown'
        ·obtain ⟨g, h1, h2, h3, h4⟩ := hkq i hi
         exact ⟨g, h1, by omega, (World.cell?_of_block (a := ⟨g, i, none⟩) (hkeep' g h2 h4)).trans h3, hap' g h2 h4⟩
       have RS := show Shut _ from R
       clear R hBq hrq hkq
       go_wp2_with fail
       go_roundw
       case rel =>
        have R := RS.out
        first | exact R | ((repeat apply Exists.intro); exact ⟨R, rfl⟩)
       case measure => simp [intOf]; omega
      ·by_cases he1 : q = ep
       ·have hrk : ¬ q / 8 = 5 - 3 * c := fun h => he ⟨he1, h⟩
        subst he1
        have hrk2 : (q / 8 == 5 - 3 * c) = false := by simpa using hrk
        have hfalse : takeOk p c q = false := hids.out.2.1.trans (by simp [hrk])
        have hrs := show Shut _ from hfalse
        clear hrk he hfalse
        go_wp2_with fail
        go_quiet (first | (go_at_call 90; refine quiet' (hi_side _ _ (by omega))) | (go_at_call 49; refine quiet' (po_rank _ _ (by omega) (by omega))))
        go_wp2
        go_roundw
        case rel =>
         have R : ∃ k' : Nat, k' ≤ L.length ∧ Value.int .i64 ((k : Int) + 1) = .int .i64 (k' : Int) ∧ ownInts (wr.drewN nq) (w.heap.size + 1) u6 (fw ++ (L.take k').filter (takeOk p c)) ∧ Below w.heap.size w (wr.drewN nq) ∧ (wr.drewN nq).heap[w.heap.size]? = some (.cells (ints p) 24 (0, 0)) ∧ ∀ i, i < L.length → ∃ g, some (⟨g2, 0, none⟩ : Addr) = some ⟨g, 0, none⟩ ∧ g < (wr.drewN nq).heap.size ∧ (wr.drewN nq).cell? ⟨g, i, none⟩ = some (.int .i64 (L.getD i 0)) ∧ u6.ownBlock ≠ some g := by
          refine ⟨k + 1, by omega, by go_num, ?_, hids.out.2.2.2.1.trans ((drewN_below wr nq).mono hsize), hids.out.2.2.2.2.1, hids.out.2.2.2.2.2⟩
          rw [hids.out.1, hrs.out, if_neg (by decide), List.append_nil, hids.out.2.2.1]
          exact hown
         first | exact R | ((repeat apply Exists.intro); exact ⟨R, rfl⟩)
        case measure => simp [intOf]; omega
       ·have hrk2 : (q == ep) = false := by simpa using he1
        have hfalse : takeOk p c q = false := hids.out.2.1.trans (by simp [he1])
        have hrs := show Shut _ from hfalse
        clear he he1 hfalse
        go_wp2_with fail
        go_quiet (first | (go_at_call 90; refine quiet' (hi_side _ _ (by omega))) | (go_at_call 49; refine quiet' (po_rank _ _ (by omega) (by omega))))
        go_wp2
        go_roundw
        case rel =>
         have R : ∃ k' : Nat, k' ≤ L.length ∧ Value.int .i64 ((k : Int) + 1) = .int .i64 (k' : Int) ∧ ownInts (wr.drewN nq) (w.heap.size + 1) u6 (fw ++ (L.take k').filter (takeOk p c)) ∧ Below w.heap.size w (wr.drewN nq) ∧ (wr.drewN nq).heap[w.heap.size]? = some (.cells (ints p) 24 (0, 0)) ∧ ∀ i, i < L.length → ∃ g, some (⟨g2, 0, none⟩ : Addr) = some ⟨g, 0, none⟩ ∧ g < (wr.drewN nq).heap.size ∧ (wr.drewN nq).cell? ⟨g, i, none⟩ = some (.int .i64 (L.getD i 0)) ∧ u6.ownBlock ≠ some g := by
          refine ⟨k + 1, by omega, by go_num, ?_, hids.out.2.2.2.1.trans ((drewN_below wr nq).mono hsize), hids.out.2.2.2.2.1, hids.out.2.2.2.2.2⟩
          rw [hids.out.1, hrs.out, if_neg (by decide), List.append_nil, hids.out.2.2.1]
          exact hown
         first | exact R | ((repeat apply Exists.intro); exact ⟨R, rfl⟩)
        case measure => simp [intOf]; omega
     ·have hy1 : (y == 0) = false := by simpa using hy
      have hy2 : (y != 0) = true := by simpa using hy
      by_cases hs : sideOf y = c
      ·have hs2 : (sideOf y != c) = false := by simpa using hs
       have hfalse : takeOk p c q = false := hids.out.2.1.trans (by simp [hy, hs])
       have hrs := show Shut _ from hfalse
       clear hs hy hfalse
       go_wp2_with fail
       go_quiet (first | (go_at_call 90; refine quiet' (hi_side _ _ (by omega))) | (go_at_call 49; refine quiet' (po_rank _ _ (by omega) (by omega))))
       go_wp2
       go_roundw
       case rel =>
        have R : ∃ k' : Nat, k' ≤ L.length ∧ Value.int .i64 ((k : Int) + 1) = .int .i64 (k' : Int) ∧ ownInts (wr.drewN nq) (w.heap.size + 1) u6 (fw ++ (L.take k').filter (takeOk p c)) ∧ Below w.heap.size w (wr.drewN nq) ∧ (wr.drewN nq).heap[w.heap.size]? = some (.cells (ints p) 24 (0, 0)) ∧ ∀ i, i < L.length → ∃ g, some (⟨g2, 0, none⟩ : Addr) = some ⟨g, 0, none⟩ ∧ g < (wr.drewN nq).heap.size ∧ (wr.drewN nq).cell? ⟨g, i, none⟩ = some (.int .i64 (L.getD i 0)) ∧ u6.ownBlock ≠ some g := by
         refine ⟨k + 1, by omega, by go_num, ?_, hids.out.2.2.2.1.trans ((drewN_below wr nq).mono hsize), hids.out.2.2.2.2.1, hids.out.2.2.2.2.2⟩
         rw [hids.out.1, hrs.out, if_neg (by decide), List.append_nil, hids.out.2.2.1]
         exact hown
        first | exact R | ((repeat apply Exists.intro); exact ⟨R, rfl⟩)
       case measure => simp [intOf]; omega
      ·have hs2 : (sideOf y != c) = true := by simpa using hs
       have htrue : takeOk p c q = true := hids.out.2.1.trans (by simp [hy, hs])
       have hrs := show Shut _ from htrue
       clear hs hy htrue
       go_wp2_with fail
       go_quiet (first | (go_at_call 90; refine quiet' (hi_side _ _ (by omega))) | (go_at_call 49; refine quiet' (po_rank _ _ (by omega) (by omega))))
       have hownq : ownInts (wr.drewN nq) (w.heap.size + 1) u6 xs := hown
       have hckq : (wr.drewN nq).cell? ⟨g2, k, none⟩ = some (.int .i64 q) := hck
       have hszq : w.heap.size + 1 ≤ (wr.drewN nq).heap.size := hsz1
       have hBq := hids.out.2.2.2.1.trans ((drewN_below wr nq).mono hsize)
       have hrq : (wr.drewN nq).heap[w.heap.size]? = some (.cells (ints p) 24 (0, 0)) := hids.out.2.2.2.2.1
       have hkq : ∀ i, i < L.length → ∃ g, some (⟨g2, 0, none⟩ : Addr) = some ⟨g, 0, none⟩ ∧ g < (wr.drewN nq).heap.size ∧ (wr.drewN nq).cell? ⟨g, i, none⟩ = some (.int .i64 (L.getD i 0)) ∧ u6.ownBlock ≠ some g := hids.out.2.2.2.2.2
       have hkqS := show Shut _ from And.intro hBq (And.intro hrq hkq)
       clear hck hcq hce hown hBq hrq hkq
       generalize wr.drewN nq = wq at *
       go_wp2_with (with_reducible refine at_appendk (esz := 1) [.int .i64 q] rfl Tryz.underlying37 hi hz0 hz1 hz2 rfl (by decide) (by decide) ?_ (w.heap.size + 1) _ _ _ hownq ?_ hszq ?_ ?_ ?_)
       ·intro u hu; simp at hu; subst hu; rfl
       ·omega
       ·rfl
       ·rfl
       intro v' w' hown' hbel' hkeep' hap' hsz'
       obtain ⟨hBq, hrq, hkq⟩ := hkqS.out
       have R : ∃ k' : Nat, k' ≤ L.length ∧ Value.int .i64 ((k : Int) + 1) = .int .i64 (k' : Int) ∧ ownInts w' (w.heap.size + 1) v' (fw ++ (L.take k').filter (takeOk p c)) ∧ Below w.heap.size w w' ∧ w'.heap[w.heap.size]? = some (.cells (ints p) 24 (0, 0)) ∧ ∀ i, i < L.length → ∃ g, some (⟨g2, 0, none⟩ : Addr) = some ⟨g, 0, none⟩ ∧ g < w'.heap.size ∧ w'.cell? ⟨g, i, none⟩ = some (.int .i64 (L.getD i 0)) ∧ v'.ownBlock ≠ some g := by
        refine ⟨k + 1, by omega, by go_num, ?_, hBq.trans (hbel'.mono (by omega)), (hbel'.block _ (by omega)).trans hrq, fun i hi => ?_⟩
        ·rw [hids.out.1, hrs.out, if_pos rfl, ← List.append_assoc, hids.out.2.2.1]
         unfold ownInts
         rw [List.length_append, List.map_append]
         exact hown'
        ·obtain ⟨g, h1, h2, h3, h4⟩ := hkq i hi
         exact ⟨g, h1, by omega, (World.cell?_of_block (a := ⟨g, i, none⟩) (hkeep' g h2 h4)).trans h3, hap' g h2 h4⟩
       have RS := show Shut _ from R
       clear R hBq hrq hkq
       go_wp2_with fail
       go_roundw
       case rel =>
        have R := RS.out
        first | exact R | ((repeat apply Exists.intro); exact ⟨R, rfl⟩)
       case measure => simp [intOf]; omega
    ·obtain rfl : k = L.length := by omega
     clear hkp
     go_wp2_with fail
     go_ret
     have hfin := hown
     rw [List.take_length] at hfin
     exact ⟨_, rfl, by rw [hTs.out]; exact own_mono hfin (by omega), hB⟩
end Go.Proofs.YtnjdgooljnbebaaGreatDoor
namespace Go.Proofs.YtnjdgooljnbebaaGreatDoor
open Go Go.RowKit
set_option maxHeartbeats 4000000
set_option linter.unusedSimpArgs false
set_option linter.unusedVariables false
set_option maxRecDepth 100000

def homeK (r : Nat) : Int := 56 * ((r : Int) / 2) + 4
def homeR (r : Nat) : Int := if r % 2 = 0 then 56 * ((r : Int) / 2) + 7 else 56 * ((r : Int) / 2)
theorem ri_home (r : Nat) (hr : r < 4) (w : World) :
  Calls Tryz.prog 89 #[.int .i64 (r : Int)] w fun e w' => e = .returned (.tuple #[.int .i64 (homeK r), .int .i64 (homeR r)]) ∧ w = w' := by
 have h4 : r = 0 ∨ r = 1 ∨ r = 2 ∨ r = 3 := by omega
 rcases h4 with rfl | rfl | rfl | rfl
 all_goals
  go_enter Tryz.func89, Tryz.ntmps89
  go_wp2_with (first
   | (go_at_call 48; refine (po_at _ _ _ (by decide) (by decide) (by decide) (by decide)).mono ?_; rintro e1 w1 ⟨rfl, rfl⟩))
  go_ret2
  exact ⟨rfl, rfl⟩
/-- Whether the right r is there in a number of rights. -/
def hasR (c : Int) (r : Nat) : Bool := decide (c / 2 ^ r % 2 = 1)
def rightB (p : List Int) (r : Nat) : Bool := hasR (p.getD 65 0) r && (decide (pcAt p (homeK r) = 1 + 6 * ((r : Int) / 2)) && decide (pcAt p (homeR r) = 3 + 6 * ((r : Int) / 2)))
def rightsTo (p : List Int) : Nat → Int
 | 0 => 0
 | n + 1 => rightsTo p n + (if rightB p n then 2 ^ n else 0)
def rightsB (p : List Int) : Int := rightsTo p 4
theorem ri_of (k s : Int) (w : World) (n : Nat) (h0 : 0 ≤ k) (h1 : k ≤ 6) (h2 : 0 ≤ s) (h3 : s ≤ 1) :
  Calls Tryz.prog 46 #[.int .i64 k, .int .i64 s] (w.drewN n) fun e w'' => e = .returned (.int .i64 (k + 6 * s)) ∧ ∃ m, w'' = w.drewN m := br_of k s w n h0 h1 h2 h3
theorem rights_range (p : List Int) : ∀ n, 0 ≤ rightsTo p n ∧ rightsTo p n ≤ 2 ^ n - 1
 | 0 => by simp [rightsTo]
 | n + 1 => by
  have h := rights_range p n
  have e : (2 : Int) ^ (n + 1) = 2 * 2 ^ n := by rw [Int.pow_succ]; omega
  rw [rightsTo, e]
  generalize (2 : Int) ^ n = y at *
  split <;> omega
theorem ri_rights (p : List Int) (hp : Pos p) (hc0 : 0 ≤ p.getD 65 0) (hc1 : p.getD 65 0 ≤ 15) (w : World) :
  Calls Tryz.prog 60 #[.agg (ints p)] w fun e w' => e = .returned (.int .i64 (rightsB p)) ∧ Below w.heap.size w w' := by
 go_enter Tryz.func60, Tryz.ntmps60
 go_wp2_with fail
 have hrow := heap_alloc_new w (.cells (ints p) 24)
 have hBW : Below w.heap.size w (w.alloc (.cells (ints p) 24)) := (Below.refl _ _).alloc (Nat.le_refl _) _
 generalize w.alloc (.cells (ints p) 24) = W at *
 go_loopw [3, 4] (fun o i wr => ∃ k : Nat, k ≤ 4 ∧ i = .int .i64 (k : Int) ∧ o = .int .i64 (rightsTo p k) ∧ wr.heap[w.heap.size]? = some (.cells (ints p) 24 (0, 0)) ∧ Below w.heap.size w wr) (fun _ i _ => (4 - intOf i).toNat)
 case atStart => exact ⟨0, by omega, rfl, rfl, hrow, hBW⟩
 case round =>
  clear hrow hBW
  obtain ⟨k, hk, rfl, rfl, hr, hB⟩ := hrel
  by_cases hlt : k < 4
  ·have hrg := rights_range p k
   have hst : rightsTo p (k + 1) = rightsTo p k + (if rightB p k then 2 ^ k else 0) := rfl
   have hrb : rightB p k = (hasR (p.getD 65 0) k && (decide (pcAt p (homeK k) = 1 + 6 * ((k : Int) / 2)) && decide (pcAt p (homeR k) = 3 + 6 * ((k : Int) / 2)))) := rfl
   have hk0 : 0 ≤ homeK k ∧ homeK k ≤ 63 := by unfold homeK; omega
   have hr0 : 0 ≤ homeR k ∧ homeR k ≤ 63 := by unfold homeR; split <;> omega
   have ck : wr.cell? ⟨w.heap.size, (homeK k).toNat, none⟩ = some (.int .i64 (pcAt p (homeK k))) := row_cell hr _ (by rw [hp.len]; omega)
   have cr : wr.cell? ⟨w.heap.size, (homeR k).toNat, none⟩ = some (.int .i64 (pcAt p (homeR k))) := row_cell hr _ (by rw [hp.len]; omega)
   have cc : wr.cell? ⟨w.heap.size, 65, none⟩ = some (.int .i64 (p.getD 65 0)) := row_cell hr 65 (by rw [hp.len]; omega)
   have hbit : bits .and .i64 (p.getD 65 0 / 2 ^ k) 1 = p.getD 65 0 / 2 ^ k % 2 := by
    have h0 : 0 ≤ p.getD 65 0 / 2 ^ k := Int.ediv_nonneg hc0 (Int.le_of_lt (Int.pow_pos (by decide)))
    have h1 : p.getD 65 0 / 2 ^ k ≤ p.getD 65 0 := Int.ediv_le_self _ hc0
    exact bits_mask .i64 8 (by decide) (fun n h0 h1 => by rw [IntKind.wrap_i64]; omega) 1 (by decide) _ h0 (by omega)
   have hpw : (2 : Int) ^ k ≤ 8 ∧ 1 ≤ (2 : Int) ^ k := by
    have h4 : k = 0 ∨ k = 1 ∨ k = 2 ∨ k = 3 := by omega
    rcases h4 with rfl | rfl | rfl | rfl <;> decide
   obtain ⟨ck0, ck1⟩ := hk0
   obtain ⟨cr0, cr1⟩ := hr0
   have htd : Int.tdiv (k : Int) 2 = (k : Int) / 2 := by rw [Int.tdiv_eq_ediv_of_nonneg (by omega)]
   have hhm := ri_home k hlt
   generalize homeK k = hk at *
   generalize homeR k = hr' at *
   have hids := show Shut _ from And.intro hst (And.intro hrb (And.intro hr (And.intro hB hhm)))
   clear hst hrb hr hB hhm
   by_cases hb : p.getD 65 0 / 2 ^ k % 2 = 1
   ·rw [hb] at hbit
    have hbs := show Shut (hasR (p.getD 65 0) k = true) from decide_eq_true hb
    clear hb
    generalize p.getD 65 0 = cs at *
    by_cases h1 : pcAt p hk = 1 + 6 * ((k : Int) / 2)
    ·rw [h1] at ck
     have h1s := show Shut _ from h1
     clear h1
     by_cases h2 : pcAt p hr' = 3 + 6 * ((k : Int) / 2)
     ·rw [h2] at cr
      have hR : rightB p k = true := by rw [hids.out.2.1, hbs.out, decide_eq_true h1s.out, decide_eq_true h2]; rfl
      have hRs := show Shut _ from hR
      clear h2 hR
      go_wp2_with (first | (go_at_call 89; refine (hids.out.2.2.2.2 _).mono ?_; rintro e1 w1 ⟨rfl, rfl⟩))
      go_quiet (first | (go_at_call 46; refine ri_of _ _ _ _ (by omega) (by omega) (by omega) (by omega)))
      go_wp2
      go_roundw
      case rel => exact ⟨k + 1, by omega, by go_num, by rw [hids.out.1, hRs.out, if_pos rfl], hids.out.2.2.1, hids.out.2.2.2.1.trans ((drewN_below wr _).mono hids.out.2.2.2.1.size)⟩
      case measure => simp [intOf]; omega
     ·have h3 : (pcAt p hr' == 3 + 6 * ((k : Int) / 2)) = false := by simpa using h2
      have hR : rightB p k = false := by rw [hids.out.2.1, decide_eq_false h2]; simp
      have hRs := show Shut _ from hR
      clear h2 hR
      generalize pcAt p hr' = z at *
      go_wp2_with (first | (go_at_call 89; refine (hids.out.2.2.2.2 _).mono ?_; rintro e1 w1 ⟨rfl, rfl⟩))
      go_quiet (first | (go_at_call 46; refine ri_of _ _ _ _ (by omega) (by omega) (by omega) (by omega)))
      go_wp2
      go_roundw
      case rel => exact ⟨k + 1, by omega, by go_num, by rw [hids.out.1, hRs.out, if_neg (by decide), Int.add_zero], hids.out.2.2.1, hids.out.2.2.2.1.trans ((drewN_below wr _).mono hids.out.2.2.2.1.size)⟩
      case measure => simp [intOf]; omega
    ·have h3 : (pcAt p hk == 1 + 6 * ((k : Int) / 2)) = false := by simpa using h1
     have hR : rightB p k = false := by rw [hids.out.2.1, decide_eq_false h1]; simp
     have hRs := show Shut _ from hR
     clear h1 hR
     generalize pcAt p hk = z at *
     go_wp2_with (first | (go_at_call 89; refine (hids.out.2.2.2.2 _).mono ?_; rintro e1 w1 ⟨rfl, rfl⟩))
     go_quiet (first | (go_at_call 46; refine ri_of _ _ _ _ (by omega) (by omega) (by omega) (by omega)))
     go_wp2
     go_roundw
     case rel => exact ⟨k + 1, by omega, by go_num, by rw [hids.out.1, hRs.out, if_neg (by decide), Int.add_zero], hids.out.2.2.1, hids.out.2.2.2.1.trans ((drewN_below wr _).mono hids.out.2.2.2.1.size)⟩
     case measure => simp [intOf]; omega
   ·have hb0 : p.getD 65 0 / 2 ^ k % 2 = 0 := by omega
    rw [hb0] at hbit
    have hR : rightB p k = false := by rw [hids.out.2.1, show hasR (p.getD 65 0) k = false from decide_eq_false hb]; simp
    have hRs := show Shut _ from hR
    clear hb hb0 hR
    generalize p.getD 65 0 = cs at *
    go_wp2_with (first | (go_at_call 89; refine (hids.out.2.2.2.2 _).mono ?_; rintro e1 w1 ⟨rfl, rfl⟩))
    go_quiet (first | (go_at_call 46; refine ri_of _ _ _ _ (by omega) (by omega) (by omega) (by omega)))
    go_wp2
    go_roundw
    case rel => exact ⟨k + 1, by omega, by go_num, by rw [hids.out.1, hRs.out, if_neg (by decide), Int.add_zero], hids.out.2.2.1, hids.out.2.2.2.1.trans ((drewN_below wr _).mono hids.out.2.2.2.1.size)⟩
    case measure => simp [intOf]; omega
  ·obtain rfl : k = 4 := by omega
   have hR : rightsB p = rightsTo p 4 := rfl
   have hRs := show Shut _ from hR
   clear hR
   generalize rightsTo p 4 = y at *
   go_wp2_with fail
   go_ret
   exact ⟨by rw [hRs.out]; rfl, hB⟩
end Go.Proofs.YtnjdgooljnbebaaGreatDoor
namespace Go.Proofs.YtnjdgooljnbebaaGreatDoor
open Go Go.RowKit
theorem range_of_row {w : World} {g : Nat} {L : List Value} {t : TypeId} {fr : Nat × Nat} (h : w.heap[g]? = some (.cells L.toArray t fr)) : w.rangeAt g 0 L := fun j v hj => by
 rw [Nat.zero_add, cell_of_row w g j _ _ _ h]
 simpa using hj
/-- A position lies in block g. -/
def PosAt (p : List Int) (g : Nat) (w : World) : Prop := w.heap[g]? = some (.cells (ints p) 24 (0, 0))
theorem PosAt.range {p : List Int} {g : Nat} {w : World} (h : PosAt p g w) : w.rangeAt g 0 (p.map (Value.int .i64)) := range_of_row h
theorem PosAt.below {p : List Int} {g : Nat} {w w' : World} (h : PosAt p g w) (hb : Below w.heap.size w w') : PosAt p g w' := (hb.block g (Array.getElem?_eq_some_iff.1 h).1).trans h
theorem PosAt.cell {p : List Int} {g : Nat} {w : World} (h : PosAt p g w) (i : Nat) (hi : i < p.length) : w.cell? ⟨g, i, none⟩ = some (.int .i64 (p.getD i 0)) := row_cell h i hi
theorem PosAt.lt {p : List Int} {g : Nat} {w : World} (h : PosAt p g w) : g < w.heap.size := (Array.getElem?_eq_some_iff.1 h).1
theorem pos_info (p : List Int) (hl : p.length = 69) : (Tryz.prog.info? 24).map (·.size) = some (p.map (Value.int .i64)).length := by rw [List.length_map, hl]; kernel_rfl
end Go.Proofs.YtnjdgooljnbebaaGreatDoor
