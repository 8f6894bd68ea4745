/- spec.before, spec.ordered: moves in an order: what comes out has the same moves. For every list of moves.
spec.ordered: what comes out has the same moves. For every list of moves. (Printed by gen_od.py.)
spec.Castles: the king's moves that castle. For every position of pieces from 0 to 12. (Printed by gen_cs.py.)
spec.Pseudo: the moves that are legal but for leaving the king in check. For every position of pieces from 0 to 12. (Printed by gen_ps.py.) -/
import Derived.Test.YtnjdgooljnbebaaGreatDoorG0
import Derived.Test.YtnjdgooljnbebaaGreatDoorGc
import Derived.Test.YtnjdgooljnbebaaGreatDoorGb
namespace Go.Proofs.YtnjdgooljnbebaaGreatDoor
open Go Go.RowKit
open List renaming getElem_toArray → zA, getElem_cons_zero → zB, getElem_cons_succ → zC, setIfInBounds_toArray → zD, set_cons_zero → zE, set_cons_succ → zF
set_option maxHeartbeats 4000000
set_option linter.unusedSimpArgs false
set_option linter.unusedVariables false
set_option maxRecDepth 100000

def mvC (m : Mv) : List Value := [.int .i64 m.fr, .int .i64 m.to, .int .i64 m.pr]
def mvsC (l : List Mv) : List Value := l.flatMap mvC
abbrev ownMvs (w : World) (base : Nat) (v : Value) (l : List Mv) : Prop := w.ownsRow base 35 3 v l.length (mvsC l)
theorem mvsC_len : ∀ l : List Mv, (mvsC l).length = 3 * l.length
 | [] => rfl
 | m :: l => by
  have := mvsC_len l
  simp only [mvsC, List.flatMap_cons, List.length_append, List.length_cons] at this ⊢
  rw [this]
  simp [mvC]
  omega
theorem mvsC_get : ∀ (l : List Mv) (i : Nat) (j : Nat), i < l.length → j < 3 → (mvsC l)[3 * i + j]? = (mvC (l.getD i ⟨0, 0, 0⟩))[j]?
 | [], i, j, h, _ => by simp at h
 | m :: l, 0, j, _, hj => by
  simp only [mvsC, List.flatMap_cons, Nat.mul_zero, Nat.zero_add, List.getD_cons_zero]
  rw [List.getElem?_append_left (by simp [mvC]; omega)]
 | m :: l, i + 1, j, h, hj => by
  have ih := mvsC_get l i j (by simpa using h) hj
  simp only [mvsC, List.flatMap_cons, List.getD_cons_succ] at ih ⊢
  rw [List.getElem?_append_right (by simp [mvC]; omega)]
  have e : 3 * (i + 1) + j - (mvC m).length = 3 * i + j := by simp [mvC]; omega
  rw [e]
  exact ih
theorem mvsC_set : ∀ (l : List Mv) (i : Nat) (m : Mv), i < l.length → mvsC (l.set i m) = (((mvsC l).set (3 * i) (.int .i64 m.fr)).set (3 * i + 1) (.int .i64 m.to)).set (3 * i + 2) (.int .i64 m.pr)
 | [], i, m, h => by simp at h
 | a :: l, 0, m, _ => by simp [mvsC, mvC]
 | a :: l, i + 1, m, h => by
  have ih := mvsC_set l i m (by simpa using h)
  simp only [mvsC, List.flatMap_cons, List.set_cons_succ] at ih ⊢
  rw [ih]
  simp only [mvC, List.cons_append, List.nil_append, show 3 * (i + 1) = 3 * i + 1 + 1 + 1 by omega, show 3 * i + 1 + 1 + 1 + 1 = 3 * i + 1 + 1 + 1 + 1 from rfl, List.set_cons_succ, show 3 * i + 1 + 1 + 1 + 2 = 3 * i + 2 + 1 + 1 + 1 by omega]

def beforeB (a b : Mv) : Bool := if a.fr ≠ b.fr then decide (a.fr < b.fr) else if a.to ≠ b.to then decide (a.to < b.to) else decide (a.pr < b.pr)
theorem or_before (a b : Mv) (w : World) :
  Calls Tryz.prog 115 #[.agg (mvC a).toArray, .agg (mvC b).toArray] w fun e w' => e = .returned (.bool (beforeB a b)) ∧ Below w.heap.size w w' := by
 have hB : Below w.heap.size w ((w.alloc (.cells (mvC a).toArray 35)).alloc (.cells (mvC b).toArray 35)) := ((Below.refl _ _).alloc (Nat.le_refl _) _).alloc (by simp) _
 have hBs := show Shut _ from hB
 have hb : beforeB a b = if a.fr ≠ b.fr then decide (a.fr < b.fr) else if a.to ≠ b.to then decide (a.to < b.to) else decide (a.pr < b.pr) := rfl
 have hbs := show Shut _ from hb
 clear hB hb
 unfold mvC at *
 generalize a.fr = a0 at *
 generalize b.fr = b0 at *
 generalize a.to = a1 at *
 generalize b.to = b1 at *
 generalize a.pr = a2 at *
 generalize b.pr = b2 at *
 by_cases h1 : a0 = b0
 ·have h1b : (a0 != b0) = false := by simpa using h1
  have h1s := show Shut _ from h1
  clear h1
  by_cases h2 : a1 = b1
  ·have h2b : (a1 != b1) = false := by simpa using h2
   have h2s := show Shut _ from h2
   clear h2
   go_enter Tryz.func115, Tryz.ntmps115
   go_wp2_with fail
   go_ret
   exact ⟨by rw [hbs.out, if_neg (fun h => h h1s.out), if_neg (fun h => h h2s.out)]; rfl, hBs.out⟩
  ·have h2b : (a1 != b1) = true := by simpa using h2
   have h2s := show Shut _ from h2
   clear h2
   go_enter Tryz.func115, Tryz.ntmps115
   go_wp2_with fail
   go_ret
   exact ⟨by rw [hbs.out, if_neg (fun h => h h1s.out), if_pos h2s.out]; rfl, hBs.out⟩
 ·have h1b : (a0 != b0) = true := by simpa using h1
  have h1s := show Shut _ from h1
  clear h1
  go_enter Tryz.func115, Tryz.ntmps115
  go_wp2_with fail
  go_ret
  exact ⟨by rw [hbs.out, if_pos h1s.out]; rfl, hBs.out⟩

theorem mv_info : (Tryz.prog.info? 35).map (fun i => (i.zero, i.size, i.bytes)) = some (some (.agg #[.int .i64 0, .int .i64 0, .int .i64 0]), 3, 24) := by kernel_rfl
theorem mvsC_one (l : List Mv) : ∀ q ∈ mvsC l, q.oneCell' = true := by
 intro q hq
 simp only [mvsC, List.mem_flatMap, mvC] at hq
 obtain ⟨m, _, hq⟩ := hq
 simp at hq
 rcases hq with rfl | rfl | rfl <;> rfl
/-- A list of moves lies in block g. -/
def MvRow (g : Nat) (l : List Mv) (w : World) : Prop := ∃ cur, w.heap[g]? = some (.cells cur 35 (0, 0)) ∧ cur.toList.take (l.length * 3) = mvsC l
theorem MvRow.cell {g : Nat} {l : List Mv} {w : World} (h : MvRow g l w) (i j : Nat) (hi : i < l.length) (hj : j < 3) : w.cell? ⟨g, 3 * i + j, none⟩ = (mvC (l.getD i ⟨0, 0, 0⟩))[j]? := by
 obtain ⟨cur, hg, ht⟩ := h
 rw [cell_of_row _ _ _ _ _ _ hg, ← mvsC_get l i j hi hj, ← ht, List.getElem?_take, if_pos (by omega)]
 simp
theorem MvRow.below {g : Nat} {l : List Mv} {w w' : World} (h : MvRow g l w) (hb : Below w.heap.size w w') : MvRow g l w' := by
 obtain ⟨cur, hg, ht⟩ := h
 exact ⟨cur, (hb.block g (Array.getElem?_eq_some_iff.1 hg).1).trans hg, ht⟩
theorem MvRow.lt {g : Nat} {l : List Mv} {w : World} (h : MvRow g l w) : g < w.heap.size := by
 obtain ⟨cur, hg, _⟩ := h
 exact (Array.getElem?_eq_some_iff.1 hg).1
theorem MvRow.range {g : Nat} {l : List Mv} {w : World} (h : MvRow g l w) (i : Nat) (hi : i < l.length) : w.rangeAt g (3 * i) (mvC (l.getD i ⟨0, 0, 0⟩)) := fun j v hj => by
 have hj3 : j < 3 := by
  have := (List.getElem?_eq_some_iff.1 hj).1
  simpa [mvC] using this
 rw [h.cell i j hi hj3]
 exact hj
theorem MvRow.there {g : Nat} {l : List Mv} {w : World} (h : MvRow g l w) (i : Nat) (hi : i < l.length) : w.there g (3 * i) 3 := fun j hj => by
 refine ⟨?_, ?_⟩
 ·rw [h.cell i j hi hj]
  have : j < (mvC (l.getD i ⟨0, 0, 0⟩)).length := by simpa [mvC] using hj
  rw [List.getElem?_eq_getElem this]
  rfl
 ·obtain ⟨cur, hg, _⟩ := h
  exact frozen_of_row w g _ _ _ hg
theorem MvRow.set {g : Nat} {l : List Mv} {w : World} (h : MvRow g l w) (i : Nat) (hi : i < l.length) (m : Mv) : MvRow g (l.set i m) (w.setCells g (3 * i) (mvC m)) := by
 obtain ⟨cur, hg, ht⟩ := h
 have h1 := heap_setCell_same w g (3 * i) _ _ (.int .i64 m.fr) hg
 have h2 := heap_setCell_same _ g (3 * i + 1) _ _ (.int .i64 m.to) h1
 have h3 := heap_setCell_same _ g (3 * i + 1 + 1) _ _ (.int .i64 m.pr) h2
 refine ⟨_, h3, ?_⟩
 rw [List.length_set, mvsC_set l i m hi, ← ht]
 simp only [Array.toList_setIfInBounds]
 rw [List.take_set, List.take_set, List.take_set]
theorem below_setCells {B : Nat} {a w : World} (h : Below B a w) (g o : Nat) (m : Mv) (hg : B ≤ g) : Below B a (w.setCells g o (mvC m)) :=
 ((h.setCell (p := ⟨g, o, none⟩) hg _).setCell (p := ⟨g, o + 1, none⟩) hg _).setCell (p := ⟨g, o + 1 + 1, none⟩) hg _
def swapL (l : List Mv) (k : Nat) : List Mv := (l.set k (l.getD (k - 1) ⟨0, 0, 0⟩)).set (k - 1) (l.getD k ⟨0, 0, 0⟩)
theorem swap_perm (l : List Mv) (k : Nat) (h0 : 0 < k) (h : k < l.length) : (swapL l k).Perm l := by
 have e1 : l.getD (k - 1) ⟨0, 0, 0⟩ = l[k - 1] := by simp [show k - 1 < l.length by omega]
 have e2 : l.getD k ⟨0, 0, 0⟩ = l[k] := by simp [h]
 unfold swapL
 rw [e1, e2]
 exact List.set_set_perm h (by omega)
end Go.Proofs.YtnjdgooljnbebaaGreatDoor
namespace Go.Proofs.YtnjdgooljnbebaaGreatDoor
open Go Go.RowKit
open List renaming getElem_toArray → zA, getElem_cons_zero → zB, getElem_cons_succ → zC, setIfInBounds_toArray → zD, set_cons_zero → zE, set_cons_succ → zF
set_option maxHeartbeats 4000000
set_option linter.unusedSimpArgs false
set_option linter.unusedVariables false
set_option maxRecDepth 100000

theorem mvC_one (m : Mv) : (mvC m).toArray.all (·.oneCell') = true := by simp [mvC, Value.oneCell']
theorem own_row {w : World} {base g n cap : Nat} {l : List Mv} (h : ownMvs w base (.slice (some ⟨g, 0, none⟩) n cap) l) : MvRow g l w := by
 obtain ⟨hn, ⟨h1, _⟩ | ⟨g', cap', cur, he, _, hg, _, _, _, ht⟩⟩ := h
 ·cases h1
 ·cases he; exact ⟨cur, hg, ht⟩
theorem own_set3 {w : World} {base g n cap : Nat} {l : List Mv} (h : ownMvs w base (.slice (some ⟨g, 0, none⟩) n cap) l) (i : Nat) (hi : i < l.length) (m : Mv) : ownMvs (w.setCells g (3 * i) (mvC m)) base (.slice (some ⟨g, 0, none⟩) n cap) (l.set i m) := by
 have hrow := own_row h
 obtain ⟨hn, ⟨h1, _⟩ | ⟨g', cap', cur, he, hb, hg, hc, hm, hs, ht⟩⟩ := h
 ·cases h1
 ·cases he
  have h1 := heap_setCell_same w g (3 * i) _ _ (.int .i64 m.fr) hg
  have h2 := heap_setCell_same _ g (3 * i + 1) _ _ (.int .i64 m.to) h1
  have h3 := heap_setCell_same _ g (3 * i + 1 + 1) _ _ (.int .i64 m.pr) h2
  refine ⟨by rw [mvsC_len, List.length_set]; omega, Or.inr ⟨g, cap, _, by rw [List.length_set], hb, h3, by rw [List.length_set]; exact hc, hm, by simp [hs], ?_⟩⟩
  rw [List.length_set, mvsC_set l i m hi, ← ht]
  simp only [Array.toList_setIfInBounds]
  rw [List.take_set, List.take_set, List.take_set]
theorem own_next {w w' : World} {base : Nat} {v : Value} {l : List Mv} (h : ownMvs w base v l) (hb : Below w.heap.size w w') : ownMvs w' base v l := by
 obtain ⟨h1, h2 | ⟨g, cap, cur, a1, b, c, d⟩⟩ := h
 ·exact ⟨h1, Or.inl h2⟩
 ·exact ⟨h1, Or.inr ⟨g, cap, cur, a1, b, (hb.block g (Array.getElem?_eq_some_iff.1 c).1).trans c, d⟩⟩
theorem or_ordered (l : List Mv) (v : Value) (base' : Nat) (w : World) (hv : ownMvs w base' v l) (hl : l.length ≤ 100000) :
  Calls Tryz.prog 93 #[v] w fun e w' => ∃ v' l', e = .returned v' ∧ l'.Perm l ∧ ownMvs w' w.heap.size v' l' ∧ Below w.heap.size w w' := by
 obtain ⟨i0, hi, hz0, hz1, hz2⟩ := info_parts mv_info
 have hown0 : (w.alloc (.cells #[] 35)).ownsRow w.heap.size 35 3 (.slice (some ⟨w.heap.size, 0, none⟩) 0 0) 0 [] :=
  ⟨rfl, Or.inr ⟨w.heap.size, 0, #[], rfl, Nat.le_refl _, heap_alloc_new w _, Nat.le_refl _, by decide, rfl, rfl⟩⟩
 have hv1 := hv.alloc (.cells #[] 35)
 have hsz : w.heap.size ≤ (w.alloc (.cells #[] 35)).heap.size := by simp
 have hB0 : Below w.heap.size w (w.alloc (.cells #[] 35)) := (Below.refl _ _).alloc (Nat.le_refl _) _
 go_enter Tryz.func93, Tryz.ntmps93
 go_wp2_with (with_reducible refine at_append_all Tryz.underlying30 hi hz0 hz1 hz2 rfl (by decide) (by decide) w.heap.size _ _ _ hown0 _ _ _ _ hv1 (mvsC_one l) ?_ hsz ?_ ?_ ?_)
 ·omega
 ·rfl
 ·rfl
 intro v1 w1 hown1 hb1 hsz1
 rw [Nat.zero_add, List.nil_append] at hown1
 have hB1 := hB0.trans hb1
 have hs1 : w.heap.size ≤ w1.heap.size := by omega
 clear hown0 hv1 hsz hB0 hb1 hsz1 hv
 have hform := hown1.2
 rcases hform with ⟨rfl, h0⟩ | ⟨g, cap, cur, rfl, hge, hgu, hcap, hmax, hsz3, htk⟩
 ·have h00 : l = [] := List.eq_nil_of_length_eq_zero h0
  subst h00
  have hBs := show Shut _ from And.intro hown1 hB1
  clear hown1 hB1 hs1
  go_wp2_with fail
  go_loopw [4] (fun i wr => i = .int .i64 1 ∧ wr = w1) (fun i _ => 0)
  case atStart => exact ⟨rfl, rfl⟩
  case round =>
   obtain ⟨rfl, rfl⟩ := hrel
   go_wp2_with fail
   go_ret
   exact ⟨_, [], rfl, List.Perm.refl _, hBs.out.1, hBs.out.2⟩
 ·clear hgu hsz3 htk cur
  have hn1 : l.length = l.length := rfl
  have hpl := List.Perm.refl l
  go_wp2_with fail
  go_loopw [4] (fun i wr => ∃ (k : Nat) (l' : List Mv), 1 ≤ k ∧ (k = 1 ∨ k ≤ l.length) ∧ i = .int .i64 (k : Int) ∧ l'.Perm l ∧ ownMvs wr w.heap.size (.slice (some ⟨g, 0, none⟩) l.length cap) l' ∧ Below w.heap.size w wr) (fun i _ => l.length - (intOf i).toNat)
  case atStart => exact ⟨1, l, by omega, Or.inl rfl, rfl, hpl, hown1, hB1⟩
  case round =>
   clear hown1 hB1
   obtain ⟨k, l', hk1, hk, rfl, hperm, hown, hB⟩ := hrel
   have hle := hperm.length_eq
   by_cases hlt : k < l.length
   ·go_wp2_with fail
    go_loopw [5] (fun d wr2 => ∃ (j : Nat) (l2 : List Mv), j ≤ k ∧ d = .int .i64 (j : Int) ∧ l2.Perm l ∧ ownMvs wr2 w.heap.size (.slice (some ⟨g, 0, none⟩) l.length cap) l2 ∧ Below w.heap.size w wr2) (fun d _ => (intOf d).toNat)
    case atStart => exact ⟨k, l', Nat.le_refl _, rfl, hperm, hown, hB⟩
    case round =>
     clear hown hperm hle hB
     obtain ⟨j, l2, hj, rfl, hperm, hown, hB⟩ := hrel
     have hle := hperm.length_eq
     cases j with
     | zero =>
      have hps := show Shut _ from And.intro hperm (And.intro hown hB)
      clear hperm hown hB hle
      go_wp2_with fail
      go_quiet (fail)
      go_wp2_with fail
      go_roundw
      case rel =>
       have R : ∃ (k' : Nat) (l' : List Mv), 1 ≤ k' ∧ (k' = 1 ∨ k' ≤ l.length) ∧ Value.int .i64 ((k : Int) + 1) = .int .i64 (k' : Int) ∧ l'.Perm l ∧ ownMvs (wr.drewN nq) w.heap.size (.slice (some ⟨g, 0, none⟩) l.length cap) l' ∧ Below w.heap.size w (wr.drewN nq) := ⟨k + 1, l2, by omega, Or.inr (by omega), by go_num, hps.out.1, hps.out.2.1, below_drewN hps.out.2.2 nq⟩
       first | exact R | ((repeat apply Exists.intro); exact ⟨R, rfl⟩)
      case measure => simp [intOf]; omega
     | succ j =>
      rw [show ((j + 1 : Nat) : Int) = (j : Int) + 1 by omega]
      have q0 : (0 : Int) ≤ (j : Int) := by omega
      have q1 : (j : Int) + 1 < (l.length : Int) := by omega
      have q2 : (j : Int) < (l.length : Int) := by omega
      have q3 : (0 : Int) ≤ (j : Int) + 1 := by omega
      have hw1 : IntKind.i64.wrap ((j : Int) + 1 - 1) = (j : Int) := by rw [IntKind.wrap_i64]; omega
      have hw2 : IntKind.i64.wrap (j : Int) = (j : Int) := by rw [IntKind.wrap_i64]; omega
      have ht1 : ((j : Int) + 1).toNat = j + 1 := by omega
      have hj1 : j + 1 < l2.length := by omega
      have hj0 : j < l2.length := by omega
      have hgt : decide (0 < (j : Int) + 1) = true := decide_eq_true (by omega)
      have hwS : ownMvs wr.drew w.heap.size (.slice (some ⟨g, 0, none⟩) l.length cap) l2 := hown
      have hB2 := hB.drew
      have hlS := show Shut _ from And.intro hperm (And.intro hle (And.intro hj hlt))
      clear hperm hle hown hB
      generalize hma : l2.getD (j + 1) ⟨0, 0, 0⟩ = ma at *
      generalize hmb : l2.getD j ⟨0, 0, 0⟩ = mb at *
      have hms := show Shut _ from And.intro hma hmb
      have hra := show Shut (∀ W : World, ownMvs W w.heap.size (.slice (some ⟨g, 0, none⟩) l.length cap) l2 → W.rangeAt g ((j + 1) * 3) (mvC ma)) from fun W h => by have := (own_row h).range (j + 1) hj1; rw [hma, Nat.mul_comm] at this; exact this
      have hrb := show Shut (∀ W : World, ownMvs W w.heap.size (.slice (some ⟨g, 0, none⟩) l.length cap) l2 → W.rangeAt g (j * 3) (mvC mb)) from fun W h => by have := (own_row h).range j hj0; rw [hmb, Nat.mul_comm] at this; exact this
      clear hma hmb
      go_wp2_with fail
      refine wp_region_held_drew (S := fun w' : World => ownMvs w' w.heap.size (.slice (some ⟨g, 0, none⟩) l.length cap) l2 ∧ Below w.heap.size w w') (by kernel_rfl) ⟨hwS, hB2⟩ (fun hHeld => ?_)
      refine takeC (i := 0) rfl hHeld ?_
      try simp only [zA, zB, zC, Act.put, zD, zE, zF]
      refine takeC (i := 1) rfl hHeld ?_
      try simp only [zA, zB, zC, Act.put, zD, zE, zF]
      refine takeC (i := 2) rfl hHeld ?_
      try simp only [zA, zB, zC, Act.put, zD, zE, zF]
      refine takeC (i := 3) rfl hHeld ?_
      try simp only [zA, zB, zC, Act.put, zD, zE, zF]
      refine takeC (i := 4) rfl hHeld ?_
      try simp only [zA, zB, zC, Act.put, zD, zE, zF]
      refine takeC (i := 5) rfl hHeld ?_
      try simp only [zA, zB, zC, Act.put, zD, zE, zF]
      refine' takeA (i := 6) (v := _) rfl (yieldsIf_load_mid (by rfl) _ _ rfl _ _ rfl _ _ (fun _ h => hra.out _ h.1) Tryz.underlying35 rfl (by kernel_rfl)) hHeld ?_
      try simp only [zA, zB, zC, Act.put, zD, zE, zF]
      refine takeC (i := 7) rfl hHeld ?_
      try simp only [zA, zB, zC, Act.put, zD, zE, zF]
      refine takeC (i := 8) rfl hHeld ?_
      try simp only [zA, zB, zC, Act.put, zD, zE, zF]
      refine takeC (i := 9) rfl hHeld ?_
      try simp only [zA, zB, zC, Act.put, zD, zE, zF]
      refine takeC (i := 10) rfl hHeld ?_
      try simp only [zA, zB, zC, Act.put, zD, zE, zF]
      refine' takeA (i := 11) (v := _) rfl (yieldsIf_load_mid (by rfl) _ _ rfl _ _ rfl _ _ (fun _ h => hrb.out _ h.1) Tryz.underlying35 rfl (by kernel_rfl)) hHeld ?_
      try simp only [zA, zB, zC, Act.put, zD, zE, zF]
      refine wpAnyH_ready (rs := [12]) (by kernel_rfl) (by simp) ?_
      refine AllReadyH.cons rfl (fun K hK => ?_) AllReadyH.nil
      try simp only [zA, zB, zC, Act.put, zD, zE, zF]
      try rw [if_pos (by rfl)]
      go_simp
      refine (or_before ma mb _).mono ?_
      rintro e1 w4 ⟨rfl, hb4⟩
      go_wp2_with fail
      refine hK.out _ _ (by have hs := hHeld.2.size; exact ⟨own_next hHeld.1 hb4, hHeld.2.trans (hb4.mono hs)⟩) (fun hHeld => ?_)
      clear hK K
      try simp only [zA, zB, zC, Act.put, zD, zE, zF]
      refine takeC (i := 13) rfl hHeld ?_
      try simp only [zA, zB, zC, Act.put, zD, zE, zF]
      refine wpAnyH_done (by kernel_rfl) ?_ _
      have hown := hHeld.1
      have hB := hHeld.2
      clear hHeld hwS hB2
      cases hbf : beforeB ma mb with
      | false =>
       have hbs := show Shut _ from And.intro hown hB
       clear hown hB
       go_wp2_with fail
       go_roundw
       case rel =>
        have R : ∃ (k' : Nat) (l' : List Mv), 1 ≤ k' ∧ (k' = 1 ∨ k' ≤ l.length) ∧ Value.int .i64 ((k : Int) + 1) = .int .i64 (k' : Int) ∧ l'.Perm l ∧ ownMvs w4 w.heap.size (.slice (some ⟨g, 0, none⟩) l.length cap) l' ∧ Below w.heap.size w w4 := ⟨k + 1, l2, by omega, Or.inr (by have := hlS.out.2.2.2; omega), by go_num, hlS.out.1, hbs.out.1, hbs.out.2⟩
        first | exact R | ((repeat apply Exists.intro); exact ⟨R, rfl⟩)
       case measure => have := hlS.out.2.2.2; simp [intOf]; omega
      | true =>
       go_wp2_with fail
       have hwS : ownMvs w4.drew w.heap.size (.slice (some ⟨g, 0, none⟩) l.length cap) l2 := hown
       have hB3 := hB.drew
       clear hown hB
       refine wp_region_held_drew (S := fun _ : World => True) (by kernel_rfl) trivial (fun hHeld => ?_)
       refine takeC (i := 0) rfl hHeld ?_
       try simp only [zA, zB, zC, Act.put, zD, zE, zF]
       refine takeC (i := 1) rfl hHeld ?_
       try simp only [zA, zB, zC, Act.put, zD, zE, zF]
       refine takeC (i := 2) rfl hHeld ?_
       try simp only [zA, zB, zC, Act.put, zD, zE, zF]
       refine takeC (i := 3) rfl hHeld ?_
       try simp only [zA, zB, zC, Act.put, zD, zE, zF]
       refine takeC (i := 4) rfl hHeld ?_
       try simp only [zA, zB, zC, Act.put, zD, zE, zF]
       refine takeC (i := 5) rfl hHeld ?_
       try simp only [zA, zB, zC, Act.put, zD, zE, zF]
       refine takeC (i := 6) rfl hHeld ?_
       try simp only [zA, zB, zC, Act.put, zD, zE, zF]
       refine takeC (i := 7) rfl hHeld ?_
       try simp only [zA, zB, zC, Act.put, zD, zE, zF]
       refine takeC (i := 8) rfl hHeld ?_
       try simp only [zA, zB, zC, Act.put, zD, zE, zF]
       refine takeC (i := 10) rfl hHeld ?_
       try simp only [zA, zB, zC, Act.put, zD, zE, zF]
       refine takeC (i := 11) rfl hHeld ?_
       try simp only [zA, zB, zC, Act.put, zD, zE, zF]
       refine takeC (i := 12) rfl hHeld ?_
       try simp only [zA, zB, zC, Act.put, zD, zE, zF]
       refine wpAnyH_ready (rs := [9, 13]) (by kernel_rfl) (by simp) ?_
       refine AllReadyH.cons rfl (fun K hK => ?_) (AllReadyH.cons rfl (fun K hK => ?_) AllReadyH.nil)
       ·try simp only [zA, zB, zC, Act.put, zD, zE, zF]
        try simp only [zA, zB, zC, Act.put, zD, zE, zF]
        try rw [if_pos (by rfl)]
        refine wp_load_mid _ _ rfl _ _ rfl _ _ (hrb.out _ hwS) Tryz.underlying35 rfl (by kernel_rfl) ?_
        refine hK.out _ _ trivial (fun hHeld => ?_)
        clear hK K
        try simp only [zA, zB, zC, Act.put, zD, zE, zF]
        refine wpAnyH_ready (rs := [13]) (by kernel_rfl) (by simp) ?_
        refine AllReadyH.cons rfl (fun K hK => ?_) AllReadyH.nil
        try simp only [zA, zB, zC, Act.put, zD, zE, zF]
        try rw [if_pos (by rfl)]
        refine wp_load_mid _ _ rfl _ _ rfl _ _ (hra.out _ hwS) Tryz.underlying35 rfl (by kernel_rfl) ?_
        refine hK.out _ _ trivial (fun hHeld => ?_)
        clear hK K
        try simp only [zA, zB, zC, Act.put, zD, zE, zF]
        refine takeC (i := 14) rfl hHeld ?_
        try simp only [zA, zB, zC, Act.put, zD, zE, zF]
        refine wpAnyH_ready (rs := [15]) (by kernel_rfl) (by simp) ?_
        refine AllReadyH.cons rfl (fun K hK => ?_) AllReadyH.nil
        try simp only [zA, zB, zC, Act.put, zD, zE, zF]
        try rw [if_pos (by rfl)]
        refine wp_store_mid 35 _ _ rfl g ((j + 1) * 3) (mvC mb).toArray (by rfl) (by rfl) (by have h := (own_row hwS).there (j + 1) (by first | exact hj1 | exact hj0 | (rw [List.length_set]; exact hj0)); rw [Nat.mul_comm] at h; exact h) (by kernel_rfl) (mvC_one mb) ?_
        have hs1 := own_set3 hwS (j + 1) (by first | exact hj1 | exact hj0 | (rw [List.length_set]; exact hj0)) mb
        rw [Nat.mul_comm 3] at hs1
        have hB4 := below_setCells hB3 g ((j + 1) * 3) mb hge
        generalize w4.drew.setCells g ((j + 1) * 3) (mvC mb) = w6 at *
        refine hK.out _ _ trivial (fun hHeld => ?_)
        clear hK K
        try simp only [zA, zB, zC, Act.put, zD, zE, zF]
        refine takeC (i := 16) rfl hHeld ?_
        try simp only [zA, zB, zC, Act.put, zD, zE, zF]
        refine wpAnyH_ready (rs := [17]) (by kernel_rfl) (by simp) ?_
        refine AllReadyH.cons rfl (fun K hK => ?_) AllReadyH.nil
        try simp only [zA, zB, zC, Act.put, zD, zE, zF]
        try rw [if_pos (by rfl)]
        refine wp_store_mid 35 _ _ rfl g (j * 3) (mvC ma).toArray (by rfl) (by rfl) (by have h := (own_row hs1).there j (by first | exact hj1 | exact hj0 | (rw [List.length_set]; exact hj0)); rw [Nat.mul_comm] at h; exact h) (by kernel_rfl) (mvC_one ma) ?_
        have hs2 := own_set3 hs1 j (by first | exact hj1 | exact hj0 | (rw [List.length_set]; exact hj0)) ma
        rw [Nat.mul_comm 3] at hs2
        have hB5 := below_setCells hB4 g (j * 3) ma hge
        generalize w6.setCells g (j * 3) (mvC ma) = w7 at *
        refine hK.out _ _ trivial (fun hHeld => ?_)
        clear hK K hs1 hB4 hB3 hwS
        try simp only [zA, zB, zC, Act.put, zD, zE, zF]
        refine wpAnyH_done (by kernel_rfl) ?_ _
        have hfin := show Shut _ from And.intro hs2 hB5
        clear hs2 hB5
        go_wp2_with fail
        go_roundw
        case rel =>
         have hpp : ((l2.set (j + 1) mb).set j ma).Perm l := by
          have h := swap_perm l2 (j + 1) (by omega) hj1
          unfold swapL at h
          rw [Nat.add_sub_cancel, hms.out.1, hms.out.2] at h
          exact h.trans hlS.out.1
         have R : ∃ (j' : Nat) (l3 : List Mv), j' ≤ k ∧ Value.int .i64 (j : Int) = .int .i64 (j' : Int) ∧ l3.Perm l ∧ ownMvs w7 w.heap.size (.slice (some ⟨g, 0, none⟩) l.length cap) l3 ∧ Below w.heap.size w w7 := ⟨j, (l2.set (j + 1) mb).set j ma, by have := hlS.out.2.2.1; omega, rfl, hpp, hfin.out.1, hfin.out.2⟩
         first | exact R | ((repeat apply Exists.intro); exact ⟨R, rfl⟩)
        case measure => first | (simp [intOf]; done) | (simp [intOf]; omega)
       ·try simp only [zA, zB, zC, Act.put, zD, zE, zF]
        try simp only [zA, zB, zC, Act.put, zD, zE, zF]
        try rw [if_pos (by rfl)]
        refine wp_load_mid _ _ rfl _ _ rfl _ _ (hra.out _ hwS) Tryz.underlying35 rfl (by kernel_rfl) ?_
        refine hK.out _ _ trivial (fun hHeld => ?_)
        clear hK K
        try simp only [zA, zB, zC, Act.put, zD, zE, zF]
        refine wpAnyH_ready (rs := [9]) (by kernel_rfl) (by simp) ?_
        refine AllReadyH.cons rfl (fun K hK => ?_) AllReadyH.nil
        try simp only [zA, zB, zC, Act.put, zD, zE, zF]
        try rw [if_pos (by rfl)]
        refine wp_load_mid _ _ rfl _ _ rfl _ _ (hrb.out _ hwS) Tryz.underlying35 rfl (by kernel_rfl) ?_
        refine hK.out _ _ trivial (fun hHeld => ?_)
        clear hK K
        try simp only [zA, zB, zC, Act.put, zD, zE, zF]
        refine takeC (i := 14) rfl hHeld ?_
        try simp only [zA, zB, zC, Act.put, zD, zE, zF]
        refine wpAnyH_ready (rs := [15]) (by kernel_rfl) (by simp) ?_
        refine AllReadyH.cons rfl (fun K hK => ?_) AllReadyH.nil
        try simp only [zA, zB, zC, Act.put, zD, zE, zF]
        try rw [if_pos (by rfl)]
        refine wp_store_mid 35 _ _ rfl g ((j + 1) * 3) (mvC mb).toArray (by rfl) (by rfl) (by have h := (own_row hwS).there (j + 1) (by first | exact hj1 | exact hj0 | (rw [List.length_set]; exact hj0)); rw [Nat.mul_comm] at h; exact h) (by kernel_rfl) (mvC_one mb) ?_
        have hs1 := own_set3 hwS (j + 1) (by first | exact hj1 | exact hj0 | (rw [List.length_set]; exact hj0)) mb
        rw [Nat.mul_comm 3] at hs1
        have hB4 := below_setCells hB3 g ((j + 1) * 3) mb hge
        generalize w4.drew.setCells g ((j + 1) * 3) (mvC mb) = w6 at *
        refine hK.out _ _ trivial (fun hHeld => ?_)
        clear hK K
        try simp only [zA, zB, zC, Act.put, zD, zE, zF]
        refine takeC (i := 16) rfl hHeld ?_
        try simp only [zA, zB, zC, Act.put, zD, zE, zF]
        refine wpAnyH_ready (rs := [17]) (by kernel_rfl) (by simp) ?_
        refine AllReadyH.cons rfl (fun K hK => ?_) AllReadyH.nil
        try simp only [zA, zB, zC, Act.put, zD, zE, zF]
        try rw [if_pos (by rfl)]
        refine wp_store_mid 35 _ _ rfl g (j * 3) (mvC ma).toArray (by rfl) (by rfl) (by have h := (own_row hs1).there j (by first | exact hj1 | exact hj0 | (rw [List.length_set]; exact hj0)); rw [Nat.mul_comm] at h; exact h) (by kernel_rfl) (mvC_one ma) ?_
        have hs2 := own_set3 hs1 j (by first | exact hj1 | exact hj0 | (rw [List.length_set]; exact hj0)) ma
        rw [Nat.mul_comm 3] at hs2
        have hB5 := below_setCells hB4 g (j * 3) ma hge
        generalize w6.setCells g (j * 3) (mvC ma) = w7 at *
        refine hK.out _ _ trivial (fun hHeld => ?_)
        clear hK K hs1 hB4 hB3 hwS
        try simp only [zA, zB, zC, Act.put, zD, zE, zF]
        refine wpAnyH_done (by kernel_rfl) ?_ _
        have hfin := show Shut _ from And.intro hs2 hB5
        clear hs2 hB5
        go_wp2_with fail
        go_roundw
        case rel =>
         have hpp : ((l2.set (j + 1) mb).set j ma).Perm l := by
          have h := swap_perm l2 (j + 1) (by omega) hj1
          unfold swapL at h
          rw [Nat.add_sub_cancel, hms.out.1, hms.out.2] at h
          exact h.trans hlS.out.1
         have R : ∃ (j' : Nat) (l3 : List Mv), j' ≤ k ∧ Value.int .i64 (j : Int) = .int .i64 (j' : Int) ∧ l3.Perm l ∧ ownMvs w7 w.heap.size (.slice (some ⟨g, 0, none⟩) l.length cap) l3 ∧ Below w.heap.size w w7 := ⟨j, (l2.set (j + 1) mb).set j ma, by have := hlS.out.2.2.1; omega, rfl, hpp, hfin.out.1, hfin.out.2⟩
         first | exact R | ((repeat apply Exists.intro); exact ⟨R, rfl⟩)
        case measure => first | (simp [intOf]; done) | (simp [intOf]; omega)
   ·obtain hkk : k = l.length ∨ l.length ≤ 1 := by omega
    have hpS := show Shut _ from And.intro hperm (And.intro hown hB)
    have hnlt : ¬ (k : Int) < (l.length : Int) := by omega
    clear hperm hown hB hle hkk
    go_wp2_with fail
    go_ret
    first
    | exact ⟨_, l', rfl, hpS.out.1, hpS.out.2.1, hpS.out.2.2⟩
    | exact ⟨_, rfl, l', hpS.out.1, hpS.out.2.1, hpS.out.2.2⟩

end Go.Proofs.YtnjdgooljnbebaaGreatDoor
namespace Go.Proofs.YtnjdgooljnbebaaGreatDoor
open Go Go.RowKit
open List renaming getElem_toArray → zA, getElem_cons_zero → zB, getElem_cons_succ → zC, setIfInBounds_toArray → zD, set_cons_zero → zE, set_cons_succ → zF
set_option maxHeartbeats 8000000
set_option linter.unusedSimpArgs false
set_option linter.unusedVariables false
set_option maxRecDepth 100000

/-- The first n squares from i on by 'way' are empty. -/
def runTo (p : List Int) (way i : Int) : Nat → Bool
 | 0 => true
 | n + 1 => runTo p way i n && decide (pcAt p (i + way * (n : Int)) = 0)
def castWay (r : Nat) : Int := if r % 2 = 0 then 1 else -1
def castLen (r : Nat) : Nat := if r % 2 = 0 then 2 else 3
def castOne (p : List Int) (r : Nat) : List Mv :=
 if hasR (rightsB p) r = false ∨ attackedB p (homeK r) (1 - p.getD 64 0) = true then []
 else if (!attackedB p (homeK r + castWay r) (1 - p.getD 64 0) && runTo p (castWay r) (homeK r + castWay r) (castLen r)) = true then [⟨homeK r, homeK r + 2 * castWay r, 0⟩] else []
def castTo (p : List Int) (t : Nat) : Nat → List Mv
 | 0 => []
 | n + 1 => castTo p t n ++ castOne p (2 * t + n)
def castL (p : List Int) : List Mv := castTo p (p.getD 64 0).toNat 2
theorem castOne_le (p : List Int) (r : Nat) : (castOne p r).length ≤ 1 := by
 unfold castOne
 split
 ·simp
 ·split <;> simp
theorem castTo_le (p : List Int) (t : Nat) : ∀ n, (castTo p t n).length ≤ n
 | 0 => by simp [castTo]
 | n + 1 => by
  have h1 := castTo_le p t n
  have h2 := castOne_le p (2 * t + n)
  rw [castTo, List.length_append]
  omega
theorem cs_castles (p : List Int) (hp : Pos p) (tn : Nat) (hT : p.getD 64 0 = (tn : Int)) (ht : tn ≤ 1) (hc0 : 0 ≤ p.getD 65 0) (hc1 : p.getD 65 0 ≤ 15) (w : World) :
  Calls Tryz.prog 94 #[.agg (ints p)] w fun e w' => ∃ v, e = .returned v ∧ ownMvs w' w.heap.size v (castL p) ∧ Below w.heap.size w w' := by
 obtain ⟨i0, hi, hz0, hz1, hz2⟩ := info_parts mv_info
 have hlp := hp.len
 have hrow : PosAt p w.heap.size (w.alloc (.cells (ints p) 24)) := heap_alloc_new w (.cells (ints p) 24)
 have hBW : Below w.heap.size w (w.alloc (.cells (ints p) 24)) := (Below.refl _ _).alloc (Nat.le_refl _) _
 have h64 := show Shut (∀ W : World, PosAt p w.heap.size W → W.cell? ⟨w.heap.size, 64, none⟩ = some (.int .i64 (tn : Int))) from fun W h => (h.cell 64 (by omega)).trans (by rw [hT])
 have hcl := show Shut (∀ (W : World) (i : Int), PosAt p w.heap.size W → 0 ≤ i → i ≤ 63 → W.cell? ⟨w.heap.size, i.toNat, none⟩ = some (.int .i64 (pcAt p i))) from fun W i h h0 h1 => row_cell h i.toNat (by omega)
 have hL : castL p = castTo p tn 2 := by unfold castL; rw [hT]; rfl
 have hOne := show Shut (∀ r, castOne p r = if hasR (rightsB p) r = false ∨ attackedB p (homeK r) (1 - (tn : Int)) = true then [] else if (!attackedB p (homeK r + castWay r) (1 - (tn : Int)) && runTo p (castWay r) (homeK r + castWay r) (castLen r)) = true then [⟨homeK r, homeK r + 2 * castWay r, 0⟩] else []) from fun r => by unfold castOne; rw [hT]
 have hLs := show Shut _ from hL
 have hRt := show Shut (∀ W : World, Calls Tryz.prog 60 #[.agg (ints p)] W fun e w' => e = .returned (.int .i64 (rightsB p)) ∧ Below W.heap.size W w') from fun W => ri_rights p hp hc0 hc1 W
 have hAt := show Shut (∀ (s c : Int), 0 ≤ s → s ≤ 63 → ∀ W : World, Calls Tryz.prog 53 #[.agg (ints p), .int .i64 s, .int .i64 c] W fun e w' => e = .returned (.bool (attackedB p s c)) ∧ Below W.heap.size W w') from fun s c h0 h1 W => at_attacked p hp s c h0 h1 W
 have hrg := rights_range p 4
 change 0 ≤ rightsB p ∧ rightsB p ≤ 2 ^ 4 - 1 at hrg
 have hpn : (2 : Int) ^ 4 = 16 := by decide
 rw [hpn] at hrg
 have hq0 : 0 ≤ rightsB p := hrg.1
 have hq1 : rightsB p ≤ 15 := by omega
 clear hrg hpn hL hT
 generalize rightsB p = rb at *
 go_enter Tryz.func94, Tryz.ntmps94
 go_upto_region 2 with (fail)
 generalize w.alloc (.cells (ints p) 24) = W at *
 have ct := h64.out W hrow
 have hlt0 := hrow.lt
 go_wp2_with fail
 go_loopw [3, 4] (fun l i wr => ∃ n : Nat, n ≤ 2 ∧ i = .int .i64 ((2 * tn + n : Nat) : Int) ∧ PosAt p w.heap.size wr ∧ ownMvs wr (w.heap.size + 1) l (castTo p tn n) ∧ Below w.heap.size w wr) (fun _ i _ => (2 * tn + 2 - (intOf i).toNat))
 case atStart => exact ⟨0, by omega, by congr 1, hrow, World.ownsRow_nil _ _ _ _, hBW⟩
 case round =>
  clear hrow hBW ct hlt0
  obtain ⟨n, hn, rfl, hrow, hown, hB⟩ := hrel
  have ct := h64.out wr hrow
  by_cases hlt : n < 2
  ·have hst := show Shut (castTo p tn (n + 1) = castTo p tn n ++ castOne p (2 * tn + n)) from rfl
   have hle := castTo_le p tn n
   have hr4 : 2 * tn + n < 4 := by omega
   have hpar : (2 * tn + n) % 2 = n := by omega
   have hr2 : ((2 * tn + n : Nat) : Int) < 2 * (tn : Int) + 2 := by omega
   have hnx : ((2 * tn + n : Nat) : Int) + 1 = ((2 * tn + (n + 1) : Nat) : Int) := by omega
   have hnxS := show Shut _ from hnx
   clear hnx
   generalize castTo p tn n = xs at *
   generalize hr : 2 * tn + n = r at *
   have hrS := show Shut _ from hr
   clear hr
   have hone := hOne.out r
   have hhm := ri_home r hr4
   have hk4 : 4 ≤ homeK r ∧ homeK r ≤ 60 := by unfold homeK; omega
   obtain ⟨k4, k60⟩ := hk4
   have hbit : bits .and .i64 (rb / 2 ^ r) 1 = rb / 2 ^ r % 2 := by
    have g0 : 0 ≤ rb / 2 ^ r := Int.ediv_nonneg hq0 (Int.le_of_lt (Int.pow_pos (by decide)))
    have g1 : rb / 2 ^ r ≤ rb := Int.ediv_le_self _ hq0
    exact bits_mask .i64 8 (by decide) (fun n h0 h1 => by rw [IntKind.wrap_i64]; omega) 1 (by decide) _ g0 (by omega)
   have hhR : homeR r = if r % 2 = 0 then homeK r + 3 else homeK r - 4 := by unfold homeR homeK; split <;> omega
   rw [hpar] at hhR
   have hcw : castWay r = if n = 0 then 1 else -1 := by unfold castWay; rw [hpar]
   have hcn : castLen r = if n = 0 then 2 else 3 := by unfold castLen; rw [hpar]
   generalize homeK r = k at *
   generalize homeR r = rr at *
   generalize castWay r = cw at *
   generalize castLen r = cn at *
   have hids := show Shut _ from And.intro hone (And.intro hhm hle)
   clear hone hhm hle
   have hownS := show Shut _ from And.intro hown hB
   clear hown hB
   have hu : wr.heap[w.heap.size]? = some (.cells (ints p) 24 (0, 0)) := hrow
   rcases (show n = 0 ∨ n = 1 by omega) with rfl | rfl
   ·rw [if_pos rfl] at hhR hcw hcn
    subst hhR hcw hcn
    by_cases hb : rb / 2 ^ r % 2 = 1
    ·rw [hb] at hbit
     have hbs := show Shut (hasR rb r = true) from decide_eq_true hb
     clear hb
     go_wp2_with (first
      | (go_at_call 89; refine (hids.out.2.1 _).mono ?_; rintro e1 w1 ⟨rfl, rfl⟩)
      | ((with_reducible refine at_load_row hu Tryz.underlying24 rfl ?_ ?_ ?_); (rw [ints_size, hlp]; kernel_rfl); rfl)
      | (go_at_call 60; refine (hRt.out _).mono ?_; rintro e2 w2 ⟨rfl, hb2⟩; have hrow2 := hrow.below hb2; have hu2 : w2.heap[w.heap.size]? = some (.cells (ints p) 24 (0, 0)) := hrow2; have ct2 := h64.out w2 hrow2)
      | ((with_reducible refine at_load_rowG hu2 Tryz.underlying24 rfl ?_ ?_ ?_ ?_); (rw [ints_size, hlp]; kernel_rfl); rfl; rfl))
     refine (hAt.out k (1 - (tn : Int)) (by omega) (by omega) _).mono ?_
     rintro e3 w3 ⟨rfl, hb3⟩
     have hrow3 := hrow2.below hb3
     have hu3 : w3.heap[w.heap.size]? = some (.cells (ints p) 24 (0, 0)) := hrow3
     have ct3 := h64.out w3 hrow3
     have hown3 := own_next (own_next hownS.out.1 hb2) hb3
     have hsw := hownS.out.2.size
     have hB3 := (hownS.out.2.trans (hb2.mono hsw)).trans (hb3.mono (Nat.le_trans hsw hb2.size))
     have hS3 := show Shut _ from And.intro hown3 hB3
     clear hown3 hB3 hb2 hb3 ct2 hu2 hrow2 hu ct hrow hbit hsw
     cases hA : attackedB p k (1 - (tn : Int)) with
     | true =>
      have hE : castOne p r = [] := by rw [hids.out.1, if_pos (Or.inr hA)]
      have hEs := show Shut _ from hE
      clear hE hA
      go_wp2_with fail
      go_roundw
      case rel => exact ⟨0 + 1, by omega, by rw [hnxS.out], hrow3, by rw [hst.out, hEs.out, List.append_nil]; exact hS3.out.1, hS3.out.2⟩
      case measure => have := hrS.out; simp [intOf]; omega
     | false =>
      have hAs := show Shut _ from hA
      clear hA
      go_wp2_with (first
       | ((with_reducible refine at_load_row hu3 Tryz.underlying24 rfl ?_ ?_ ?_); (rw [ints_size, hlp]; kernel_rfl); rfl))
      refine (hAt.out (k + 1) (1 - (tn : Int)) (by omega) (by omega) _).mono ?_
      rintro e4 w4 ⟨rfl, hb4⟩
      have hrow4 := hrow3.below hb4
      have ct4 := h64.out w4 hrow4
      have hS4 := show Shut _ from And.intro (own_next hS3.out.1 hb4) (hS3.out.2.trans (hb4.mono hS3.out.2.size))
      have hsw4 : w.heap.size + 1 ≤ w4.heap.size := by have := hrow4.lt; omega
      clear hrow3 hu3 ct3 hb4 hS3
      have hE := hids.out.1
      rw [if_neg (by rw [hbs.out, hAs.out]; simp)] at hE
      have hEs := show Shut _ from hE
      clear hE
      generalize hf0 : attackedB p (k + 1) (1 - (tn : Int)) = f0 at *
      have hf0s := show Shut _ from hf0
      clear hf0
      go_wp2_with fail
      go_loopw [8, 9] (fun fr i wr5 => ∃ (j : Nat) (x : Int), j ≤ 2 ∧ x = k + 1 + (j : Int) ∧ i = .int .i64 x ∧ fr = .bool (!f0 && runTo p (1) (k + 1) j) ∧ wr5 = w4) (fun _ i _ => (k + 3 - intOf i).toNat)
      case atStart => exact ⟨0, k + 1, by omega, by omega, by first | rfl | (congr 1; omega), by simp [runTo], rfl⟩
      case round =>
       obtain ⟨j, x, hj, hxe, rfl, rfl, rfl⟩ := hrel
       have hx1 : x ≤ k + 1 + (j : Int) := by omega
       have hx2 : k + 1 + (j : Int) ≤ x := by omega
       have hxs := show Shut _ from hxe
       clear hxe
       by_cases hjn : j < 2
       ·have hcj := hcl.out wr x hrow4 (by omega) (by omega)
        have hrt : runTo p (1) (k + 1) (j + 1) = (runTo p (1) (k + 1) j && decide (pcAt p x = 0)) := by rw [runTo, show k + 1 + 1 * (j : Int) = x by omega]
        have hrts := show Shut _ from hrt
        have hpb0 : (0 : Int) ≤ x := by omega
        have hpb1 : x < 64 := by omega
        have hne : (x == k + 3) = false := by simp; omega
        clear hrt
        cases hfj : (!f0 && runTo p (1) (k + 1) j) with
        | false =>
         have hfs := show Shut _ from hfj
         clear hfj
         go_wp2_with fail
         go_roundw
         case rel => exact ⟨j + 1, x + 1, by omega, by omega, by first | rfl | (congr 1; omega), by rw [hrts.out, ← Bool.and_assoc, hfs.out]; rfl, trivial⟩
         case measure => simp [intOf]; omega
        | true =>
         have hfs := show Shut _ from hfj
         clear hfj
         by_cases hz : pcAt p x = 0
         ·rw [hz] at hcj
          have hzs := show Shut _ from hz
          clear hz
          go_wp2_with fail
          go_roundw
          case rel => exact ⟨j + 1, x + 1, by omega, by omega, by first | rfl | (congr 1; omega), by rw [hrts.out, ← Bool.and_assoc, hfs.out, decide_eq_true hzs.out]; rfl, trivial⟩
          case measure => simp [intOf]; omega
         ·have hzb : (pcAt p x == 0) = false := by simpa using hz
          have hzs := show Shut _ from hz
          clear hz
          generalize hpz : pcAt p x = z at *
          go_wp2_with fail
          go_roundw
          case rel => exact ⟨j + 1, x + 1, by omega, by omega, by first | rfl | (congr 1; omega), by rw [hrts.out, ← Bool.and_assoc, hfs.out, decide_eq_false hzs.out]; rfl, trivial⟩
          case measure => simp [intOf]; omega
       ·obtain rfl : j = 2 := by omega
        have heq : (x == k + 3) = true := by simp; omega
        cases hfj : (!f0 && runTo p (1) (k + 1) 2) with
        | false =>
         have hE : castOne p r = [] := by rw [hEs.out, hfj]; rfl
         have hFs := show Shut _ from hE
         clear hfj hE
         go_wp2_with fail
         go_roundw
         case rel =>
          have R : ∃ n' : Nat, n' ≤ 2 ∧ Value.int .i64 ((r : Int) + 1) = .int .i64 ((2 * tn + n' : Nat) : Int) ∧ PosAt p w.heap.size wr ∧ ownMvs wr (w.heap.size + 1) u3 (castTo p tn n') ∧ Below w.heap.size w wr := ⟨0 + 1, by omega, by rw [hnxS.out], hrow4, by rw [hst.out, hFs.out, List.append_nil]; exact hS4.out.1, hS4.out.2⟩
          first | exact R | ((repeat apply Exists.intro); exact ⟨R, rfl⟩)
         case measure => have := hrS.out; simp [intOf]; omega
        | true =>
         have hE : castOne p r = [⟨k, k + 2 * (1), 0⟩] := by rw [hEs.out, hfj]; rfl
         have hFs := show Shut _ from hE
         have hown4 := hS4.out.1
         have hlx := hids.out.2.2
         clear hfj hE
         go_wp2_with (with_reducible refine at_appendk (esz := 3) [.int .i64 k, .int .i64 (k + 2), .int .i64 0] rfl Tryz.underlying30 hi hz0 hz1 hz2 rfl (by decide) (by decide) ?_ (w.heap.size + 1) _ _ _ hown4 ?_ hsw4 ?_ ?_ ?_)
         ·intro u hu; simp at hu; rcases hu with rfl | rfl | rfl <;> rfl
         ·omega
         ·rfl
         ·rfl
         intro v' w' hown' hbel' hkeep' hap' hsz'
         have R : ∃ n' : Nat, n' ≤ 2 ∧ Value.int .i64 ((r : Int) + 1) = .int .i64 ((2 * tn + n' : Nat) : Int) ∧ PosAt p w.heap.size w' ∧ ownMvs w' (w.heap.size + 1) v' (castTo p tn n') ∧ Below w.heap.size w w' := by
          refine ⟨0 + 1, by omega, by rw [hnxS.out], (hbel'.block w.heap.size (by omega)).trans hrow4, ?_, hS4.out.2.trans (hbel'.mono (by omega))⟩
          rw [hst.out, hFs.out]
          unfold ownMvs mvsC
          rw [List.length_append, List.flatMap_append]
          exact hown'
         have RS := show Shut _ from R
         clear R hown' hbel' hkeep' hap' hown4
         go_wp2_with fail
         go_roundw
         case rel =>
          have R := RS.out
          first | exact R | ((repeat apply Exists.intro); exact ⟨R, rfl⟩)
         case measure => have := hrS.out; simp [intOf]; omega
    ·have hb0 : rb / 2 ^ r % 2 = 0 := by omega
     rw [hb0] at hbit
     have hE : castOne p r = [] := by rw [hids.out.1, if_pos (Or.inl (show hasR rb r = false from decide_eq_false hb))]
     have hEs := show Shut _ from hE
     clear hb hb0 hE
     go_wp2_with (first
      | (go_at_call 89; refine (hids.out.2.1 _).mono ?_; rintro e1 w1 ⟨rfl, rfl⟩)
      | ((with_reducible refine at_load_row hu Tryz.underlying24 rfl ?_ ?_ ?_); (rw [ints_size, hlp]; kernel_rfl); rfl)
      | (go_at_call 60; refine (hRt.out _).mono ?_; rintro e2 w2 ⟨rfl, hb2⟩))
     have hrow2 := hrow.below hb2
     have hS2 := show Shut _ from And.intro (own_next hownS.out.1 hb2) (hownS.out.2.trans (hb2.mono hownS.out.2.size))
     clear hb2
     go_roundw
     case rel => exact ⟨0 + 1, by omega, by rw [hnxS.out], hrow2, by rw [hst.out, hEs.out, List.append_nil]; exact hS2.out.1, hS2.out.2⟩
     case measure => have := hrS.out; simp [intOf]; omega
   ·rw [if_neg (by decide)] at hhR hcw hcn
    subst hhR hcw hcn
    by_cases hb : rb / 2 ^ r % 2 = 1
    ·rw [hb] at hbit
     have hbs := show Shut (hasR rb r = true) from decide_eq_true hb
     clear hb
     go_wp2_with (first
      | (go_at_call 89; refine (hids.out.2.1 _).mono ?_; rintro e1 w1 ⟨rfl, rfl⟩)
      | ((with_reducible refine at_load_row hu Tryz.underlying24 rfl ?_ ?_ ?_); (rw [ints_size, hlp]; kernel_rfl); rfl)
      | (go_at_call 60; refine (hRt.out _).mono ?_; rintro e2 w2 ⟨rfl, hb2⟩; have hrow2 := hrow.below hb2; have hu2 : w2.heap[w.heap.size]? = some (.cells (ints p) 24 (0, 0)) := hrow2; have ct2 := h64.out w2 hrow2)
      | ((with_reducible refine at_load_rowG hu2 Tryz.underlying24 rfl ?_ ?_ ?_ ?_); (rw [ints_size, hlp]; kernel_rfl); rfl; rfl))
     refine (hAt.out k (1 - (tn : Int)) (by omega) (by omega) _).mono ?_
     rintro e3 w3 ⟨rfl, hb3⟩
     have hrow3 := hrow2.below hb3
     have hu3 : w3.heap[w.heap.size]? = some (.cells (ints p) 24 (0, 0)) := hrow3
     have ct3 := h64.out w3 hrow3
     have hown3 := own_next (own_next hownS.out.1 hb2) hb3
     have hsw := hownS.out.2.size
     have hB3 := (hownS.out.2.trans (hb2.mono hsw)).trans (hb3.mono (Nat.le_trans hsw hb2.size))
     have hS3 := show Shut _ from And.intro hown3 hB3
     clear hown3 hB3 hb2 hb3 ct2 hu2 hrow2 hu ct hrow hbit hsw
     cases hA : attackedB p k (1 - (tn : Int)) with
     | true =>
      have hE : castOne p r = [] := by rw [hids.out.1, if_pos (Or.inr hA)]
      have hEs := show Shut _ from hE
      clear hE hA
      go_wp2_with fail
      go_roundw
      case rel => exact ⟨1 + 1, by omega, by rw [hnxS.out], hrow3, by rw [hst.out, hEs.out, List.append_nil]; exact hS3.out.1, hS3.out.2⟩
      case measure => have := hrS.out; simp [intOf]; omega
     | false =>
      have hAs := show Shut _ from hA
      clear hA
      go_wp2_with (first
       | ((with_reducible refine at_load_row hu3 Tryz.underlying24 rfl ?_ ?_ ?_); (rw [ints_size, hlp]; kernel_rfl); rfl))
      refine (hAt.out (k + -1) (1 - (tn : Int)) (by omega) (by omega) _).mono ?_
      rintro e4 w4 ⟨rfl, hb4⟩
      have hrow4 := hrow3.below hb4
      have ct4 := h64.out w4 hrow4
      have hS4 := show Shut _ from And.intro (own_next hS3.out.1 hb4) (hS3.out.2.trans (hb4.mono hS3.out.2.size))
      have hsw4 : w.heap.size + 1 ≤ w4.heap.size := by have := hrow4.lt; omega
      clear hrow3 hu3 ct3 hb4 hS3
      have hE := hids.out.1
      rw [if_neg (by rw [hbs.out, hAs.out]; simp)] at hE
      have hEs := show Shut _ from hE
      clear hE
      generalize hf0 : attackedB p (k + -1) (1 - (tn : Int)) = f0 at *
      have hf0s := show Shut _ from hf0
      clear hf0
      go_wp2_with fail
      go_loopw [8, 9] (fun fr i wr5 => ∃ (j : Nat) (x : Int), j ≤ 3 ∧ x = k - 1 - (j : Int) ∧ i = .int .i64 x ∧ fr = .bool (!f0 && runTo p (-1) (k + -1) j) ∧ wr5 = w4) (fun _ i _ => (intOf i - (k - 4)).toNat)
      case atStart => exact ⟨0, k + -1, by omega, by omega, by first | rfl | (congr 1; omega), by simp [runTo], rfl⟩
      case round =>
       obtain ⟨j, x, hj, hxe, rfl, rfl, rfl⟩ := hrel
       have hx1 : x ≤ k - 1 - (j : Int) := by omega
       have hx2 : k - 1 - (j : Int) ≤ x := by omega
       have hxs := show Shut _ from hxe
       clear hxe
       by_cases hjn : j < 3
       ·have hcj := hcl.out wr x hrow4 (by omega) (by omega)
        have hrt : runTo p (-1) (k + -1) (j + 1) = (runTo p (-1) (k + -1) j && decide (pcAt p x = 0)) := by rw [runTo, show k + -1 + -1 * (j : Int) = x by omega]
        have hrts := show Shut _ from hrt
        have hpb0 : (0 : Int) ≤ x := by omega
        have hpb1 : x < 64 := by omega
        have hne : (x == k - 4) = false := by simp; omega
        clear hrt
        cases hfj : (!f0 && runTo p (-1) (k + -1) j) with
        | false =>
         have hfs := show Shut _ from hfj
         clear hfj
         go_wp2_with fail
         go_roundw
         case rel => exact ⟨j + 1, x + -1, by omega, by omega, by first | rfl | (congr 1; omega), by rw [hrts.out, ← Bool.and_assoc, hfs.out]; rfl, trivial⟩
         case measure => simp [intOf]; omega
        | true =>
         have hfs := show Shut _ from hfj
         clear hfj
         by_cases hz : pcAt p x = 0
         ·rw [hz] at hcj
          have hzs := show Shut _ from hz
          clear hz
          go_wp2_with fail
          go_roundw
          case rel => exact ⟨j + 1, x + -1, by omega, by omega, by first | rfl | (congr 1; omega), by rw [hrts.out, ← Bool.and_assoc, hfs.out, decide_eq_true hzs.out]; rfl, trivial⟩
          case measure => simp [intOf]; omega
         ·have hzb : (pcAt p x == 0) = false := by simpa using hz
          have hzs := show Shut _ from hz
          clear hz
          generalize hpz : pcAt p x = z at *
          go_wp2_with fail
          go_roundw
          case rel => exact ⟨j + 1, x + -1, by omega, by omega, by first | rfl | (congr 1; omega), by rw [hrts.out, ← Bool.and_assoc, hfs.out, decide_eq_false hzs.out]; rfl, trivial⟩
          case measure => simp [intOf]; omega
       ·obtain rfl : j = 3 := by omega
        have heq : (x == k - 4) = true := by simp; omega
        cases hfj : (!f0 && runTo p (-1) (k + -1) 3) with
        | false =>
         have hE : castOne p r = [] := by rw [hEs.out, hfj]; rfl
         have hFs := show Shut _ from hE
         clear hfj hE
         go_wp2_with fail
         go_roundw
         case rel =>
          have R : ∃ n' : Nat, n' ≤ 2 ∧ Value.int .i64 ((r : Int) + 1) = .int .i64 ((2 * tn + n' : Nat) : Int) ∧ PosAt p w.heap.size wr ∧ ownMvs wr (w.heap.size + 1) u3 (castTo p tn n') ∧ Below w.heap.size w wr := ⟨1 + 1, by omega, by rw [hnxS.out], hrow4, by rw [hst.out, hFs.out, List.append_nil]; exact hS4.out.1, hS4.out.2⟩
          first | exact R | ((repeat apply Exists.intro); exact ⟨R, rfl⟩)
         case measure => have := hrS.out; simp [intOf]; omega
        | true =>
         have hE : castOne p r = [⟨k, k + 2 * (-1), 0⟩] := by rw [hEs.out, hfj]; rfl
         have hFs := show Shut _ from hE
         have hown4 := hS4.out.1
         have hlx := hids.out.2.2
         clear hfj hE
         go_wp2_with (with_reducible refine at_appendk (esz := 3) [.int .i64 k, .int .i64 (k + -2), .int .i64 0] rfl Tryz.underlying30 hi hz0 hz1 hz2 rfl (by decide) (by decide) ?_ (w.heap.size + 1) _ _ _ hown4 ?_ hsw4 ?_ ?_ ?_)
         ·intro u hu; simp at hu; rcases hu with rfl | rfl | rfl <;> rfl
         ·omega
         ·rfl
         ·rfl
         intro v' w' hown' hbel' hkeep' hap' hsz'
         have R : ∃ n' : Nat, n' ≤ 2 ∧ Value.int .i64 ((r : Int) + 1) = .int .i64 ((2 * tn + n' : Nat) : Int) ∧ PosAt p w.heap.size w' ∧ ownMvs w' (w.heap.size + 1) v' (castTo p tn n') ∧ Below w.heap.size w w' := by
          refine ⟨1 + 1, by omega, by rw [hnxS.out], (hbel'.block w.heap.size (by omega)).trans hrow4, ?_, hS4.out.2.trans (hbel'.mono (by omega))⟩
          rw [hst.out, hFs.out]
          unfold ownMvs mvsC
          rw [List.length_append, List.flatMap_append]
          exact hown'
         have RS := show Shut _ from R
         clear R hown' hbel' hkeep' hap' hown4
         go_wp2_with fail
         go_roundw
         case rel =>
          have R := RS.out
          first | exact R | ((repeat apply Exists.intro); exact ⟨R, rfl⟩)
         case measure => have := hrS.out; simp [intOf]; omega
    ·have hb0 : rb / 2 ^ r % 2 = 0 := by omega
     rw [hb0] at hbit
     have hE : castOne p r = [] := by rw [hids.out.1, if_pos (Or.inl (show hasR rb r = false from decide_eq_false hb))]
     have hEs := show Shut _ from hE
     clear hb hb0 hE
     go_wp2_with (first
      | (go_at_call 89; refine (hids.out.2.1 _).mono ?_; rintro e1 w1 ⟨rfl, rfl⟩)
      | ((with_reducible refine at_load_row hu Tryz.underlying24 rfl ?_ ?_ ?_); (rw [ints_size, hlp]; kernel_rfl); rfl)
      | (go_at_call 60; refine (hRt.out _).mono ?_; rintro e2 w2 ⟨rfl, hb2⟩))
     have hrow2 := hrow.below hb2
     have hS2 := show Shut _ from And.intro (own_next hownS.out.1 hb2) (hownS.out.2.trans (hb2.mono hownS.out.2.size))
     clear hb2
     go_roundw
     case rel => exact ⟨1 + 1, by omega, by rw [hnxS.out], hrow2, by rw [hst.out, hEs.out, List.append_nil]; exact hS2.out.1, hS2.out.2⟩
     case measure => have := hrS.out; simp [intOf]; omega
  ·obtain rfl : n = 2 := by omega
   have hge : ¬ ((2 * tn + 2 : Nat) : Int) < 2 * (tn : Int) + 2 := by omega
   have hS := show Shut _ from And.intro hown hB
   clear hown hB
   go_wp2_with fail
   go_ret
   exact ⟨_, rfl, by rw [hLs.out]; exact own_mono hS.out.1 (by omega), hS.out.2⟩
end Go.Proofs.YtnjdgooljnbebaaGreatDoor
namespace Go.Proofs.YtnjdgooljnbebaaGreatDoor
open Go Go.RowKit
open List renaming getElem_toArray → zA, getElem_cons_zero → zB, getElem_cons_succ → zC, setIfInBounds_toArray → zD, set_cons_zero → zE, set_cons_succ → zF
set_option maxHeartbeats 8000000
set_option linter.unusedSimpArgs false
set_option linter.unusedVariables false
set_option maxRecDepth 100000

def promos (f to : Int) : Nat → List Mv
 | 0 => []
 | n + 1 => promos f to n ++ [⟨f, to, (n : Int) + 2⟩]
/-- The moves from f to one square. -/
def pmOf (p : List Int) (f to : Int) : List Mv :=
 if pcAt p to ≠ 0 ∧ sideOf (pcAt p to) = p.getD 64 0 then []
 else if kindOf (pcAt p f) ≠ 6 ∨ to / 8 ≠ 7 - 7 * p.getD 64 0 then [⟨f, to, 0⟩] else promos f to 4
def sqL (p : List Int) (f : Int) : List Int := if kindOf (pcAt p f) = 6 then stepL p f else reach p f
def pmTo (p : List Int) (f : Int) (L : List Int) : Nat → List Mv
 | 0 => []
 | n + 1 => pmTo p f L n ++ pmOf p f (L.getD n 0)
def pseudoOf (p : List Int) (f : Int) : List Mv := if pcAt p f = 0 ∨ sideOf (pcAt p f) ≠ p.getD 64 0 then [] else pmTo p f (sqL p f) (sqL p f).length
def pseudoTo (p : List Int) : Nat → List Mv
 | 0 => []
 | n + 1 => pseudoTo p n ++ pseudoOf p (n : Int)
/-- The moves that are legal but for leaving the king in check, in one order. -/
def pseudoL (p : List Int) : List Mv := pseudoTo p 64 ++ castL p
theorem promos_len (f to : Int) : ∀ n, (promos f to n).length = n
 | 0 => rfl
 | n + 1 => by rw [promos, List.length_append, promos_len f to n]; rfl
theorem pmOf_le (p : List Int) (f to : Int) : (pmOf p f to).length ≤ 4 := by
 unfold pmOf
 split
 ·simp
 ·split
  ·simp
  ·rw [promos_len]; omega
theorem pmTo_le (p : List Int) (f : Int) (L : List Int) : ∀ n, (pmTo p f L n).length ≤ 4 * n
 | 0 => by simp [pmTo]
 | n + 1 => by
  have h1 := pmTo_le p f L n
  have h2 := pmOf_le p f (L.getD n 0)
  rw [pmTo, List.length_append]
  omega
theorem stepL_le (p : List Int) (s : Int) : (stepL p s).length ≤ 4 := by
 have h1 := fwd_le p s (sideOf (pcAt p s))
 have h2 := List.length_filter_le (takeOk p (sideOf (pcAt p s))) (hitL s (sideOf (pcAt p s)))
 have h3 := hitTo_le s (sideOf (pcAt p s)) 2
 change (hitL s (sideOf (pcAt p s))).length ≤ 2 at h3
 unfold stepL
 rw [List.length_append]
 omega
theorem sqL_le (p : List Int) (f : Int) : (sqL p f).length ≤ 56 := by
 unfold sqL
 split
 ·have := stepL_le p f; omega
 ·exact reach_le p f
theorem pseudoOf_le (p : List Int) (f : Int) : (pseudoOf p f).length ≤ 224 := by
 unfold pseudoOf
 split
 ·simp
 ·have h1 := pmTo_le p f (sqL p f) (sqL p f).length
  have h2 := sqL_le p f
  omega
theorem pseudoTo_le (p : List Int) : ∀ n, (pseudoTo p n).length ≤ 224 * n
 | 0 => by simp [pseudoTo]
 | n + 1 => by
  have h1 := pseudoTo_le p n
  have h2 := pseudoOf_le p (n : Int)
  rw [pseudoTo, List.length_append]
  omega
theorem stepL_range (p : List Int) (s : Int) (s0 : 0 ≤ s) (s1 : s ≤ 63) : ∀ t ∈ stepL p s, 0 ≤ t ∧ t ≤ 63 := by
 intro t ht
 unfold stepL at ht
 rw [List.mem_append] at ht
 rcases ht with h | h
 ·unfold fwdL at h
  have hc : sideOf (pcAt p s) = 0 ∨ sideOf (pcAt p s) = 1 := by unfold sideOf; split <;> omega
  by_cases c1 : 0 ≤ atSq (s % 8) (s / 8 + upOf (sideOf (pcAt p s))) ∧ pcAt p (atSq (s % 8) (s / 8 + upOf (sideOf (pcAt p s)))) = 0
  ·rw [if_pos c1] at h
   have r1 := atSq_range (s % 8) (s / 8 + upOf (sideOf (pcAt p s)))
   by_cases c2 : s / 8 = 1 + 5 * sideOf (pcAt p s) ∧ pcAt p (atSq (s % 8) (s / 8 + 2 * upOf (sideOf (pcAt p s)))) = 0
   ·rw [if_pos c2] at h
    have r2 := atSq_range (s % 8) (s / 8 + 2 * upOf (sideOf (pcAt p s)))
    have r3 : 0 ≤ atSq (s % 8) (s / 8 + 2 * upOf (sideOf (pcAt p s))) := by
     unfold atSq upOf
     rw [if_neg (by omega)]
     omega
    simp only [List.mem_cons, List.not_mem_nil, or_false] at h
    rcases h with rfl | rfl <;> omega
   ·rw [if_neg c2] at h
    simp only [List.mem_cons, List.not_mem_nil, or_false] at h
    subst h
    omega
  ·rw [if_neg c1] at h
   cases h
 ·exact hitL_range _ _ t ((List.mem_filter.1 h).1)
theorem sqL_range (p : List Int) (f : Int) (f0 : 0 ≤ f) (f1 : f ≤ 63) : ∀ t ∈ sqL p f, 0 ≤ t ∧ t ≤ 63 := by
 unfold sqL
 split
 ·exact stepL_range p f f0 f1
 ·exact reach_range p f
/-- The squares of a list lie in a block that is not that of the list l. -/
def SqAt (a : Option Addr) (L : List Int) (l : Value) (w : World) : Prop := ∀ i, i < L.length → ∃ g, a = some ⟨g, 0, none⟩ ∧ g < w.heap.size ∧ w.cell? ⟨g, i, none⟩ = some (.int .i64 (L.getD i 0)) ∧ l.ownBlock ≠ some g
theorem SqAt.drewN {a : Option Addr} {L : List Int} {l : Value} {w : World} (h : SqAt a L l w) (n : Nat) : SqAt a L l (w.drewN n) := h
theorem SqAt.next {a : Option Addr} {L : List Int} {l l' : Value} {w w' : World} (h : SqAt a L l w) (hs : w.heap.size ≤ w'.heap.size) (hk : ∀ g, g < w.heap.size → l.ownBlock ≠ some g → w'.heap[g]? = w.heap[g]?) (ha : ∀ g, g < w.heap.size → l.ownBlock ≠ some g → l'.ownBlock ≠ some g) : SqAt a L l' w' := fun i hi => by
 obtain ⟨g, h1, h2, h3, h4⟩ := h i hi
 exact ⟨g, h1, by omega, (World.cell?_of_block (a := ⟨g, i, none⟩) (hk g h2 h4)).trans h3, ha g h2 h4⟩
theorem own_drewN {w : World} {base : Nat} {v : Value} {l : List Mv} (h : ownMvs w base v l) (n : Nat) : ownMvs (w.drewN n) base v l := h
theorem ps_pseudo (p : List Int) (hp : Pos p) (tn : Nat) (hT : p.getD 64 0 = (tn : Int)) (ht : tn ≤ 1) (hc0 : 0 ≤ p.getD 65 0) (hc1 : p.getD 65 0 ≤ 15) (hep : -1 ≤ p.getD 66 0 ∧ p.getD 66 0 ≤ 63) (w : World) :
  Calls Tryz.prog 51 #[.agg (ints p)] w fun e w' => ∃ v l', e = .returned v ∧ l'.Perm (pseudoL p) ∧ ownMvs w' w.heap.size v l' ∧ Below w.heap.size w w' := by
 obtain ⟨i0, hi, hz0, hz1, hz2⟩ := info_parts mv_info
 have hlp := hp.len
 have hrow : PosAt p w.heap.size (w.alloc (.cells (ints p) 24)) := heap_alloc_new w (.cells (ints p) 24)
 have hBW : Below w.heap.size w (w.alloc (.cells (ints p) 24)) := (Below.refl _ _).alloc (Nat.le_refl _) _
 have h64 := show Shut (∀ W : World, PosAt p w.heap.size W → W.cell? ⟨w.heap.size, 64, none⟩ = some (.int .i64 (tn : Int))) from fun W h => (h.cell 64 (by omega)).trans (by rw [hT])
 have hcl := show Shut (∀ (W : World) (i : Int), PosAt p w.heap.size W → 0 ≤ i → i ≤ 63 → W.cell? ⟨w.heap.size, i.toNat, none⟩ = some (.int .i64 (pcAt p i))) from fun W i h h0 h1 => row_cell h i.toNat (by omega)
 have hpr := show Shut (∀ i : Int, 0 ≤ i → i ≤ 63 → 0 ≤ pcAt p i ∧ pcAt p i ≤ 12) from fun i h0 h1 => ⟨hp.lo _ (by omega), hp.hi _ (by omega)⟩
 have hSt := show Shut (∀ s : Int, 0 ≤ s → s ≤ 63 → ∀ W : World, Calls Tryz.prog 91 #[.agg (ints p), .int .i64 s] W fun e w' => ∃ v, e = .returned v ∧ ownInts w' W.heap.size v (stepL p s) ∧ Below W.heap.size W w') from fun s h0 h1 W => st_steps p hp s h0 h1 hep W
 have hRe := show Shut (∀ s : Int, 0 ≤ s → s ≤ 63 → ∀ W : World, Calls Tryz.prog 92 #[.agg (ints p), .int .i64 s] W fun e w' => ∃ v, e = .returned v ∧ ownInts w' W.heap.size v (reach p s) ∧ Below W.heap.size W w') from fun s h0 h1 W => re_reach0 p s W hp.len (by have := hp.hi s.toNat (by omega); unfold pcAt; omega) h0 h1
 have hCs := show Shut (∀ W : World, Calls Tryz.prog 94 #[.agg (ints p)] W fun e w' => ∃ v, e = .returned v ∧ ownMvs w' W.heap.size v (castL p) ∧ Below W.heap.size W w') from fun W => cs_castles p hp tn hT ht hc0 hc1 W
 have hPm := show Shut (∀ f to, pmOf p f to = if pcAt p to ≠ 0 ∧ sideOf (pcAt p to) = (tn : Int) then [] else if kindOf (pcAt p f) ≠ 6 ∨ to / 8 ≠ 7 - 7 * (tn : Int) then [⟨f, to, 0⟩] else promos f to 4) from fun f to => by unfold pmOf; rw [hT]
 have hOf := show Shut (∀ f, pseudoOf p f = if pcAt p f = 0 ∨ sideOf (pcAt p f) ≠ (tn : Int) then [] else pmTo p f (sqL p f) (sqL p f).length) from fun f => by unfold pseudoOf; rw [hT]
 have hcle := castTo_le p (p.getD 64 0).toNat 2
 change (castL p).length ≤ 2 at hcle
 clear hT
 go_enter Tryz.func51, Tryz.ntmps51
 go_upto_region 1 with (fail)
 generalize w.alloc (.cells (ints p) 24) = W at *
 go_wp2_with fail
 go_loopw [3, 4] (fun l i wr => ∃ n : Nat, n ≤ 64 ∧ i = .int .i64 (n : Int) ∧ PosAt p w.heap.size wr ∧ ownMvs wr (w.heap.size + 1) l (pseudoTo p n) ∧ Below w.heap.size w wr) (fun _ i _ => (64 - intOf i).toNat)
 case atStart => exact ⟨0, by omega, rfl, hrow, World.ownsRow_nil _ _ _ _, hBW⟩
 case round =>
  clear hrow hBW
  obtain ⟨n, hn, rfl, hrow, hown, hB⟩ := hrel
  by_cases hlt : n < 64
  ·have hst := show Shut (pseudoTo p (n + 1) = pseudoTo p n ++ pseudoOf p (n : Int)) from rfl
   have hle := pseudoTo_le p n
   have ct := h64.out wr hrow
   have cx := hcl.out wr (n : Int) hrow (by omega) (by omega)
   rw [Int.toNat_natCast] at cx
   obtain ⟨x0, x1⟩ := hpr.out (n : Int) (by omega) (by omega)
   have hof := hOf.out (n : Int)
   have hsql : sqL p (n : Int) = if kindOf (pcAt p (n : Int)) = 6 then stepL p (n : Int) else reach p (n : Int) := rfl
   have hsqr := sqL_range p (n : Int) (by omega) (by omega)
   have hsqle := sqL_le p (n : Int)
   have hpm := hPm.out (n : Int)
   generalize hxe : pcAt p (n : Int) = x at *
   generalize hbs0 : pseudoTo p n = bs at *
   have hids := show Shut _ from And.intro hof (And.intro hsql (And.intro hsqr (And.intro hpm (And.intro hbs0 hle))))
   clear hof hsql hsqr hpm hbs0 hle hxe
   have hownS := show Shut _ from And.intro hown hB
   clear hown hB
   by_cases hx0 : x = 0
   ·subst hx0
    have hE : pseudoOf p (n : Int) = [] := by rw [hids.out.1, if_pos (Or.inl rfl)]
    have hEs := show Shut _ from hE
    clear hE
    go_wp2_with fail
    go_quiet (fail)
    go_wp2_with fail
    go_roundw
    case rel => exact ⟨n + 1, by omega, by go_num, hrow, by rw [hst.out, hEs.out, List.append_nil]; exact hownS.out.1, below_drewN hownS.out.2 _⟩
    case measure => simp [intOf]; omega
   have hx1 : (x == 0) = false := by simpa using hx0
   have hx0s := show Shut _ from hx0
   clear hx0
   by_cases hs : sideOf x = (tn : Int)
   ·have hsb : (sideOf x != (tn : Int)) = false := by simpa using hs
    have hss := show Shut _ from hs
    clear hs
    by_cases k6 : kindOf x = 6
    ·skip
     have k6b : (kindOf x == 6) = true := by simpa using k6
     have k6c : (kindOf x != 6) = false := by simpa using k6
     have k6s := show Shut _ from k6
     have hLd : sqL p (n : Int) = stepL p (n : Int) := by rw [hids.out.2.1, if_pos k6]
     clear k6
     go_wp2_with fail
     go_quiet (first | (go_at_call 90; refine quiet' (hi_side _ _ (by omega))))
     have hrowW : PosAt p w.heap.size (wr.drewN nq) := hrow
     have huW : (wr.drewN nq).heap[w.heap.size]? = some (.cells (ints p) 24 (0, 0)) := hrow
     have hownW := own_drewN hownS.out.1 nq
     have hBW := below_drewN hownS.out.2 nq
     clear ct cx hrow
     generalize wr.drewN nq = W1 at *
     go_wp2_with (first
      | (go_at_call 47; refine (po_kindOf _ _ (by omega)).mono ?_; rintro e1 w1 ⟨rfl, rfl⟩)
      | ((with_reducible refine at_load_row huW Tryz.underlying24 rfl ?_ ?_ ?_); (rw [ints_size, hlp]; kernel_rfl); rfl))
     refine (hSt.out (n : Int) (by omega) (by omega) _).mono ?_
     rintro e2 w2 ⟨v2, rfl, hown2, hb2⟩
     rw [← hLd] at hown2
     have hsqr := show Shut _ from hids.out.2.2.1
     have hE0 : pseudoOf p (n : Int) = pmTo p (n : Int) (sqL p (n : Int)) (sqL p (n : Int)).length := by rw [hids.out.1, if_neg (by intro h; rcases h with h | h; exact hx0s.out h; exact h hss.out)]
     have hEs0 := show Shut _ from hE0
     clear hE0 hLd
     generalize sqL p (n : Int) = L at *
     have hszW := hownS.out.2.size
     have hlt3 : ∀ g, u3.ownBlock = some g → g < W1.heap.size := fun g hg => (hownW.lt g hg).2
     obtain ⟨a2, cap2, rfl, hcells⟩ := ints_slice hown2
     have hsq0 : SqAt a2 L u3 w2 := fun i hi => by
      obtain ⟨g, h1, h2, h3, h4⟩ := hcells i hi
      exact ⟨g, h1, h3, h4, fun e => by have := hlt3 g e; omega⟩
     have hS2 := show Shut _ from And.intro (hrowW.below hb2) (And.intro (own_next hownW hb2) (And.intro (hBW.trans (hb2.mono hBW.size)) hsq0))
     clear hcells hsq0 hlt3 hown2 hb2 hrowW hownW hBW huW hszW
     go_wp2_with fail
     go_loopw [3, 7] (fun l i wr3 => ∃ k : Nat, k ≤ L.length ∧ i = .int .i64 (k : Int) ∧ PosAt p w.heap.size wr3 ∧ ownMvs wr3 (w.heap.size + 1) l (bs ++ pmTo p (n : Int) L k) ∧ Below w.heap.size w wr3 ∧ SqAt a2 L l wr3) (fun _ i _ => L.length - (intOf i).toNat)
     case atStart => exact ⟨0, by omega, rfl, hS2.out.1, by simpa [pmTo] using hS2.out.2.1, hS2.out.2.2.1, hS2.out.2.2.2⟩
     case round =>
      clear hS2
      obtain ⟨k, hk, rfl, hrow, hown, hB, hsq⟩ := hrel
      by_cases hltk : k < L.length
      ·obtain ⟨g2, rfl, hg2, hck, hng⟩ := hsq k hltk
       have hpst := show Shut (pmTo p (n : Int) L (k + 1) = pmTo p (n : Int) L k ++ pmOf p (n : Int) (L.getD k 0)) from rfl
       have hple := pmTo_le p (n : Int) L k
       obtain ⟨to0, to1⟩ := hsqr.out (L.getD k 0) (by simp [hltk])
       have hpm := hids.out.2.2.2.1 (L.getD k 0)
       generalize hq : L.getD k 0 = to at *
       have hqs := show Shut _ from hq
       clear hq
       have ct := h64.out wr hrow
       have cy := hcl.out wr to hrow to0 to1
       obtain ⟨y0, y1⟩ := hpr.out to to0 to1
       generalize pmTo p (n : Int) L k = ms at *
       generalize pcAt p to = y at *
       have hmS := show Shut _ from And.intro hpm hple
       clear hpm hple
       have hlen1 : (bs ++ ms).length ≤ 20000 := by rw [List.length_append]; have := hids.out.2.2.2.2.2; have := hmS.out.2; omega
       have hS3 := show Shut _ from And.intro hrow (And.intro hown (And.intro hB hsq))
       clear hrow hown hB hsq hng
       by_cases hskip : y ≠ 0 ∧ sideOf y = (tn : Int)
       ·obtain ⟨hy0, hys⟩ := hskip
        have hE : pmOf p (n : Int) to = [] := by rw [hmS.out.1, if_pos ⟨hy0, hys⟩]
        have hEs := show Shut _ from hE
        have hy1 : (y != 0) = true := by simpa using hy0
        have hys2 : (sideOf y == (tn : Int)) = true := by simpa using hys
        clear hE hy0 hys
        go_wp2_with fail
        go_quiet (first | (go_at_call 90; refine quiet' (hi_side _ _ (by omega))))
        go_wp2_with fail
        go_roundw
        case rel =>
         have R : ∃ k' : Nat, k' ≤ L.length ∧ Value.int .i64 ((k : Int) + 1) = .int .i64 (k' : Int) ∧ PosAt p w.heap.size (wr.drewN nq) ∧ ownMvs (wr.drewN nq) (w.heap.size + 1) u3 (bs ++ pmTo p (n : Int) L k') ∧ Below w.heap.size w (wr.drewN nq) ∧ SqAt (some ⟨g2, 0, none⟩) L u3 (wr.drewN nq) := ⟨k + 1, by omega, by go_num, hS3.out.1, by rw [hpst.out, hEs.out, List.append_nil]; exact hS3.out.2.1, below_drewN hS3.out.2.2.1 nq, hS3.out.2.2.2⟩
         first | exact R | ((repeat apply Exists.intro); exact ⟨R, rfl⟩)
        case measure => simp [intOf]; omega
       ·have hpm2 := hmS.out.1
        rw [if_neg hskip] at hpm2
        have hp2 := show Shut _ from hpm2
        clear hpm2
        have hgo : y = 0 ∨ (y ≠ 0 ∧ sideOf y ≠ (tn : Int)) := by
         by_cases c : y = 0
         ·exact Or.inl c
         ·exact Or.inr ⟨c, fun e => hskip ⟨c, e⟩⟩
        clear hskip
        rcases hgo with rfl | ⟨hy0, hys⟩
        ·have hw : ((0 : Int) != 0) = false := rfl
         go_wp2_with fail
         go_quiet (first | (go_at_call 90; refine quiet' (hi_side _ _ (by omega))))
         go_wp2_with fail
         have hrowq : PosAt p w.heap.size (wr.drewN nq) := hS3.out.1
         have hownq := own_drewN hS3.out.2.1 nq
         have hBq := below_drewN hS3.out.2.2.1 nq
         have hsqq := hS3.out.2.2.2.drewN nq
         have hSq := show Shut _ from And.intro hrowq (And.intro hownq (And.intro hBq hsqq))
         clear hrowq hownq hBq hsqq
         generalize wr.drewN nq = wq at *
         have hrq := hSq.out.1
         have ct := h64.out wq hrq
         by_cases hrk : to / 8 = 7 - 7 * (tn : Int)
         ·have hrkb : (to / 8 != 7 - 7 * (tn : Int)) = false := by simpa using hrk
          have hrks := show Shut _ from hrk
          clear hrk
          have hE : pmOf p (n : Int) to = promos (n : Int) to 4 := by rw [hp2.out, if_neg (by intro h; rcases h with h | h; exact h k6s.out; exact h hrks.out)]
          have hEs := show Shut _ from hE
          clear hE
          go_wp2_with fail
          go_quiet (first | (go_at_call 47; refine quiet' (po_kindOf _ _ (by omega))) | (go_at_call 49; refine quiet' (po_rank _ _ (by omega) (by omega))))
          have hSr := show Shut _ from And.intro (show PosAt p w.heap.size (wq.drewN nq) from hSq.out.1) (And.intro (show ownMvs (wq.drewN nq) (w.heap.size + 1) u3 (bs ++ ms) from hSq.out.2.1) (And.intro (below_drewN hSq.out.2.2.1 nq) (hSq.out.2.2.2.drewN nq)))
          clear hrq ct
          generalize wq.drewN nq = wz at *
          go_wp2_with fail
          go_loopw [3, 9] (fun l d wr4 => ∃ q : Nat, q ≤ 4 ∧ d = .int .i64 ((q : Int) + 2) ∧ PosAt p w.heap.size wr4 ∧ ownMvs wr4 (w.heap.size + 1) l (bs ++ (ms ++ promos (n : Int) to q)) ∧ Below w.heap.size w wr4 ∧ SqAt (some ⟨g2, 0, none⟩) L l wr4) (fun _ d _ => 7 - (intOf d).toNat)
          case atStart => exact ⟨0, by omega, rfl, hSr.out.1, by simpa [promos] using hSr.out.2.1, hSr.out.2.2.1, hSr.out.2.2.2⟩
          case round =>
           clear hSr
           obtain ⟨q, hq, rfl, hrow, hownA, hB, hsq⟩ := hrel
           by_cases hlq : q < 4
           ·have hlen2 : (bs ++ (ms ++ promos (n : Int) to q)).length ≤ 20010 := by rw [← List.append_assoc, List.length_append, promos_len]; omega
            have hqst := show Shut (promos (n : Int) to (q + 1) = promos (n : Int) to q ++ [⟨(n : Int), to, (q : Int) + 2⟩]) from rfl
            have hszA : w.heap.size + 1 ≤ wr.heap.size := by have := hrow.lt; omega
            have hSr := show Shut _ from And.intro hrow (And.intro hB hsq)
            clear hrow hB hsq
            generalize promos (n : Int) to q = qs at *
            go_wp2_with (with_reducible refine at_appendk (esz := 3) [.int .i64 (n : Int), .int .i64 to, .int .i64 ((q : Int) + 2)] rfl Tryz.underlying30 hi hz0 hz1 hz2 rfl (by decide) (by decide) ?_ (w.heap.size + 1) _ _ _ hownA ?_ hszA ?_ ?_ ?_)
            ·intro u hu; simp at hu; rcases hu with rfl | rfl | rfl <;> rfl
            ·omega
            ·rfl
            ·rfl
            intro v' w' hown' hbel' hkeep' hap' hsz'
            have R : ∃ q' : Nat, q' ≤ 4 ∧ Value.int .i64 ((q : Int) + 2 + 1) = .int .i64 ((q' : Int) + 2) ∧ PosAt p w.heap.size w' ∧ ownMvs w' (w.heap.size + 1) v' (bs ++ (ms ++ promos (n : Int) to q')) ∧ Below w.heap.size w w' ∧ SqAt (some ⟨g2, 0, none⟩) L v' w' := by
             refine ⟨q + 1, by omega, by first | rfl | (congr 1; done) | (congr 1; omega), (hbel'.block w.heap.size (by omega)).trans hSr.out.1, ?_, hSr.out.2.1.trans (hbel'.mono (by omega)), hSr.out.2.2.next hsz' hkeep' hap'⟩
             rw [hqst.out, ← List.append_assoc, ← List.append_assoc, List.append_assoc bs ms]
             unfold ownMvs mvsC
             rw [List.length_append, List.flatMap_append]
             exact hown'
            have RS := show Shut _ from R
            clear R hown' hbel' hkeep' hap' hownA
            go_wp2_with fail
            go_roundw
            case rel =>
             have R := RS.out
             first | exact R | ((repeat apply Exists.intro); exact ⟨R, rfl⟩)
            case measure => simp [intOf]; omega
           ·obtain rfl : q = 4 := by omega
            have hSr := show Shut _ from And.intro hrow (And.intro hownA (And.intro hB hsq))
            clear hrow hownA hB hsq
            go_wp2_with fail
            go_roundw
            case rel =>
             have R : ∃ k' : Nat, k' ≤ L.length ∧ Value.int .i64 ((k : Int) + 1) = .int .i64 (k' : Int) ∧ PosAt p w.heap.size wr ∧ ownMvs wr (w.heap.size + 1) u3 (bs ++ pmTo p (n : Int) L k') ∧ Below w.heap.size w wr ∧ SqAt (some ⟨g2, 0, none⟩) L u3 wr := ⟨k + 1, by omega, by go_num, hSr.out.1, by rw [hpst.out, hEs.out]; exact hSr.out.2.1, hSr.out.2.2.1, hSr.out.2.2.2⟩
             first | exact R | ((repeat apply Exists.intro); exact ⟨R, rfl⟩)
            case measure => simp [intOf]; omega
         ·have hrkb : (to / 8 != 7 - 7 * (tn : Int)) = true := by simpa using hrk
          have hrks := show Shut _ from hrk
          clear hrk
          have hownA := hSq.out.2.1
          have hszA : w.heap.size + 1 ≤ wq.heap.size := by have := hrq.lt; omega
          have hE : pmOf p (n : Int) to = [⟨(n : Int), to, 0⟩] := by rw [hp2.out, if_pos (Or.inr hrks.out)]
          have hEs := show Shut _ from hE
          clear hE
          go_wp2_with fail
          go_quiet (first | (go_at_call 47; refine quiet' (po_kindOf _ _ (by omega))) | (go_at_call 49; refine quiet' (po_rank _ _ (by omega) (by omega))))
          have hsA := show Shut (w.heap.size + 1 ≤ (wq.drewN nq).heap.size) from hszA
          have hownA : ownMvs (wq.drewN nq) (w.heap.size + 1) u3 (bs ++ ms) := hSq.out.2.1
          have hSr := show Shut _ from And.intro (show PosAt p w.heap.size (wq.drewN nq) from hSq.out.1) (And.intro (below_drewN hSq.out.2.2.1 nq) (hSq.out.2.2.2.drewN nq))
          clear hszA hrq ct
          generalize wq.drewN nq = wz at *
          have hszA := hsA.out
          go_wp2_with (with_reducible refine at_appendk (esz := 3) [.int .i64 (n : Int), .int .i64 to, .int .i64 0] rfl Tryz.underlying30 hi hz0 hz1 hz2 rfl (by decide) (by decide) ?_ (w.heap.size + 1) _ _ _ hownA ?_ hszA ?_ ?_ ?_)
          ·intro u hu; simp at hu; rcases hu with rfl | rfl | rfl <;> rfl
          ·omega
          ·rfl
          ·rfl
          intro v' w' hown' hbel' hkeep' hap' hsz'
          have R : ∃ k' : Nat, k' ≤ L.length ∧ Value.int .i64 ((k : Int) + 1) = .int .i64 (k' : Int) ∧ PosAt p w.heap.size w' ∧ ownMvs w' (w.heap.size + 1) v' (bs ++ pmTo p (n : Int) L k') ∧ Below w.heap.size w w' ∧ SqAt (some ⟨g2, 0, none⟩) L v' w' := by
           refine ⟨k + 1, by omega, by go_num, (hbel'.block w.heap.size (by omega)).trans hSr.out.1, ?_, hSr.out.2.1.trans (hbel'.mono (by omega)), hSr.out.2.2.next hsz' hkeep' hap'⟩
           rw [hpst.out, hEs.out, ← List.append_assoc]
           unfold ownMvs mvsC
           rw [List.length_append, List.flatMap_append]
           exact hown'
          have RS := show Shut _ from R
          clear R hown' hbel' hkeep' hap' hownA
          go_wp2_with fail
          go_roundw
          case rel =>
           have R := RS.out
           first | exact R | ((repeat apply Exists.intro); exact ⟨R, rfl⟩)
          case measure => simp [intOf]; omega
        ·have hy1 : (y != 0) = true := by simpa using hy0
         have hys2 : (sideOf y == (tn : Int)) = false := by simpa using hys
         clear hy0 hys
         go_wp2_with fail
         go_quiet (first | (go_at_call 90; refine quiet' (hi_side _ _ (by omega))))
         go_wp2_with fail
         have hrowq : PosAt p w.heap.size (wr.drewN nq) := hS3.out.1
         have hownq := own_drewN hS3.out.2.1 nq
         have hBq := below_drewN hS3.out.2.2.1 nq
         have hsqq := hS3.out.2.2.2.drewN nq
         have hSq := show Shut _ from And.intro hrowq (And.intro hownq (And.intro hBq hsqq))
         clear hrowq hownq hBq hsqq
         generalize wr.drewN nq = wq at *
         have hrq := hSq.out.1
         have ct := h64.out wq hrq
         by_cases hrk : to / 8 = 7 - 7 * (tn : Int)
         ·have hrkb : (to / 8 != 7 - 7 * (tn : Int)) = false := by simpa using hrk
          have hrks := show Shut _ from hrk
          clear hrk
          have hE : pmOf p (n : Int) to = promos (n : Int) to 4 := by rw [hp2.out, if_neg (by intro h; rcases h with h | h; exact h k6s.out; exact h hrks.out)]
          have hEs := show Shut _ from hE
          clear hE
          go_wp2_with fail
          go_quiet (first | (go_at_call 47; refine quiet' (po_kindOf _ _ (by omega))) | (go_at_call 49; refine quiet' (po_rank _ _ (by omega) (by omega))))
          have hSr := show Shut _ from And.intro (show PosAt p w.heap.size (wq.drewN nq) from hSq.out.1) (And.intro (show ownMvs (wq.drewN nq) (w.heap.size + 1) u3 (bs ++ ms) from hSq.out.2.1) (And.intro (below_drewN hSq.out.2.2.1 nq) (hSq.out.2.2.2.drewN nq)))
          clear hrq ct
          generalize wq.drewN nq = wz at *
          go_wp2_with fail
          go_loopw [3, 9] (fun l d wr4 => ∃ q : Nat, q ≤ 4 ∧ d = .int .i64 ((q : Int) + 2) ∧ PosAt p w.heap.size wr4 ∧ ownMvs wr4 (w.heap.size + 1) l (bs ++ (ms ++ promos (n : Int) to q)) ∧ Below w.heap.size w wr4 ∧ SqAt (some ⟨g2, 0, none⟩) L l wr4) (fun _ d _ => 7 - (intOf d).toNat)
          case atStart => exact ⟨0, by omega, rfl, hSr.out.1, by simpa [promos] using hSr.out.2.1, hSr.out.2.2.1, hSr.out.2.2.2⟩
          case round =>
           clear hSr
           obtain ⟨q, hq, rfl, hrow, hownA, hB, hsq⟩ := hrel
           by_cases hlq : q < 4
           ·have hlen2 : (bs ++ (ms ++ promos (n : Int) to q)).length ≤ 20010 := by rw [← List.append_assoc, List.length_append, promos_len]; omega
            have hqst := show Shut (promos (n : Int) to (q + 1) = promos (n : Int) to q ++ [⟨(n : Int), to, (q : Int) + 2⟩]) from rfl
            have hszA : w.heap.size + 1 ≤ wr.heap.size := by have := hrow.lt; omega
            have hSr := show Shut _ from And.intro hrow (And.intro hB hsq)
            clear hrow hB hsq
            generalize promos (n : Int) to q = qs at *
            go_wp2_with (with_reducible refine at_appendk (esz := 3) [.int .i64 (n : Int), .int .i64 to, .int .i64 ((q : Int) + 2)] rfl Tryz.underlying30 hi hz0 hz1 hz2 rfl (by decide) (by decide) ?_ (w.heap.size + 1) _ _ _ hownA ?_ hszA ?_ ?_ ?_)
            ·intro u hu; simp at hu; rcases hu with rfl | rfl | rfl <;> rfl
            ·omega
            ·rfl
            ·rfl
            intro v' w' hown' hbel' hkeep' hap' hsz'
            have R : ∃ q' : Nat, q' ≤ 4 ∧ Value.int .i64 ((q : Int) + 2 + 1) = .int .i64 ((q' : Int) + 2) ∧ PosAt p w.heap.size w' ∧ ownMvs w' (w.heap.size + 1) v' (bs ++ (ms ++ promos (n : Int) to q')) ∧ Below w.heap.size w w' ∧ SqAt (some ⟨g2, 0, none⟩) L v' w' := by
             refine ⟨q + 1, by omega, by first | rfl | (congr 1; done) | (congr 1; omega), (hbel'.block w.heap.size (by omega)).trans hSr.out.1, ?_, hSr.out.2.1.trans (hbel'.mono (by omega)), hSr.out.2.2.next hsz' hkeep' hap'⟩
             rw [hqst.out, ← List.append_assoc, ← List.append_assoc, List.append_assoc bs ms]
             unfold ownMvs mvsC
             rw [List.length_append, List.flatMap_append]
             exact hown'
            have RS := show Shut _ from R
            clear R hown' hbel' hkeep' hap' hownA
            go_wp2_with fail
            go_roundw
            case rel =>
             have R := RS.out
             first | exact R | ((repeat apply Exists.intro); exact ⟨R, rfl⟩)
            case measure => simp [intOf]; omega
           ·obtain rfl : q = 4 := by omega
            have hSr := show Shut _ from And.intro hrow (And.intro hownA (And.intro hB hsq))
            clear hrow hownA hB hsq
            go_wp2_with fail
            go_roundw
            case rel =>
             have R : ∃ k' : Nat, k' ≤ L.length ∧ Value.int .i64 ((k : Int) + 1) = .int .i64 (k' : Int) ∧ PosAt p w.heap.size wr ∧ ownMvs wr (w.heap.size + 1) u3 (bs ++ pmTo p (n : Int) L k') ∧ Below w.heap.size w wr ∧ SqAt (some ⟨g2, 0, none⟩) L u3 wr := ⟨k + 1, by omega, by go_num, hSr.out.1, by rw [hpst.out, hEs.out]; exact hSr.out.2.1, hSr.out.2.2.1, hSr.out.2.2.2⟩
             first | exact R | ((repeat apply Exists.intro); exact ⟨R, rfl⟩)
            case measure => simp [intOf]; omega
         ·have hrkb : (to / 8 != 7 - 7 * (tn : Int)) = true := by simpa using hrk
          have hrks := show Shut _ from hrk
          clear hrk
          have hownA := hSq.out.2.1
          have hszA : w.heap.size + 1 ≤ wq.heap.size := by have := hrq.lt; omega
          have hE : pmOf p (n : Int) to = [⟨(n : Int), to, 0⟩] := by rw [hp2.out, if_pos (Or.inr hrks.out)]
          have hEs := show Shut _ from hE
          clear hE
          go_wp2_with fail
          go_quiet (first | (go_at_call 47; refine quiet' (po_kindOf _ _ (by omega))) | (go_at_call 49; refine quiet' (po_rank _ _ (by omega) (by omega))))
          have hsA := show Shut (w.heap.size + 1 ≤ (wq.drewN nq).heap.size) from hszA
          have hownA : ownMvs (wq.drewN nq) (w.heap.size + 1) u3 (bs ++ ms) := hSq.out.2.1
          have hSr := show Shut _ from And.intro (show PosAt p w.heap.size (wq.drewN nq) from hSq.out.1) (And.intro (below_drewN hSq.out.2.2.1 nq) (hSq.out.2.2.2.drewN nq))
          clear hszA hrq ct
          generalize wq.drewN nq = wz at *
          have hszA := hsA.out
          go_wp2_with (with_reducible refine at_appendk (esz := 3) [.int .i64 (n : Int), .int .i64 to, .int .i64 0] rfl Tryz.underlying30 hi hz0 hz1 hz2 rfl (by decide) (by decide) ?_ (w.heap.size + 1) _ _ _ hownA ?_ hszA ?_ ?_ ?_)
          ·intro u hu; simp at hu; rcases hu with rfl | rfl | rfl <;> rfl
          ·omega
          ·rfl
          ·rfl
          intro v' w' hown' hbel' hkeep' hap' hsz'
          have R : ∃ k' : Nat, k' ≤ L.length ∧ Value.int .i64 ((k : Int) + 1) = .int .i64 (k' : Int) ∧ PosAt p w.heap.size w' ∧ ownMvs w' (w.heap.size + 1) v' (bs ++ pmTo p (n : Int) L k') ∧ Below w.heap.size w w' ∧ SqAt (some ⟨g2, 0, none⟩) L v' w' := by
           refine ⟨k + 1, by omega, by go_num, (hbel'.block w.heap.size (by omega)).trans hSr.out.1, ?_, hSr.out.2.1.trans (hbel'.mono (by omega)), hSr.out.2.2.next hsz' hkeep' hap'⟩
           rw [hpst.out, hEs.out, ← List.append_assoc]
           unfold ownMvs mvsC
           rw [List.length_append, List.flatMap_append]
           exact hown'
          have RS := show Shut _ from R
          clear R hown' hbel' hkeep' hap' hownA
          go_wp2_with fail
          go_roundw
          case rel =>
           have R := RS.out
           first | exact R | ((repeat apply Exists.intro); exact ⟨R, rfl⟩)
          case measure => simp [intOf]; omega
      ·obtain rfl : k = L.length := by omega
       have hS3 := show Shut _ from And.intro hrow (And.intro hown (And.intro hB hsq))
       clear hrow hown hB hsq
       go_wp2_with fail
       go_roundw
       case rel =>
        have R : ∃ n' : Nat, n' ≤ 64 ∧ Value.int .i64 ((n : Int) + 1) = .int .i64 (n' : Int) ∧ PosAt p w.heap.size wr ∧ ownMvs wr (w.heap.size + 1) u3 (pseudoTo p n') ∧ Below w.heap.size w wr := ⟨n + 1, by omega, by go_num, hS3.out.1, by rw [hst.out, hEs0.out]; exact hS3.out.2.1, hS3.out.2.2.1⟩
        first | exact R | ((repeat apply Exists.intro); exact ⟨R, rfl⟩)
       case measure => simp [intOf]; omega
    ·skip
     have k6b : (kindOf x == 6) = false := by simpa using k6
     have k6c : (kindOf x != 6) = true := by simpa using k6
     have k6s := show Shut _ from k6
     have hLd : sqL p (n : Int) = reach p (n : Int) := by rw [hids.out.2.1, if_neg k6]
     clear k6
     go_wp2_with fail
     go_quiet (first | (go_at_call 90; refine quiet' (hi_side _ _ (by omega))))
     have hrowW : PosAt p w.heap.size (wr.drewN nq) := hrow
     have huW : (wr.drewN nq).heap[w.heap.size]? = some (.cells (ints p) 24 (0, 0)) := hrow
     have hownW := own_drewN hownS.out.1 nq
     have hBW := below_drewN hownS.out.2 nq
     clear ct cx hrow
     generalize wr.drewN nq = W1 at *
     go_wp2_with (first
      | (go_at_call 47; refine (po_kindOf _ _ (by omega)).mono ?_; rintro e1 w1 ⟨rfl, rfl⟩)
      | ((with_reducible refine at_load_row huW Tryz.underlying24 rfl ?_ ?_ ?_); (rw [ints_size, hlp]; kernel_rfl); rfl))
     refine (hRe.out (n : Int) (by omega) (by omega) _).mono ?_
     rintro e2 w2 ⟨v2, rfl, hown2, hb2⟩
     rw [← hLd] at hown2
     have hsqr := show Shut _ from hids.out.2.2.1
     have hE0 : pseudoOf p (n : Int) = pmTo p (n : Int) (sqL p (n : Int)) (sqL p (n : Int)).length := by rw [hids.out.1, if_neg (by intro h; rcases h with h | h; exact hx0s.out h; exact h hss.out)]
     have hEs0 := show Shut _ from hE0
     clear hE0 hLd
     generalize sqL p (n : Int) = L at *
     have hszW := hownS.out.2.size
     have hlt3 : ∀ g, u3.ownBlock = some g → g < W1.heap.size := fun g hg => (hownW.lt g hg).2
     obtain ⟨a2, cap2, rfl, hcells⟩ := ints_slice hown2
     have hsq0 : SqAt a2 L u3 w2 := fun i hi => by
      obtain ⟨g, h1, h2, h3, h4⟩ := hcells i hi
      exact ⟨g, h1, h3, h4, fun e => by have := hlt3 g e; omega⟩
     have hS2 := show Shut _ from And.intro (hrowW.below hb2) (And.intro (own_next hownW hb2) (And.intro (hBW.trans (hb2.mono hBW.size)) hsq0))
     clear hcells hsq0 hlt3 hown2 hb2 hrowW hownW hBW huW hszW
     go_wp2_with fail
     go_loopw [3, 7] (fun l i wr3 => ∃ k : Nat, k ≤ L.length ∧ i = .int .i64 (k : Int) ∧ PosAt p w.heap.size wr3 ∧ ownMvs wr3 (w.heap.size + 1) l (bs ++ pmTo p (n : Int) L k) ∧ Below w.heap.size w wr3 ∧ SqAt a2 L l wr3) (fun _ i _ => L.length - (intOf i).toNat)
     case atStart => exact ⟨0, by omega, rfl, hS2.out.1, by simpa [pmTo] using hS2.out.2.1, hS2.out.2.2.1, hS2.out.2.2.2⟩
     case round =>
      clear hS2
      obtain ⟨k, hk, rfl, hrow, hown, hB, hsq⟩ := hrel
      by_cases hltk : k < L.length
      ·obtain ⟨g2, rfl, hg2, hck, hng⟩ := hsq k hltk
       have hpst := show Shut (pmTo p (n : Int) L (k + 1) = pmTo p (n : Int) L k ++ pmOf p (n : Int) (L.getD k 0)) from rfl
       have hple := pmTo_le p (n : Int) L k
       obtain ⟨to0, to1⟩ := hsqr.out (L.getD k 0) (by simp [hltk])
       have hpm := hids.out.2.2.2.1 (L.getD k 0)
       generalize hq : L.getD k 0 = to at *
       have hqs := show Shut _ from hq
       clear hq
       have ct := h64.out wr hrow
       have cy := hcl.out wr to hrow to0 to1
       obtain ⟨y0, y1⟩ := hpr.out to to0 to1
       generalize pmTo p (n : Int) L k = ms at *
       generalize pcAt p to = y at *
       have hmS := show Shut _ from And.intro hpm hple
       clear hpm hple
       have hlen1 : (bs ++ ms).length ≤ 20000 := by rw [List.length_append]; have := hids.out.2.2.2.2.2; have := hmS.out.2; omega
       have hS3 := show Shut _ from And.intro hrow (And.intro hown (And.intro hB hsq))
       clear hrow hown hB hsq hng
       by_cases hskip : y ≠ 0 ∧ sideOf y = (tn : Int)
       ·obtain ⟨hy0, hys⟩ := hskip
        have hE : pmOf p (n : Int) to = [] := by rw [hmS.out.1, if_pos ⟨hy0, hys⟩]
        have hEs := show Shut _ from hE
        have hy1 : (y != 0) = true := by simpa using hy0
        have hys2 : (sideOf y == (tn : Int)) = true := by simpa using hys
        clear hE hy0 hys
        go_wp2_with fail
        go_quiet (first | (go_at_call 90; refine quiet' (hi_side _ _ (by omega))))
        go_wp2_with fail
        go_roundw
        case rel =>
         have R : ∃ k' : Nat, k' ≤ L.length ∧ Value.int .i64 ((k : Int) + 1) = .int .i64 (k' : Int) ∧ PosAt p w.heap.size (wr.drewN nq) ∧ ownMvs (wr.drewN nq) (w.heap.size + 1) u3 (bs ++ pmTo p (n : Int) L k') ∧ Below w.heap.size w (wr.drewN nq) ∧ SqAt (some ⟨g2, 0, none⟩) L u3 (wr.drewN nq) := ⟨k + 1, by omega, by go_num, hS3.out.1, by rw [hpst.out, hEs.out, List.append_nil]; exact hS3.out.2.1, below_drewN hS3.out.2.2.1 nq, hS3.out.2.2.2⟩
         first | exact R | ((repeat apply Exists.intro); exact ⟨R, rfl⟩)
        case measure => simp [intOf]; omega
       ·have hpm2 := hmS.out.1
        rw [if_neg hskip] at hpm2
        have hp2 := show Shut _ from hpm2
        clear hpm2
        have hgo : y = 0 ∨ (y ≠ 0 ∧ sideOf y ≠ (tn : Int)) := by
         by_cases c : y = 0
         ·exact Or.inl c
         ·exact Or.inr ⟨c, fun e => hskip ⟨c, e⟩⟩
        clear hskip
        rcases hgo with rfl | ⟨hy0, hys⟩
        ·have hw : ((0 : Int) != 0) = false := rfl
         go_wp2_with fail
         go_quiet (first | (go_at_call 90; refine quiet' (hi_side _ _ (by omega))))
         go_wp2_with fail
         have hrowq : PosAt p w.heap.size (wr.drewN nq) := hS3.out.1
         have hownq := own_drewN hS3.out.2.1 nq
         have hBq := below_drewN hS3.out.2.2.1 nq
         have hsqq := hS3.out.2.2.2.drewN nq
         have hSq := show Shut _ from And.intro hrowq (And.intro hownq (And.intro hBq hsqq))
         clear hrowq hownq hBq hsqq
         generalize wr.drewN nq = wq at *
         have hrq := hSq.out.1
         have ct := h64.out wq hrq
         have hownA := hSq.out.2.1
         have hszA : w.heap.size + 1 ≤ wq.heap.size := by have := hrq.lt; omega
         have hE : pmOf p (n : Int) to = [⟨(n : Int), to, 0⟩] := by rw [hp2.out, if_pos (Or.inl k6s.out)]
         have hEs := show Shut _ from hE
         clear hE
         go_wp2_with fail
         go_quiet (first | (go_at_call 47; refine quiet' (po_kindOf _ _ (by omega))) | (go_at_call 49; refine quiet' (po_rank _ _ (by omega) (by omega))))
         have hsA := show Shut (w.heap.size + 1 ≤ (wq.drewN nq).heap.size) from hszA
         have hownA : ownMvs (wq.drewN nq) (w.heap.size + 1) u3 (bs ++ ms) := hSq.out.2.1
         have hSr := show Shut _ from And.intro (show PosAt p w.heap.size (wq.drewN nq) from hSq.out.1) (And.intro (below_drewN hSq.out.2.2.1 nq) (hSq.out.2.2.2.drewN nq))
         clear hszA hrq ct
         generalize wq.drewN nq = wz at *
         have hszA := hsA.out
         go_wp2_with (with_reducible refine at_appendk (esz := 3) [.int .i64 (n : Int), .int .i64 to, .int .i64 0] rfl Tryz.underlying30 hi hz0 hz1 hz2 rfl (by decide) (by decide) ?_ (w.heap.size + 1) _ _ _ hownA ?_ hszA ?_ ?_ ?_)
         ·intro u hu; simp at hu; rcases hu with rfl | rfl | rfl <;> rfl
         ·omega
         ·rfl
         ·rfl
         intro v' w' hown' hbel' hkeep' hap' hsz'
         have R : ∃ k' : Nat, k' ≤ L.length ∧ Value.int .i64 ((k : Int) + 1) = .int .i64 (k' : Int) ∧ PosAt p w.heap.size w' ∧ ownMvs w' (w.heap.size + 1) v' (bs ++ pmTo p (n : Int) L k') ∧ Below w.heap.size w w' ∧ SqAt (some ⟨g2, 0, none⟩) L v' w' := by
          refine ⟨k + 1, by omega, by go_num, (hbel'.block w.heap.size (by omega)).trans hSr.out.1, ?_, hSr.out.2.1.trans (hbel'.mono (by omega)), hSr.out.2.2.next hsz' hkeep' hap'⟩
          rw [hpst.out, hEs.out, ← List.append_assoc]
          unfold ownMvs mvsC
          rw [List.length_append, List.flatMap_append]
          exact hown'
         have RS := show Shut _ from R
         clear R hown' hbel' hkeep' hap' hownA
         go_wp2_with fail
         go_roundw
         case rel =>
          have R := RS.out
          first | exact R | ((repeat apply Exists.intro); exact ⟨R, rfl⟩)
         case measure => simp [intOf]; omega
        ·have hy1 : (y != 0) = true := by simpa using hy0
         have hys2 : (sideOf y == (tn : Int)) = false := by simpa using hys
         clear hy0 hys
         go_wp2_with fail
         go_quiet (first | (go_at_call 90; refine quiet' (hi_side _ _ (by omega))))
         go_wp2_with fail
         have hrowq : PosAt p w.heap.size (wr.drewN nq) := hS3.out.1
         have hownq := own_drewN hS3.out.2.1 nq
         have hBq := below_drewN hS3.out.2.2.1 nq
         have hsqq := hS3.out.2.2.2.drewN nq
         have hSq := show Shut _ from And.intro hrowq (And.intro hownq (And.intro hBq hsqq))
         clear hrowq hownq hBq hsqq
         generalize wr.drewN nq = wq at *
         have hrq := hSq.out.1
         have ct := h64.out wq hrq
         have hownA := hSq.out.2.1
         have hszA : w.heap.size + 1 ≤ wq.heap.size := by have := hrq.lt; omega
         have hE : pmOf p (n : Int) to = [⟨(n : Int), to, 0⟩] := by rw [hp2.out, if_pos (Or.inl k6s.out)]
         have hEs := show Shut _ from hE
         clear hE
         go_wp2_with fail
         go_quiet (first | (go_at_call 47; refine quiet' (po_kindOf _ _ (by omega))) | (go_at_call 49; refine quiet' (po_rank _ _ (by omega) (by omega))))
         have hsA := show Shut (w.heap.size + 1 ≤ (wq.drewN nq).heap.size) from hszA
         have hownA : ownMvs (wq.drewN nq) (w.heap.size + 1) u3 (bs ++ ms) := hSq.out.2.1
         have hSr := show Shut _ from And.intro (show PosAt p w.heap.size (wq.drewN nq) from hSq.out.1) (And.intro (below_drewN hSq.out.2.2.1 nq) (hSq.out.2.2.2.drewN nq))
         clear hszA hrq ct
         generalize wq.drewN nq = wz at *
         have hszA := hsA.out
         go_wp2_with (with_reducible refine at_appendk (esz := 3) [.int .i64 (n : Int), .int .i64 to, .int .i64 0] rfl Tryz.underlying30 hi hz0 hz1 hz2 rfl (by decide) (by decide) ?_ (w.heap.size + 1) _ _ _ hownA ?_ hszA ?_ ?_ ?_)
         ·intro u hu; simp at hu; rcases hu with rfl | rfl | rfl <;> rfl
         ·omega
         ·rfl
         ·rfl
         intro v' w' hown' hbel' hkeep' hap' hsz'
         have R : ∃ k' : Nat, k' ≤ L.length ∧ Value.int .i64 ((k : Int) + 1) = .int .i64 (k' : Int) ∧ PosAt p w.heap.size w' ∧ ownMvs w' (w.heap.size + 1) v' (bs ++ pmTo p (n : Int) L k') ∧ Below w.heap.size w w' ∧ SqAt (some ⟨g2, 0, none⟩) L v' w' := by
          refine ⟨k + 1, by omega, by go_num, (hbel'.block w.heap.size (by omega)).trans hSr.out.1, ?_, hSr.out.2.1.trans (hbel'.mono (by omega)), hSr.out.2.2.next hsz' hkeep' hap'⟩
          rw [hpst.out, hEs.out, ← List.append_assoc]
          unfold ownMvs mvsC
          rw [List.length_append, List.flatMap_append]
          exact hown'
         have RS := show Shut _ from R
         clear R hown' hbel' hkeep' hap' hownA
         go_wp2_with fail
         go_roundw
         case rel =>
          have R := RS.out
          first | exact R | ((repeat apply Exists.intro); exact ⟨R, rfl⟩)
         case measure => simp [intOf]; omega
      ·obtain rfl : k = L.length := by omega
       have hS3 := show Shut _ from And.intro hrow (And.intro hown (And.intro hB hsq))
       clear hrow hown hB hsq
       go_wp2_with fail
       go_roundw
       case rel =>
        have R : ∃ n' : Nat, n' ≤ 64 ∧ Value.int .i64 ((n : Int) + 1) = .int .i64 (n' : Int) ∧ PosAt p w.heap.size wr ∧ ownMvs wr (w.heap.size + 1) u3 (pseudoTo p n') ∧ Below w.heap.size w wr := ⟨n + 1, by omega, by go_num, hS3.out.1, by rw [hst.out, hEs0.out]; exact hS3.out.2.1, hS3.out.2.2.1⟩
        first | exact R | ((repeat apply Exists.intro); exact ⟨R, rfl⟩)
       case measure => simp [intOf]; omega
   ·have hsb : (sideOf x != (tn : Int)) = true := by simpa using hs
    have hE : pseudoOf p (n : Int) = [] := by rw [hids.out.1, if_pos (Or.inr hs)]
    have hEs := show Shut _ from hE
    clear hE hs
    go_wp2_with fail
    go_quiet (first | (go_at_call 90; refine quiet' (hi_side _ _ (by omega))))
    go_wp2_with fail
    go_roundw
    case rel => exact ⟨n + 1, by omega, by go_num, hrow, by rw [hst.out, hEs.out, List.append_nil]; exact hownS.out.1, below_drewN hownS.out.2 _⟩
    case measure => simp [intOf]; omega
  ·obtain rfl : n = 64 := by omega
   have hu : wr.heap[w.heap.size]? = some (.cells (ints p) 24 (0, 0)) := hrow
   have hple := pseudoTo_le p 64
   have hPL : pseudoL p = pseudoTo p 64 ++ castL p := rfl
   have hPs := show Shut _ from And.intro hPL hple
   clear hPL hple
   have hlt0 := hrow.lt
   clear hrow
   go_wp2_with (first
    | ((with_reducible refine at_load_row hu Tryz.underlying24 rfl ?_ ?_ ?_); (rw [ints_size, hlp]; kernel_rfl); rfl))
   refine (hCs.out _).mono ?_
   rintro e2 w2 ⟨v2, rfl, hown2, hb2⟩
   have hownN := own_next hown hb2
   have hB2 := hB.trans (hb2.mono hB.size)
   have hsz2 : w.heap.size + 1 ≤ w2.heap.size := by have := hb2.size; omega
   clear hown hB hb2 hu
   go_wp2_with (with_reducible refine at_append_all Tryz.underlying30 hi hz0 hz1 hz2 rfl (by decide) (by decide) (w.heap.size + 1) _ _ _ hownN _ _ _ _ hown2 (mvsC_one _) ?_ hsz2 ?_ ?_ ?_)
   ·have := hPs.out.2; omega
   ·rfl
   ·rfl
   intro v3 w3 hown3 hb3 hsz3
   have hown4 : ownMvs w3 (w.heap.size + 1) v3 (pseudoL p) := by
    rw [hPs.out.1]
    unfold ownMvs mvsC
    rw [List.length_append, List.flatMap_append]
    exact hown3
   have hB3 := hB2.trans (hb3.mono (by omega))
   have hpl : (pseudoL p).length ≤ 100000 := by rw [hPs.out.1, List.length_append]; have := hPs.out.2; omega
   have hsz4 : w.heap.size ≤ w3.heap.size := by omega
   clear hown3 hb3 hownN hown2
   go_wp2_with fail
   refine (or_ordered (pseudoL p) v3 (w.heap.size + 1) w3 hown4 hpl).mono ?_
   rintro e4 w4 ⟨v4, l4, rfl, hperm, hown5, hb4⟩
   have hfin := show Shut _ from And.intro hperm (And.intro (own_mono hown5 hsz4) (hB3.trans (hb4.mono hsz4)))
   clear hperm hown5 hb4 hB3
   go_wp2_with fail
   go_ret
   first
   | exact ⟨_, l4, rfl, hfin.out.1, hfin.out.2.1, hfin.out.2.2⟩
   | exact ⟨_, rfl, l4, hfin.out.1, hfin.out.2.1, hfin.out.2.2⟩
end Go.Proofs.YtnjdgooljnbebaaGreatDoor
