/- spec.Passed, spec.Valid: whether a position is one of a game as far as it tells. For every position. (Printed by gen_va.py.)
spec.Valid: whether a position is one of a game as far as it tells. For every position. (Printed by gen_vb.py.)
spec.left, spec.Takes: the rights that are left behind a move, and what a move takes. For every position of pieces from 0 to 12.
spec.Takes: what a move takes, and where. For every position of pieces from 0 to 12, and moves of squares. -/
import Derived.Test.YtnjdgooljnbebaaGreatDoorG0
import Derived.Test.YtnjdgooljnbebaaGreatDoorGb
namespace Go.Proofs.YtnjdgooljnbebaaGreatDoor
open Go Go.RowKit
open List renaming getElem_toArray → zA, getElem_cons_zero → zB, getElem_cons_succ → zC, setIfInBounds_toArray → zD, set_cons_zero → zE, set_cons_succ → zF
set_option maxHeartbeats 8000000
set_option linter.unusedSimpArgs false
set_option linter.unusedVariables false
set_option maxRecDepth 100000

def passedB (p : List Int) : Bool :=
 if p.getD 66 0 < 0 ∨ 63 < p.getD 66 0 then decide (p.getD 66 0 = -1)
 else if p.getD 66 0 / 8 ≠ 5 - 3 * p.getD 64 0 ∨ pcAt p (p.getD 66 0) ≠ 0 then false
 else decide (pcAt p (atSq (p.getD 66 0 % 8) (p.getD 66 0 / 8 - upOf (p.getD 64 0))) = 6 + 6 * (1 - p.getD 64 0)) && decide (pcAt p (atSq (p.getD 66 0 % 8) (p.getD 66 0 / 8 + upOf (p.getD 64 0))) = 0)
theorem va_quiet {P : Program} {f : FuncId} {args : Array Value} {w : World} {n : Nat} {v : Value}
  (h : Calls P f args (w.drewN n) fun e w' => e = .returned v ∧ w.drewN n = w') : Calls P f args (w.drewN n) fun e w'' => e = .returned v ∧ ∃ m, w'' = w.drewN m :=
 h.mono fun _ _ ⟨he, hm⟩ => ⟨he, n, hm.symm⟩
theorem below_drewN {B : Nat} {a w : World} (h : Below B a w) (n : Nat) : Below B a (w.drewN n) := ⟨h.os, h.tape, h.output, h.size, h.block⟩
theorem quiet_add_left {P : Program} {f : FuncId} {args : Array Value} {w : World} {a n : Nat} {v : Value}
  (h : Calls P f args (w.drewN (a + n)) fun e w' => e = .returned v ∧ w.drewN (a + n) = w') :
  Calls P f args (w.drewN (a + n)) fun e w'' => e = .returned v ∧ ∃ m, w'' = w.drewN (a + m) :=
 h.mono fun _ _ ⟨he, hm⟩ => ⟨he, n, hm.symm⟩
theorem va_passed (p : List Int) (hp : Pos p) (t0 : 0 ≤ p.getD 64 0) (t1 : p.getD 64 0 ≤ 1) (w : World) :
  Calls Tryz.prog 61 #[.agg (ints p)] w fun e w' => e = .returned (.bool (passedB p)) ∧ Below w.heap.size w w' := by
 have hrow : PosAt p w.heap.size (w.alloc (.cells (ints p) 24)) := heap_alloc_new w (.cells (ints p) 24)
 have hBW : Below w.heap.size w (w.alloc (.cells (ints p) 24)) := (Below.refl _ _).alloc (Nat.le_refl _) _
 have ct := hrow.cell 64 (by rw [hp.len]; omega)
 have ce := hrow.cell 66 (by rw [hp.len]; omega)
 have hcell : ∀ i : Int, 0 ≤ i → i ≤ 63 → (w.alloc (.cells (ints p) 24)).cell? ⟨w.heap.size, i.toNat, none⟩ = some (.int .i64 (pcAt p i)) := fun i h0 h1 => row_cell hrow i.toNat (by rw [hp.len]; omega)
 have hP : passedB p = if p.getD 66 0 < 0 ∨ 63 < p.getD 66 0 then decide (p.getD 66 0 = -1)
  else if p.getD 66 0 / 8 ≠ 5 - 3 * p.getD 64 0 ∨ pcAt p (p.getD 66 0) ≠ 0 then false
  else decide (pcAt p (atSq (p.getD 66 0 % 8) (p.getD 66 0 / 8 - upOf (p.getD 64 0))) = 6 + 6 * (1 - p.getD 64 0)) && decide (pcAt p (atSq (p.getD 66 0 % 8) (p.getD 66 0 / 8 + upOf (p.getD 64 0))) = 0) := rfl
 clear hrow
 generalize p.getD 64 0 = t at *
 generalize p.getD 66 0 = ep at *
 have hid := show Shut _ from And.intro hP (And.intro hcell hBW)
 clear hP hcell hBW
 by_cases h1 : ep < 0
 ·go_enter Tryz.func61, Tryz.ntmps61
  go_wp2_with fail
  go_ret
  exact ⟨by rw [hid.out.1, if_pos (Or.inl h1)]; exact ret_bool (by first | rfl | (simp; done) | (rw [Bool.eq_iff_iff]; simp)), hid.out.2.2⟩
 by_cases h2 : 63 < ep
 ·go_enter Tryz.func61, Tryz.ntmps61
  go_wp2_with fail
  go_ret
  exact ⟨by rw [hid.out.1, if_pos (Or.inr h2)]; exact ret_bool (by first | rfl | (simp; done) | (rw [Bool.eq_iff_iff]; simp)), hid.out.2.2⟩
 have hP2 := hid.out.1
 rw [if_neg (by omega)] at hP2
 have hu : -1 ≤ upOf t ∧ upOf t ≤ 1 := by unfold upOf; omega
 have hup : upOf t = 1 - 2 * t := rfl
 obtain ⟨u0, u1⟩ := hu
 have q0 : 0 ≤ ep := by omega
 have q1 : ep ≤ 63 := by omega
 have ce2 := hid.out.2.1 ep q0 q1
 have h1b : decide (ep < 0) = false := decide_eq_false h1
 have h2b : decide (63 < ep) = false := decide_eq_false h2
 clear h1 h2
 by_cases h3 : ep / 8 = 5 - 3 * t
 ·have h3b : (ep / 8 != 5 - 3 * t) = false := by simpa using h3
  by_cases h4 : pcAt p ep = 0
  ·rw [h4] at ce2
   rw [if_neg (by omega)] at hP2
   have hb1 : 0 ≤ atSq (ep % 8) (ep / 8 - upOf t) ∧ atSq (ep % 8) (ep / 8 - upOf t) ≤ 63 := by
    refine ⟨?_, (atSq_range _ _).2⟩
    unfold atSq
    rw [if_neg (by omega)]
    omega
   have hb2 : 0 ≤ atSq (ep % 8) (ep / 8 + upOf t) ∧ atSq (ep % 8) (ep / 8 + upOf t) ≤ 63 := by
    refine ⟨?_, (atSq_range _ _).2⟩
    unfold atSq
    rw [if_neg (by omega)]
    omega
   have ca := hid.out.2.1 _ hb1.1 hb1.2
   have cb := hid.out.2.1 _ hb2.1 hb2.2
   have hat1 : ∀ W, Calls Tryz.prog 48 #[.int .i64 (ep % 8), .int .i64 (ep / 8 - (1 - 2 * t))] W fun e w' => e = .returned (.int .i64 (atSq (ep % 8) (ep / 8 - (1 - 2 * t)))) ∧ W = w' := fun W => po_at _ _ W (by omega) (by omega) (by omega) (by omega)
   have hat2 : ∀ W, Calls Tryz.prog 48 #[.int .i64 (ep % 8), .int .i64 (ep / 8 + (1 - 2 * t))] W fun e w' => e = .returned (.int .i64 (atSq (ep % 8) (ep / 8 + (1 - 2 * t)))) ∧ W = w' := fun W => po_at _ _ W (by omega) (by omega) (by omega) (by omega)
   have hw1 : IntKind.i64.wrap (ep / 8 - (1 - 2 * t)) = ep / 8 - (1 - 2 * t) := by rw [IntKind.wrap_i64]; omega
   have hw2 : IntKind.i64.wrap (ep / 8 + (1 - 2 * t)) = ep / 8 + (1 - 2 * t) := by rw [IntKind.wrap_i64]; omega
   have hw3 : IntKind.i64.wrap (1 - t) = 1 - t := by rw [IntKind.wrap_i64]; omega
   rw [hup] at hP2 hb1 hb2 ca cb
   generalize atSq (ep % 8) (ep / 8 - (1 - 2 * t)) = sa at *
   generalize atSq (ep % 8) (ep / 8 + (1 - 2 * t)) = sb at *
   obtain ⟨b10, b11⟩ := hb1
   obtain ⟨b20, b21⟩ := hb2
   have hat := show Shut _ from And.intro hat1 hat2
   have hP3 := show Shut _ from hP2
   have h3s := show Shut _ from h3
   clear hat1 hat2 hP2 h4 hup u0 u1 h3
   by_cases h5 : pcAt p sa = 6 + 6 * (1 - t)
   ·rw [h5] at ca
    rw [h5, show decide (6 + 6 * (1 - t) = 6 + 6 * (1 - t)) = true from decide_eq_true rfl] at hP3
    clear h5
    by_cases h6 : pcAt p sb = 0
    ·rw [h6] at cb
     rw [decide_eq_true h6] at hP3
     clear h6
     go_enter Tryz.func61, Tryz.ntmps61
     go_wp2_with fail
     go_quiet (first | (go_at_call 88; refine va_quiet (po_file _ _ (by omega) (by omega))) | (go_at_call 49; refine va_quiet (po_rank _ _ (by omega) (by omega))))
     go_wp2_with fail
     go_quiet (first | (go_at_call 48; (with_reducible exact quiet_add_left (hat.out.1 _))) | (go_at_call 48; (with_reducible exact quiet_add_left (hat.out.2 _))) | (go_at_call 46; refine quiet_add_left (po_of _ _ _ (by omega) (by omega) (by omega) (by omega))))
     go_wp2_with fail
     go_ret
     exact ⟨by rw [hP3.out]; rfl, below_drewN (below_drewN hid.out.2.2 _) _⟩
    ·have h6b : (pcAt p sb == 0) = false := by simpa using h6
     rw [decide_eq_false h6] at hP3
     clear h6
     generalize pcAt p sb = z at *
     go_enter Tryz.func61, Tryz.ntmps61
     go_wp2_with fail
     go_quiet (first | (go_at_call 88; refine va_quiet (po_file _ _ (by omega) (by omega))) | (go_at_call 49; refine va_quiet (po_rank _ _ (by omega) (by omega))))
     go_wp2_with fail
     go_quiet (first | (go_at_call 48; (with_reducible exact quiet_add_left (hat.out.1 _))) | (go_at_call 48; (with_reducible exact quiet_add_left (hat.out.2 _))) | (go_at_call 46; refine quiet_add_left (po_of _ _ _ (by omega) (by omega) (by omega) (by omega))))
     go_wp2_with fail
     go_ret
     exact ⟨by rw [hP3.out]; rfl, below_drewN (below_drewN hid.out.2.2 _) _⟩
   ·have h5b : (pcAt p sa == 6 + 6 * (1 - t)) = false := by simpa using h5
    rw [decide_eq_false h5] at hP3
    clear h5
    generalize pcAt p sa = z at *
    go_enter Tryz.func61, Tryz.ntmps61
    go_wp2_with fail
    go_quiet (first | (go_at_call 88; refine va_quiet (po_file _ _ (by omega) (by omega))) | (go_at_call 49; refine va_quiet (po_rank _ _ (by omega) (by omega))))
    go_wp2_with fail
    go_quiet (first | (go_at_call 48; (with_reducible exact quiet_add_left (hat.out.1 _))) | (go_at_call 48; (with_reducible exact quiet_add_left (hat.out.2 _))) | (go_at_call 46; refine quiet_add_left (po_of _ _ _ (by omega) (by omega) (by omega) (by omega))))
    go_wp2_with fail
    go_ret
    exact ⟨by rw [hP3.out]; rfl, below_drewN (below_drewN hid.out.2.2 _) _⟩
  ·have h4b : (pcAt p ep != 0) = true := by simpa using h4
   rw [if_pos (Or.inr h4)] at hP2
   have hP3 := show Shut _ from hP2
   have h3s := show Shut _ from h3
   clear hP2 hup h4 h3
   generalize pcAt p ep = z at *
   go_enter Tryz.func61, Tryz.ntmps61
   go_wp2_with fail
   go_quiet (first | (go_at_call 88; refine va_quiet (po_file _ _ (by omega) (by omega))) | (go_at_call 49; refine va_quiet (po_rank _ _ (by omega) (by omega))))
   go_wp2_with fail
   go_ret
   exact ⟨by rw [hP3.out]; rfl, hid.out.2.2.trans ((drewN_below _ _).mono hid.out.2.2.size)⟩
 ·have h3b : (ep / 8 != 5 - 3 * t) = true := by simpa using h3
  rw [if_pos (Or.inl h3)] at hP2
  have hP3 := show Shut _ from hP2
  clear hP2 hup h3
  go_enter Tryz.func61, Tryz.ntmps61
  go_wp2_with fail
  go_quiet (first | (go_at_call 88; refine va_quiet (po_file _ _ (by omega) (by omega))) | (go_at_call 49; refine va_quiet (po_rank _ _ (by omega) (by omega))))
  go_wp2_with fail
  go_ret
  exact ⟨by rw [hP3.out]; rfl, hid.out.2.2.trans ((drewN_below _ _).mono hid.out.2.2.size)⟩
end Go.Proofs.YtnjdgooljnbebaaGreatDoor
namespace Go.Proofs.YtnjdgooljnbebaaGreatDoor
open Go Go.RowKit
open List renaming getElem_toArray → zA, getElem_cons_zero → zB, getElem_cons_succ → zC, setIfInBounds_toArray → zD, set_cons_zero → zE, set_cons_succ → zF
set_option maxHeartbeats 8000000
set_option linter.unusedSimpArgs false
set_option linter.unusedVariables false
set_option maxRecDepth 100000

def okSq (p : List Int) (i : Nat) : Bool := decide (0 ≤ p.getD i 0) && (decide (p.getD i 0 ≤ 12) && !(decide (kindOf (p.getD i 0) = 6) && (decide (i / 8 = 0) || decide (i / 8 = 7))))
def headB (p : List Int) : Bool := (decide (p.getD 64 0 = 0) || decide (p.getD 64 0 = 1)) && (decide (0 ≤ p.getD 65 0) && (decide (p.getD 65 0 ≤ 15) && (decide (0 ≤ p.getD 67 0) && decide (1 ≤ p.getD 68 0))))
def validB (p : List Int) : Bool := (List.range 64).all (okSq p) && (headB p && (decide (cnt p 1 64 = 1) && (decide (cnt p 7 64 = 1) && (decide (rightsB p = p.getD 65 0) && (passedB p && !attackedB p (kingAt p (1 - p.getD 64 0)) (p.getD 64 0))))))
theorem okSq_pos (p : List Int) (hl : p.length = 69) (h : ∀ i, i < 64 → okSq p i = true) : Pos p :=
 ⟨hl, fun s hs => by have := h s hs; simp [okSq] at this; exact this.1, fun s hs => by have := h s hs; simp [okSq] at this; exact this.2.1⟩
theorem cnt_pos (p : List Int) (k : Int) : ∀ n, 0 < cnt p k n → ∃ i, i < n ∧ p.getD i 0 = k
 | 0, h => by simp [cnt] at h
 | n + 1, h => by
  by_cases e : p.getD n 0 = k
  ·exact ⟨n, by omega, e⟩
  ·rw [cnt_no p k n e] at h
   obtain ⟨i, hi, he⟩ := cnt_pos p k n h
   exact ⟨i, by omega, he⟩
theorem firstK_some (p : List Int) (k : Int) : ∀ n i j, i ≤ j → j < i + n → p.getD j 0 = k → 0 ≤ firstK p k i n
 | 0, i, j, h1, h2, _ => by omega
 | n + 1, i, j, h1, h2, h => by
  rw [firstK]
  by_cases e : p.getD i 0 = k
  ·rw [if_pos e]; omega
  ·rw [if_neg e]
   refine firstK_some p k n (i + 1) j ?_ (by omega) h
   by_cases ej : j = i
   ·subst ej; exact absurd h e
   ·omega
theorem kingAt_some (p : List Int) (c : Int) (h : 0 < cnt p (1 + 6 * c) 64) : 0 ≤ kingAt p c := by
 obtain ⟨i, hi, he⟩ := cnt_pos p _ 64 h
 exact firstK_some p _ 64 0 i (by omega) (by omega) he

theorem va_loop (p : List Int) (k : Nat) (hk : k < 64) (h : okSq p k = false) : validB p = false := by
 have : (List.range 64).all (okSq p) = false := by
  rw [List.all_eq_false]
  exact ⟨k, List.mem_range.2 hk, by rw [h]; decide⟩
 simp [validB, this]
theorem va_valid (p : List Int) (hl : p.length = 69) (w : World) :
  Calls Tryz.prog 27 #[.agg (ints p)] w fun e w' => e = .returned (.bool (validB p)) ∧ Below w.heap.size w w' := by
 have hrow : PosAt p w.heap.size (w.alloc (.cells (ints p) 24)) := heap_alloc_new w (.cells (ints p) 24)
 have hBW : Below w.heap.size w (w.alloc (.cells (ints p) 24)) := (Below.refl _ _).alloc (Nat.le_refl _) _
 have hgl : w.heap.size < (w.alloc (.cells (ints p) 24)).heap.size := by simp
 go_enter Tryz.func27, Tryz.ntmps27
 go_wp2_with fail
 generalize w.alloc (.cells (ints p) 24) = W at *
 go_loopw [3] (fun i wr => ∃ k : Nat, k ≤ 64 ∧ i = .int .i64 (k : Int) ∧ wr = W ∧ ∀ j, j < k → okSq p j = true) (fun i _ => (64 - intOf i).toNat)
 case atStart => exact ⟨0, by omega, rfl, rfl, fun j hj => by omega⟩
 case round =>
  obtain ⟨k, hk, rfl, rfl, hall⟩ := hrel
  by_cases hlt : k < 64
  ·have hc := hrow.cell k (by omega)
   have hno := va_loop p k hlt
   have hyes : okSq p k = true → ∀ j, j < k + 1 → okSq p j = true := fun h j hj => by
    by_cases e : j = k
    ·subst e; exact h
    ·exact hall j (by omega)
   have hok : okSq p k = (decide (0 ≤ p.getD k 0) && (decide (p.getD k 0 ≤ 12) && !(decide (kindOf (p.getD k 0) = 6) && (decide (k / 8 = 0) || decide (k / 8 = 7))))) := rfl
   have hid := show Shut _ from And.intro hno (And.intro hyes hok)
   have hBs := show Shut _ from And.intro hrow hBW
   clear hno hyes hok hall hrow hBW
   generalize p.getD k 0 = x at *
   by_cases h1 : x < 0
   ·go_wp2_with fail
    go_ret
    exact ⟨by rw [hid.out.1 (hid.out.2.2.trans (by rw [decide_eq_false (by omega)]; rfl))]; rfl, hBs.out.2⟩
   by_cases h2 : 12 < x
   ·go_wp2_with fail
    go_ret
    exact ⟨by rw [hid.out.1 (hid.out.2.2.trans (by rw [decide_eq_false (show ¬ x ≤ 12 by omega)]; simp))]; rfl, hBs.out.2⟩
   have h1b : decide (x < 0) = false := decide_eq_false h1
   have h2b : decide (12 < x) = false := decide_eq_false h2
   have q0 : 0 ≤ x := by omega
   have q1 : x ≤ 12 := by omega
   clear h1 h2
   by_cases h3 : kindOf x = 6
   ·have hx0 : (x != 0) = true := by
     have : x ≠ 0 := fun h => by subst h; simp [kindOf] at h3
     simpa using this
    have h3b : (kindOf x == 6) = true := by simpa using h3
    have h3s := show Shut _ from h3
    clear h3
    by_cases h4 : k / 8 = 0
    ·have h4b : ((k : Int) / 8 == 0) = true := by simp; omega
     go_wp2_with (first
      | (go_at_call 47; refine (po_kindOf _ _ (by omega)).mono ?_; rintro e1 w1 ⟨rfl, rfl⟩)
      | (go_at_call 49; refine (po_rank _ _ (by omega) (by omega)).mono ?_; rintro e1 w1 ⟨rfl, rfl⟩))
     go_ret
     exact ⟨by rw [hid.out.1 (hid.out.2.2.trans (by rw [decide_eq_true h3s.out, decide_eq_true h4]; simp))]; rfl, hBs.out.2⟩
    by_cases h5 : k / 8 = 7
    ·have h4b : ((k : Int) / 8 == 0) = false := by simp; omega
     have h5b : ((k : Int) / 8 == 7) = true := by simp; omega
     go_wp2_with (first
      | (go_at_call 47; refine (po_kindOf _ _ (by omega)).mono ?_; rintro e1 w1 ⟨rfl, rfl⟩)
      | (go_at_call 49; refine (po_rank _ _ (by omega) (by omega)).mono ?_; rintro e1 w1 ⟨rfl, rfl⟩))
     go_ret
     exact ⟨by rw [hid.out.1 (hid.out.2.2.trans (by rw [decide_eq_true h3s.out, decide_eq_true h5]; simp))]; rfl, hBs.out.2⟩
    ·have h4b : ((k : Int) / 8 == 0) = false := by simp; omega
     have h5b : ((k : Int) / 8 == 7) = false := by simp; omega
     have hgo : okSq p k = true := hid.out.2.2.trans (by rw [decide_eq_true q0, decide_eq_true q1, decide_eq_false h4, decide_eq_false h5]; simp)
     have hgs := show Shut _ from hid.out.2.1 hgo
     clear hgo
     go_wp2_with (first
      | (go_at_call 47; refine (po_kindOf _ _ (by omega)).mono ?_; rintro e1 w1 ⟨rfl, rfl⟩)
      | (go_at_call 49; refine (po_rank _ _ (by omega) (by omega)).mono ?_; rintro e1 w1 ⟨rfl, rfl⟩))
     go_roundw
     case rel => exact ⟨k + 1, by omega, by go_num, trivial, hgs.out⟩
     case measure => simp [intOf]; omega
   ·have h3b : (kindOf x == 6) = false := by simpa using h3
    have hgo : okSq p k = true := hid.out.2.2.trans (by rw [decide_eq_true q0, decide_eq_true q1, decide_eq_false h3]; simp)
    have hgs := show Shut _ from hid.out.2.1 hgo
    clear hgo h3
    go_wp2_with (first
     | (go_at_call 47; refine (po_kindOf _ _ (by omega)).mono ?_; rintro e1 w1 ⟨rfl, rfl⟩)
     | (go_at_call 49; refine (po_rank _ _ (by omega) (by omega)).mono ?_; rintro e1 w1 ⟨rfl, rfl⟩))
    go_roundw
    case rel => exact ⟨k + 1, by omega, by go_num, trivial, hgs.out⟩
    case measure => simp [intOf]; omega
  ·obtain rfl : k = 64 := by omega
   have hp := okSq_pos p hl hall
   have hallB : (List.range 64).all (okSq p) = true := by
    rw [List.all_eq_true]
    intro k hk
    exact hall k (List.mem_range.1 hk)
   have hV : validB p = (headB p && (decide (cnt p 1 64 = 1) && (decide (cnt p 7 64 = 1) && (decide (rightsB p = p.getD 65 0) && (passedB p && !attackedB p (kingAt p (1 - p.getD 64 0)) (p.getD 64 0)))))) := by
    simp only [validB, hallB, Bool.true_and]
   have hH : headB p = ((decide (p.getD 64 0 = 0) || decide (p.getD 64 0 = 1)) && (decide (0 ≤ p.getD 65 0) && (decide (p.getD 65 0 ≤ 15) && (decide (0 ≤ p.getD 67 0) && decide (1 ≤ p.getD 68 0))))) := rfl
   have c64 := hrow.cell 64 (by omega)
   have c65 := hrow.cell 65 (by omega)
   have c67 := hrow.cell 67 (by omega)
   have c68 := hrow.cell 68 (by omega)
   have hn1 := fun W => br_count p hl 1 0 (by decide) (by decide) (by decide) (by decide) W
   have hn2 := fun W => br_count p hl 1 1 (by decide) (by decide) (by decide) (by decide) W
   simp only [show (1 : Int) + 6 * 0 = 1 from rfl, show (1 : Int) + 6 * 1 = 7 from rfl] at hn1 hn2
   have hR := fun h0 h1 W => ri_rights p hp h0 h1 W
   have hPs := fun h0 h1 W => va_passed p hp h0 h1 W
   have hK : ∀ c : Int, 0 ≤ c → c ≤ 1 → ∀ W : World, Calls Tryz.prog 52 #[.agg (ints p), .int .i64 c] W fun e' w' => e' = .returned (.int .i64 (kingAt p c)) ∧ Below W.heap.size W w' := fun c h0 h1 W => br_kingAt p hl c h0 h1 W
   have hAt := fun s c h0 h1 W => at_attacked p hp s c h0 h1 W
   have hks : ∀ c, 0 < cnt p (1 + 6 * c) 64 → 0 ≤ kingAt p c := kingAt_some p
   have hkr : ∀ c, kingAt p c ≤ 63 := fun c => (kingAt_range p c).2
   have hrg := rights_range p 4
   have hle1 := cnt_le p 1 64
   have hle2 := cnt_le p 7 64
   change 0 ≤ rightsB p ∧ rightsB p ≤ 2 ^ 4 - 1 at hrg
   generalize hc1 : cnt p 1 64 = n1 at *
   generalize hc2 : cnt p 7 64 = n2 at *
   generalize rightsB p = rb at *
   generalize passedB p = pb at *
   generalize p.getD 64 0 = t at *
   generalize p.getD 65 0 = ca at *
   generalize p.getD 67 0 = hf at *
   generalize p.getD 68 0 = fu at *
   have hid := show Shut _ from And.intro hV (And.intro hH (And.intro hn1 (And.intro hn2 (And.intro hR (And.intro hPs (And.intro hK (And.intro hAt (And.intro hks (And.intro hkr (And.intro hc1 hc2))))))))))
   have hrowS := show Shut _ from hrow
   have hBs := show Shut _ from hBW
   clear hV hH hn1 hn2 hR hPs hK hAt hks hkr hc1 hc2 hallB hall hrow hBW
   by_cases g1 : t = 0 ∨ t = 1
   ·by_cases g2 : 0 ≤ ca ∧ (ca ≤ 15 ∧ (0 ≤ hf ∧ 1 ≤ fu))
    ·obtain ⟨g20, g21, g22, g23⟩ := g2
     have hHt : headB p = true := by rw [hid.out.2.1]; simp; exact ⟨g1, g20, g21, g22, g23⟩
     have t0 : 0 ≤ t := by omega
     have t1 : t ≤ 1 := by omega
     have t01 : (t != 0 && t != 1) = false := by rcases g1 with rfl | rfl <;> rfl
     have b65a : decide (ca < 0) = false := decide_eq_false (by omega)
     have b65b : decide (15 < ca) = false := decide_eq_false (by omega)
     have b67 : decide (hf < 0) = false := decide_eq_false (by omega)
     have b68 : decide (fu < 1) = false := decide_eq_false (by omega)
     have hHs := show Shut _ from hHt
     clear hHt
     rcases g1 with rfl | rfl
     ·go_wp2_with fail
      by_cases d1 : n1 = 1
      ·subst d1
       by_cases d2 : n2 = 1
       ·subst d2
        by_cases d3 : rb = ca
        ·subst d3
         cases pb with
         | true =>
          refine wp_region_held_drew (S := fun w' : World => PosAt p w.heap.size w' ∧ w'.cell? ⟨w.heap.size, 65, none⟩ = some (.int .i64 rb) ∧ w'.cell? ⟨w.heap.size, 64, none⟩ = some (.int .i64 0) ∧ Below w.heap.size w w') (by kernel_rfl) ⟨hrowS.out, c65, c64, hBs.out.drew⟩ (fun hHeld => ?_)
          refine' takeA (i := 0) (v := _) rfl (yieldsIf_load_mid (by rfl) _ _ rfl _ _ rfl _ _ (fun _ h => h.1.range) Tryz.underlying24 rfl (pos_info p hl)) hHeld ?_
          try simp only [zA, zB, zC, Act.put, zD, zE, zF]
          refine wpAnyH_ready (rs := [1]) (by kernel_rfl) (by simp) ?_
          refine AllReadyH.cons rfl (fun K hK => ?_) AllReadyH.nil
          try simp only [zA, zB, zC, Act.put, zD, zE, zF]
          try rw [if_pos (by rfl)]
          go_simp
          refine (hid.out.2.2.1 _).mono ?_
          rintro e1 w1 ⟨rfl, hb⟩
          go_wp2_with fail
          refine hK.out _ _ (by have hs := hHeld.2.2.2.size; exact ⟨hHeld.1.below hb, (hb.cell (p := ⟨w.heap.size, 65, none⟩) hHeld.1.lt).trans hHeld.2.1, (hb.cell (p := ⟨w.heap.size, 64, none⟩) hHeld.1.lt).trans hHeld.2.2.1, hHeld.2.2.2.trans (hb.mono hs)⟩) (fun hHeld => ?_)
          clear hK K
          try simp only [zA, zB, zC, Act.put, zD, zE, zF]
          refine takeC (i := 2) rfl hHeld ?_
          try simp only [zA, zB, zC, Act.put, zD, zE, zF]
          refine takeC (i := 3) rfl hHeld ?_
          try simp only [zA, zB, zC, Act.put, zD, zE, zF]
          refine' takeA (i := 4) (v := _) rfl (yieldsIf_load_mid (by rfl) _ _ rfl _ _ rfl _ _ (fun _ h => h.1.range) Tryz.underlying24 rfl (pos_info p hl)) hHeld ?_
          try simp only [zA, zB, zC, Act.put, zD, zE, zF]
          refine wpAnyH_ready (rs := [5]) (by kernel_rfl) (by simp) ?_
          refine AllReadyH.cons rfl (fun K hK => ?_) AllReadyH.nil
          try simp only [zA, zB, zC, Act.put, zD, zE, zF]
          try rw [if_pos (by rfl)]
          go_simp
          refine (hid.out.2.2.2.1 _).mono ?_
          rintro e1 w1 ⟨rfl, hb⟩
          go_wp2_with fail
          refine hK.out _ _ (by have hs := hHeld.2.2.2.size; exact ⟨hHeld.1.below hb, (hb.cell (p := ⟨w.heap.size, 65, none⟩) hHeld.1.lt).trans hHeld.2.1, (hb.cell (p := ⟨w.heap.size, 64, none⟩) hHeld.1.lt).trans hHeld.2.2.1, hHeld.2.2.2.trans (hb.mono hs)⟩) (fun hHeld => ?_)
          clear hK K
          try simp only [zA, zB, zC, Act.put, zD, zE, zF]
          refine takeC (i := 6) rfl hHeld ?_
          try simp only [zA, zB, zC, Act.put, zD, zE, zF]
          refine takeC (i := 7) rfl hHeld ?_
          try simp only [zA, zB, zC, Act.put, zD, zE, zF]
          refine takeC (i := 8) rfl hHeld ?_
          try simp only [zA, zB, zC, Act.put, zD, zE, zF]
          refine' takeA (i := 9) (v := _) rfl (yieldsIf_load_mid (by rfl) _ _ rfl _ _ rfl _ _ (fun _ h => h.1.range) Tryz.underlying24 rfl (pos_info p hl)) hHeld ?_
          try simp only [zA, zB, zC, Act.put, zD, zE, zF]
          refine takeC (i := 11) rfl hHeld ?_
          try simp only [zA, zB, zC, Act.put, zD, zE, zF]
          refine takeA (i := 12) (v := ?vaq0_10_12) rfl (Or.inl ⟨by rfl, ?yaq0_10_12⟩) hHeld ?raq0_10_12
          case yaq0_10_12 => (intro wq hSw; have hq := hSw.2.1; clear hSw; go_simp; try with_reducible rfl)
          try simp only [zA, zB, zC, Act.put, zD, zE, zF]
          refine wpAnyH_ready (rs := [10]) (by kernel_rfl) (by simp) ?_
          refine AllReadyH.cons rfl (fun K hK => ?_) AllReadyH.nil
          try simp only [zA, zB, zC, Act.put, zD, zE, zF]
          try rw [if_pos (by rfl)]
          go_simp
          refine (hid.out.2.2.2.2.1 (by omega) (by omega) _).mono ?_
          rintro e1 w1 ⟨rfl, hb⟩
          go_wp2_with fail
          refine hK.out _ _ (by have hs := hHeld.2.2.2.size; exact ⟨hHeld.1.below hb, (hb.cell (p := ⟨w.heap.size, 65, none⟩) hHeld.1.lt).trans hHeld.2.1, (hb.cell (p := ⟨w.heap.size, 64, none⟩) hHeld.1.lt).trans hHeld.2.2.1, hHeld.2.2.2.trans (hb.mono hs)⟩) (fun hHeld => ?_)
          clear hK K
          try simp only [zA, zB, zC, Act.put, zD, zE, zF]
          refine takeC (i := 13) rfl hHeld ?_
          try simp only [zA, zB, zC, Act.put, zD, zE, zF]
          refine takeC (i := 14) rfl hHeld ?_
          try simp only [zA, zB, zC, Act.put, zD, zE, zF]
          refine takeC (i := 15) rfl hHeld ?_
          try simp only [zA, zB, zC, Act.put, zD, zE, zF]
          refine' takeA (i := 16) (v := _) rfl (yieldsIf_load_mid (by rfl) _ _ rfl _ _ rfl _ _ (fun _ h => h.1.range) Tryz.underlying24 rfl (pos_info p hl)) hHeld ?_
          try simp only [zA, zB, zC, Act.put, zD, zE, zF]
          refine wpAnyH_ready (rs := [17]) (by kernel_rfl) (by simp) ?_
          refine AllReadyH.cons rfl (fun K hK => ?_) AllReadyH.nil
          try simp only [zA, zB, zC, Act.put, zD, zE, zF]
          try rw [if_pos (by rfl)]
          go_simp
          refine (hid.out.2.2.2.2.2.1 (by omega) (by omega) _).mono ?_
          rintro e1 w1 ⟨rfl, hb⟩
          go_wp2_with fail
          refine hK.out _ _ (by have hs := hHeld.2.2.2.size; exact ⟨hHeld.1.below hb, (hb.cell (p := ⟨w.heap.size, 65, none⟩) hHeld.1.lt).trans hHeld.2.1, (hb.cell (p := ⟨w.heap.size, 64, none⟩) hHeld.1.lt).trans hHeld.2.2.1, hHeld.2.2.2.trans (hb.mono hs)⟩) (fun hHeld => ?_)
          clear hK K
          try simp only [zA, zB, zC, Act.put, zD, zE, zF]
          refine takeC (i := 18) rfl hHeld ?_
          try simp only [zA, zB, zC, Act.put, zD, zE, zF]
          refine takeC (i := 19) rfl hHeld ?_
          try simp only [zA, zB, zC, Act.put, zD, zE, zF]
          refine wpAnyH_done (by kernel_rfl) ?_ _
          have hrowS := show Shut _ from hHeld.1
          have hBs := show Shut _ from hHeld.2.2.2
          have c65 := hHeld.2.1
          have c64 := hHeld.2.2.1
          clear hHeld
          go_wp2_with fail
          refine wp_region_held_drew (S := fun w' : World => PosAt p w.heap.size w' ∧ w'.cell? ⟨w.heap.size, 65, none⟩ = some (.int .i64 rb) ∧ w'.cell? ⟨w.heap.size, 64, none⟩ = some (.int .i64 0) ∧ Below w.heap.size w w') (by kernel_rfl) ⟨hrowS.out, c65, c64, hBs.out.drew⟩ (fun hHeld => ?_)
          refine' takeA (i := 0) (v := _) rfl (yieldsIf_load_mid (by rfl) _ _ rfl _ _ rfl _ _ (fun _ h => h.1.range) Tryz.underlying24 rfl (pos_info p hl)) hHeld ?_
          try simp only [zA, zB, zC, Act.put, zD, zE, zF]
          refine' takeA (i := 1) (v := _) rfl (yieldsIf_load_mid (by rfl) _ _ rfl _ _ rfl _ _ (fun _ h => h.1.range) Tryz.underlying24 rfl (pos_info p hl)) hHeld ?_
          try simp only [zA, zB, zC, Act.put, zD, zE, zF]
          refine takeC (i := 2) rfl hHeld ?_
          try simp only [zA, zB, zC, Act.put, zD, zE, zF]
          refine takeA (i := 3) (v := ?vbq0_4_3) rfl (Or.inl ⟨by rfl, ?ybq0_4_3⟩) hHeld ?rbq0_4_3
          case ybq0_4_3 => (intro wq hSw; have hq := hSw.2.2.1; clear hSw; go_simp; try with_reducible rfl)
          try simp only [zA, zB, zC, Act.put, zD, zE, zF]
          refine takeC (i := 4) rfl hHeld ?_
          try simp only [zA, zB, zC, Act.put, zD, zE, zF]
          refine takeC (i := 6) rfl hHeld ?_
          try simp only [zA, zB, zC, Act.put, zD, zE, zF]
          refine takeA (i := 7) (v := ?vbq0_7_7) rfl (Or.inl ⟨by rfl, ?ybq0_7_7⟩) hHeld ?rbq0_7_7
          case ybq0_7_7 => (intro wq hSw; have hq := hSw.2.2.1; clear hSw; go_simp; try with_reducible rfl)
          try simp only [zA, zB, zC, Act.put, zD, zE, zF]
          refine wpAnyH_ready (rs := [5]) (by kernel_rfl) (by simp) ?_
          refine AllReadyH.cons rfl (fun K hK => ?_) AllReadyH.nil
          try simp only [zA, zB, zC, Act.put, zD, zE, zF]
          try rw [if_pos (by rfl)]
          go_simp
          refine (hid.out.2.2.2.2.2.2.1 1 (by decide) (by decide) _).mono ?_
          rintro e1 w1 ⟨rfl, hb⟩
          go_wp2_with fail
          refine hK.out _ _ (by have hs := hHeld.2.2.2.size; exact ⟨hHeld.1.below hb, (hb.cell (p := ⟨w.heap.size, 65, none⟩) hHeld.1.lt).trans hHeld.2.1, (hb.cell (p := ⟨w.heap.size, 64, none⟩) hHeld.1.lt).trans hHeld.2.2.1, hHeld.2.2.2.trans (hb.mono hs)⟩) (fun hHeld => ?_)
          clear hK K
          try simp only [zA, zB, zC, Act.put, zD, zE, zF]
          have hk1 : 0 ≤ kingAt p 1 := hid.out.2.2.2.2.2.2.2.2.1 1 (by first | (rw [show (1 : Int) + 6 * 1 = 7 by decide, hid.out.2.2.2.2.2.2.2.2.2.2.2]; decide))
          have hk2 := hid.out.2.2.2.2.2.2.2.2.2.1 1
          refine wpAnyH_ready (rs := [8]) (by kernel_rfl) (by simp) ?_
          refine AllReadyH.cons rfl (fun K hK => ?_) AllReadyH.nil
          try simp only [zA, zB, zC, Act.put, zD, zE, zF]
          try rw [if_pos (by rfl)]
          go_simp
          refine (hid.out.2.2.2.2.2.2.2.1 (kingAt p 1) 0 hk1 hk2 _).mono ?_
          rintro e1 w1 ⟨rfl, hb⟩
          go_wp2_with fail
          refine hK.out _ _ (by have hs := hHeld.2.2.2.size; exact ⟨hHeld.1.below hb, (hb.cell (p := ⟨w.heap.size, 65, none⟩) hHeld.1.lt).trans hHeld.2.1, (hb.cell (p := ⟨w.heap.size, 64, none⟩) hHeld.1.lt).trans hHeld.2.2.1, hHeld.2.2.2.trans (hb.mono hs)⟩) (fun hHeld => ?_)
          clear hK K
          try simp only [zA, zB, zC, Act.put, zD, zE, zF]
          refine takeC (i := 9) rfl hHeld ?_
          try simp only [zA, zB, zC, Act.put, zD, zE, zF]
          refine takeC (i := 10) rfl hHeld ?_
          try simp only [zA, zB, zC, Act.put, zD, zE, zF]
          refine wpAnyH_done (by kernel_rfl) ?_ _
          go_wp2_with fail
          go_ret
          exact ⟨by rw [hid.out.1, hHs.out]; exact ret_bool (by simp), hHeld.2.2.2⟩
         | false =>
          refine wp_region_held_drew (S := fun w' : World => PosAt p w.heap.size w' ∧ w'.cell? ⟨w.heap.size, 65, none⟩ = some (.int .i64 rb) ∧ w'.cell? ⟨w.heap.size, 64, none⟩ = some (.int .i64 0) ∧ Below w.heap.size w w') (by kernel_rfl) ⟨hrowS.out, c65, c64, hBs.out.drew⟩ (fun hHeld => ?_)
          refine' takeA (i := 0) (v := _) rfl (yieldsIf_load_mid (by rfl) _ _ rfl _ _ rfl _ _ (fun _ h => h.1.range) Tryz.underlying24 rfl (pos_info p hl)) hHeld ?_
          try simp only [zA, zB, zC, Act.put, zD, zE, zF]
          refine wpAnyH_ready (rs := [1]) (by kernel_rfl) (by simp) ?_
          refine AllReadyH.cons rfl (fun K hK => ?_) AllReadyH.nil
          try simp only [zA, zB, zC, Act.put, zD, zE, zF]
          try rw [if_pos (by rfl)]
          go_simp
          refine (hid.out.2.2.1 _).mono ?_
          rintro e1 w1 ⟨rfl, hb⟩
          go_wp2_with fail
          refine hK.out _ _ (by have hs := hHeld.2.2.2.size; exact ⟨hHeld.1.below hb, (hb.cell (p := ⟨w.heap.size, 65, none⟩) hHeld.1.lt).trans hHeld.2.1, (hb.cell (p := ⟨w.heap.size, 64, none⟩) hHeld.1.lt).trans hHeld.2.2.1, hHeld.2.2.2.trans (hb.mono hs)⟩) (fun hHeld => ?_)
          clear hK K
          try simp only [zA, zB, zC, Act.put, zD, zE, zF]
          refine takeC (i := 2) rfl hHeld ?_
          try simp only [zA, zB, zC, Act.put, zD, zE, zF]
          refine takeC (i := 3) rfl hHeld ?_
          try simp only [zA, zB, zC, Act.put, zD, zE, zF]
          refine' takeA (i := 4) (v := _) rfl (yieldsIf_load_mid (by rfl) _ _ rfl _ _ rfl _ _ (fun _ h => h.1.range) Tryz.underlying24 rfl (pos_info p hl)) hHeld ?_
          try simp only [zA, zB, zC, Act.put, zD, zE, zF]
          refine wpAnyH_ready (rs := [5]) (by kernel_rfl) (by simp) ?_
          refine AllReadyH.cons rfl (fun K hK => ?_) AllReadyH.nil
          try simp only [zA, zB, zC, Act.put, zD, zE, zF]
          try rw [if_pos (by rfl)]
          go_simp
          refine (hid.out.2.2.2.1 _).mono ?_
          rintro e1 w1 ⟨rfl, hb⟩
          go_wp2_with fail
          refine hK.out _ _ (by have hs := hHeld.2.2.2.size; exact ⟨hHeld.1.below hb, (hb.cell (p := ⟨w.heap.size, 65, none⟩) hHeld.1.lt).trans hHeld.2.1, (hb.cell (p := ⟨w.heap.size, 64, none⟩) hHeld.1.lt).trans hHeld.2.2.1, hHeld.2.2.2.trans (hb.mono hs)⟩) (fun hHeld => ?_)
          clear hK K
          try simp only [zA, zB, zC, Act.put, zD, zE, zF]
          refine takeC (i := 6) rfl hHeld ?_
          try simp only [zA, zB, zC, Act.put, zD, zE, zF]
          refine takeC (i := 7) rfl hHeld ?_
          try simp only [zA, zB, zC, Act.put, zD, zE, zF]
          refine takeC (i := 8) rfl hHeld ?_
          try simp only [zA, zB, zC, Act.put, zD, zE, zF]
          refine' takeA (i := 9) (v := _) rfl (yieldsIf_load_mid (by rfl) _ _ rfl _ _ rfl _ _ (fun _ h => h.1.range) Tryz.underlying24 rfl (pos_info p hl)) hHeld ?_
          try simp only [zA, zB, zC, Act.put, zD, zE, zF]
          refine takeC (i := 11) rfl hHeld ?_
          try simp only [zA, zB, zC, Act.put, zD, zE, zF]
          refine takeA (i := 12) (v := ?vdq0_10_12) rfl (Or.inl ⟨by rfl, ?ydq0_10_12⟩) hHeld ?rdq0_10_12
          case ydq0_10_12 => (intro wq hSw; have hq := hSw.2.1; clear hSw; go_simp; try with_reducible rfl)
          try simp only [zA, zB, zC, Act.put, zD, zE, zF]
          refine wpAnyH_ready (rs := [10]) (by kernel_rfl) (by simp) ?_
          refine AllReadyH.cons rfl (fun K hK => ?_) AllReadyH.nil
          try simp only [zA, zB, zC, Act.put, zD, zE, zF]
          try rw [if_pos (by rfl)]
          go_simp
          refine (hid.out.2.2.2.2.1 (by omega) (by omega) _).mono ?_
          rintro e1 w1 ⟨rfl, hb⟩
          go_wp2_with fail
          refine hK.out _ _ (by have hs := hHeld.2.2.2.size; exact ⟨hHeld.1.below hb, (hb.cell (p := ⟨w.heap.size, 65, none⟩) hHeld.1.lt).trans hHeld.2.1, (hb.cell (p := ⟨w.heap.size, 64, none⟩) hHeld.1.lt).trans hHeld.2.2.1, hHeld.2.2.2.trans (hb.mono hs)⟩) (fun hHeld => ?_)
          clear hK K
          try simp only [zA, zB, zC, Act.put, zD, zE, zF]
          refine takeC (i := 13) rfl hHeld ?_
          try simp only [zA, zB, zC, Act.put, zD, zE, zF]
          refine takeC (i := 14) rfl hHeld ?_
          try simp only [zA, zB, zC, Act.put, zD, zE, zF]
          refine takeC (i := 15) rfl hHeld ?_
          try simp only [zA, zB, zC, Act.put, zD, zE, zF]
          refine' takeA (i := 16) (v := _) rfl (yieldsIf_load_mid (by rfl) _ _ rfl _ _ rfl _ _ (fun _ h => h.1.range) Tryz.underlying24 rfl (pos_info p hl)) hHeld ?_
          try simp only [zA, zB, zC, Act.put, zD, zE, zF]
          refine wpAnyH_ready (rs := [17]) (by kernel_rfl) (by simp) ?_
          refine AllReadyH.cons rfl (fun K hK => ?_) AllReadyH.nil
          try simp only [zA, zB, zC, Act.put, zD, zE, zF]
          try rw [if_pos (by rfl)]
          go_simp
          refine (hid.out.2.2.2.2.2.1 (by omega) (by omega) _).mono ?_
          rintro e1 w1 ⟨rfl, hb⟩
          go_wp2_with fail
          refine hK.out _ _ (by have hs := hHeld.2.2.2.size; exact ⟨hHeld.1.below hb, (hb.cell (p := ⟨w.heap.size, 65, none⟩) hHeld.1.lt).trans hHeld.2.1, (hb.cell (p := ⟨w.heap.size, 64, none⟩) hHeld.1.lt).trans hHeld.2.2.1, hHeld.2.2.2.trans (hb.mono hs)⟩) (fun hHeld => ?_)
          clear hK K
          try simp only [zA, zB, zC, Act.put, zD, zE, zF]
          refine takeC (i := 18) rfl hHeld ?_
          try simp only [zA, zB, zC, Act.put, zD, zE, zF]
          refine takeC (i := 19) rfl hHeld ?_
          try simp only [zA, zB, zC, Act.put, zD, zE, zF]
          refine wpAnyH_done (by kernel_rfl) ?_ _
          go_wp2_with fail
          go_ret
          exact ⟨by rw [hid.out.1]; exact ret_bool (by simp), hHeld.2.2.2⟩
        ·have d3b : (rb != ca) = true := by simpa using d3
         have d3c : decide (rb = ca) = false := decide_eq_false d3
         clear d3
         refine wp_region_held_drew (S := fun w' : World => PosAt p w.heap.size w' ∧ w'.cell? ⟨w.heap.size, 65, none⟩ = some (.int .i64 ca) ∧ w'.cell? ⟨w.heap.size, 64, none⟩ = some (.int .i64 0) ∧ Below w.heap.size w w') (by kernel_rfl) ⟨hrowS.out, c65, c64, hBs.out.drew⟩ (fun hHeld => ?_)
         refine' takeA (i := 0) (v := _) rfl (yieldsIf_load_mid (by rfl) _ _ rfl _ _ rfl _ _ (fun _ h => h.1.range) Tryz.underlying24 rfl (pos_info p hl)) hHeld ?_
         try simp only [zA, zB, zC, Act.put, zD, zE, zF]
         refine wpAnyH_ready (rs := [1]) (by kernel_rfl) (by simp) ?_
         refine AllReadyH.cons rfl (fun K hK => ?_) AllReadyH.nil
         try simp only [zA, zB, zC, Act.put, zD, zE, zF]
         try rw [if_pos (by rfl)]
         go_simp
         refine (hid.out.2.2.1 _).mono ?_
         rintro e1 w1 ⟨rfl, hb⟩
         go_wp2_with fail
         refine hK.out _ _ (by have hs := hHeld.2.2.2.size; exact ⟨hHeld.1.below hb, (hb.cell (p := ⟨w.heap.size, 65, none⟩) hHeld.1.lt).trans hHeld.2.1, (hb.cell (p := ⟨w.heap.size, 64, none⟩) hHeld.1.lt).trans hHeld.2.2.1, hHeld.2.2.2.trans (hb.mono hs)⟩) (fun hHeld => ?_)
         clear hK K
         try simp only [zA, zB, zC, Act.put, zD, zE, zF]
         refine takeC (i := 2) rfl hHeld ?_
         try simp only [zA, zB, zC, Act.put, zD, zE, zF]
         refine takeC (i := 3) rfl hHeld ?_
         try simp only [zA, zB, zC, Act.put, zD, zE, zF]
         refine' takeA (i := 4) (v := _) rfl (yieldsIf_load_mid (by rfl) _ _ rfl _ _ rfl _ _ (fun _ h => h.1.range) Tryz.underlying24 rfl (pos_info p hl)) hHeld ?_
         try simp only [zA, zB, zC, Act.put, zD, zE, zF]
         refine wpAnyH_ready (rs := [5]) (by kernel_rfl) (by simp) ?_
         refine AllReadyH.cons rfl (fun K hK => ?_) AllReadyH.nil
         try simp only [zA, zB, zC, Act.put, zD, zE, zF]
         try rw [if_pos (by rfl)]
         go_simp
         refine (hid.out.2.2.2.1 _).mono ?_
         rintro e1 w1 ⟨rfl, hb⟩
         go_wp2_with fail
         refine hK.out _ _ (by have hs := hHeld.2.2.2.size; exact ⟨hHeld.1.below hb, (hb.cell (p := ⟨w.heap.size, 65, none⟩) hHeld.1.lt).trans hHeld.2.1, (hb.cell (p := ⟨w.heap.size, 64, none⟩) hHeld.1.lt).trans hHeld.2.2.1, hHeld.2.2.2.trans (hb.mono hs)⟩) (fun hHeld => ?_)
         clear hK K
         try simp only [zA, zB, zC, Act.put, zD, zE, zF]
         refine takeC (i := 6) rfl hHeld ?_
         try simp only [zA, zB, zC, Act.put, zD, zE, zF]
         refine takeC (i := 7) rfl hHeld ?_
         try simp only [zA, zB, zC, Act.put, zD, zE, zF]
         refine takeC (i := 8) rfl hHeld ?_
         try simp only [zA, zB, zC, Act.put, zD, zE, zF]
         refine' takeA (i := 9) (v := _) rfl (yieldsIf_load_mid (by rfl) _ _ rfl _ _ rfl _ _ (fun _ h => h.1.range) Tryz.underlying24 rfl (pos_info p hl)) hHeld ?_
         try simp only [zA, zB, zC, Act.put, zD, zE, zF]
         refine takeC (i := 11) rfl hHeld ?_
         try simp only [zA, zB, zC, Act.put, zD, zE, zF]
         refine takeA (i := 12) (v := ?veq0_10_12) rfl (Or.inl ⟨by rfl, ?yeq0_10_12⟩) hHeld ?req0_10_12
         case yeq0_10_12 => (intro wq hSw; have hq := hSw.2.1; clear hSw; go_simp; try with_reducible rfl)
         try simp only [zA, zB, zC, Act.put, zD, zE, zF]
         refine wpAnyH_ready (rs := [10]) (by kernel_rfl) (by simp) ?_
         refine AllReadyH.cons rfl (fun K hK => ?_) AllReadyH.nil
         try simp only [zA, zB, zC, Act.put, zD, zE, zF]
         try rw [if_pos (by rfl)]
         go_simp
         refine (hid.out.2.2.2.2.1 (by omega) (by omega) _).mono ?_
         rintro e1 w1 ⟨rfl, hb⟩
         go_wp2_with fail
         refine hK.out _ _ (by have hs := hHeld.2.2.2.size; exact ⟨hHeld.1.below hb, (hb.cell (p := ⟨w.heap.size, 65, none⟩) hHeld.1.lt).trans hHeld.2.1, (hb.cell (p := ⟨w.heap.size, 64, none⟩) hHeld.1.lt).trans hHeld.2.2.1, hHeld.2.2.2.trans (hb.mono hs)⟩) (fun hHeld => ?_)
         clear hK K
         try simp only [zA, zB, zC, Act.put, zD, zE, zF]
         refine takeC (i := 13) rfl hHeld ?_
         try simp only [zA, zB, zC, Act.put, zD, zE, zF]
         refine takeC (i := 14) rfl hHeld ?_
         try simp only [zA, zB, zC, Act.put, zD, zE, zF]
         refine takeC (i := 15) rfl hHeld ?_
         try simp only [zA, zB, zC, Act.put, zD, zE, zF]
         refine takeA (i := 16) (v := undef) rfl (Or.inr ⟨by rfl, rfl⟩) hHeld ?_
         try simp only [zA, zB, zC, Act.put, zD, zE, zF]
         refine takeA (i := 17) (v := undef) rfl (Or.inr ⟨by rfl, rfl⟩) hHeld ?_
         try simp only [zA, zB, zC, Act.put, zD, zE, zF]
         refine takeA (i := 18) (v := undef) rfl (Or.inr ⟨by rfl, rfl⟩) hHeld ?_
         try simp only [zA, zB, zC, Act.put, zD, zE, zF]
         refine takeC (i := 19) rfl hHeld ?_
         try simp only [zA, zB, zC, Act.put, zD, zE, zF]
         refine wpAnyH_done (by kernel_rfl) ?_ _
         go_wp2_with fail
         go_ret
         exact ⟨by rw [hid.out.1, d3c]; exact ret_bool (by simp), hHeld.2.2.2⟩
       ·have d2b : ((n2 : Int) != 1) = true := by simp; omega
        have d2c : decide (n2 = 1) = false := decide_eq_false d2
        clear d2
        refine wp_region_held_drew (S := fun w' : World => PosAt p w.heap.size w' ∧ w'.cell? ⟨w.heap.size, 65, none⟩ = some (.int .i64 ca) ∧ w'.cell? ⟨w.heap.size, 64, none⟩ = some (.int .i64 0) ∧ Below w.heap.size w w') (by kernel_rfl) ⟨hrowS.out, c65, c64, hBs.out.drew⟩ (fun hHeld => ?_)
        refine' takeA (i := 0) (v := _) rfl (yieldsIf_load_mid (by rfl) _ _ rfl _ _ rfl _ _ (fun _ h => h.1.range) Tryz.underlying24 rfl (pos_info p hl)) hHeld ?_
        try simp only [zA, zB, zC, Act.put, zD, zE, zF]
        refine wpAnyH_ready (rs := [1]) (by kernel_rfl) (by simp) ?_
        refine AllReadyH.cons rfl (fun K hK => ?_) AllReadyH.nil
        try simp only [zA, zB, zC, Act.put, zD, zE, zF]
        try rw [if_pos (by rfl)]
        go_simp
        refine (hid.out.2.2.1 _).mono ?_
        rintro e1 w1 ⟨rfl, hb⟩
        go_wp2_with fail
        refine hK.out _ _ (by have hs := hHeld.2.2.2.size; exact ⟨hHeld.1.below hb, (hb.cell (p := ⟨w.heap.size, 65, none⟩) hHeld.1.lt).trans hHeld.2.1, (hb.cell (p := ⟨w.heap.size, 64, none⟩) hHeld.1.lt).trans hHeld.2.2.1, hHeld.2.2.2.trans (hb.mono hs)⟩) (fun hHeld => ?_)
        clear hK K
        try simp only [zA, zB, zC, Act.put, zD, zE, zF]
        refine takeC (i := 2) rfl hHeld ?_
        try simp only [zA, zB, zC, Act.put, zD, zE, zF]
        refine takeC (i := 3) rfl hHeld ?_
        try simp only [zA, zB, zC, Act.put, zD, zE, zF]
        refine' takeA (i := 4) (v := _) rfl (yieldsIf_load_mid (by rfl) _ _ rfl _ _ rfl _ _ (fun _ h => h.1.range) Tryz.underlying24 rfl (pos_info p hl)) hHeld ?_
        try simp only [zA, zB, zC, Act.put, zD, zE, zF]
        refine wpAnyH_ready (rs := [5]) (by kernel_rfl) (by simp) ?_
        refine AllReadyH.cons rfl (fun K hK => ?_) AllReadyH.nil
        try simp only [zA, zB, zC, Act.put, zD, zE, zF]
        try rw [if_pos (by rfl)]
        go_simp
        refine (hid.out.2.2.2.1 _).mono ?_
        rintro e1 w1 ⟨rfl, hb⟩
        go_wp2_with fail
        refine hK.out _ _ (by have hs := hHeld.2.2.2.size; exact ⟨hHeld.1.below hb, (hb.cell (p := ⟨w.heap.size, 65, none⟩) hHeld.1.lt).trans hHeld.2.1, (hb.cell (p := ⟨w.heap.size, 64, none⟩) hHeld.1.lt).trans hHeld.2.2.1, hHeld.2.2.2.trans (hb.mono hs)⟩) (fun hHeld => ?_)
        clear hK K
        try simp only [zA, zB, zC, Act.put, zD, zE, zF]
        refine takeC (i := 6) rfl hHeld ?_
        try simp only [zA, zB, zC, Act.put, zD, zE, zF]
        refine takeC (i := 7) rfl hHeld ?_
        try simp only [zA, zB, zC, Act.put, zD, zE, zF]
        refine takeC (i := 8) rfl hHeld ?_
        try simp only [zA, zB, zC, Act.put, zD, zE, zF]
        refine takeA (i := 9) (v := undef) rfl (Or.inr ⟨by rfl, rfl⟩) hHeld ?_
        try simp only [zA, zB, zC, Act.put, zD, zE, zF]
        refine takeA (i := 10) (v := undef) rfl (Or.inr ⟨by rfl, rfl⟩) hHeld ?_
        try simp only [zA, zB, zC, Act.put, zD, zE, zF]
        refine takeA (i := 11) (v := undef) rfl (Or.inr ⟨by rfl, rfl⟩) hHeld ?_
        try simp only [zA, zB, zC, Act.put, zD, zE, zF]
        refine takeA (i := 12) (v := undef) rfl (Or.inr ⟨by rfl, rfl⟩) hHeld ?_
        try simp only [zA, zB, zC, Act.put, zD, zE, zF]
        refine takeA (i := 13) (v := undef) rfl (Or.inr ⟨by rfl, rfl⟩) hHeld ?_
        try simp only [zA, zB, zC, Act.put, zD, zE, zF]
        refine takeC (i := 14) rfl hHeld ?_
        try simp only [zA, zB, zC, Act.put, zD, zE, zF]
        refine takeC (i := 15) rfl hHeld ?_
        try simp only [zA, zB, zC, Act.put, zD, zE, zF]
        refine takeA (i := 16) (v := undef) rfl (Or.inr ⟨by rfl, rfl⟩) hHeld ?_
        try simp only [zA, zB, zC, Act.put, zD, zE, zF]
        refine takeA (i := 17) (v := undef) rfl (Or.inr ⟨by rfl, rfl⟩) hHeld ?_
        try simp only [zA, zB, zC, Act.put, zD, zE, zF]
        refine takeA (i := 18) (v := undef) rfl (Or.inr ⟨by rfl, rfl⟩) hHeld ?_
        try simp only [zA, zB, zC, Act.put, zD, zE, zF]
        refine takeC (i := 19) rfl hHeld ?_
        try simp only [zA, zB, zC, Act.put, zD, zE, zF]
        refine wpAnyH_done (by kernel_rfl) ?_ _
        go_wp2_with fail
        go_ret
        exact ⟨by rw [hid.out.1, d2c]; exact ret_bool (by simp), hHeld.2.2.2⟩
      ·have d1b : ((n1 : Int) != 1) = true := by simp; omega
       have d1c : decide (n1 = 1) = false := decide_eq_false d1
       clear d1
       refine wp_region_held_drew (S := fun w' : World => PosAt p w.heap.size w' ∧ w'.cell? ⟨w.heap.size, 65, none⟩ = some (.int .i64 ca) ∧ w'.cell? ⟨w.heap.size, 64, none⟩ = some (.int .i64 0) ∧ Below w.heap.size w w') (by kernel_rfl) ⟨hrowS.out, c65, c64, hBs.out.drew⟩ (fun hHeld => ?_)
       refine' takeA (i := 0) (v := _) rfl (yieldsIf_load_mid (by rfl) _ _ rfl _ _ rfl _ _ (fun _ h => h.1.range) Tryz.underlying24 rfl (pos_info p hl)) hHeld ?_
       try simp only [zA, zB, zC, Act.put, zD, zE, zF]
       refine wpAnyH_ready (rs := [1]) (by kernel_rfl) (by simp) ?_
       refine AllReadyH.cons rfl (fun K hK => ?_) AllReadyH.nil
       try simp only [zA, zB, zC, Act.put, zD, zE, zF]
       try rw [if_pos (by rfl)]
       go_simp
       refine (hid.out.2.2.1 _).mono ?_
       rintro e1 w1 ⟨rfl, hb⟩
       go_wp2_with fail
       refine hK.out _ _ (by have hs := hHeld.2.2.2.size; exact ⟨hHeld.1.below hb, (hb.cell (p := ⟨w.heap.size, 65, none⟩) hHeld.1.lt).trans hHeld.2.1, (hb.cell (p := ⟨w.heap.size, 64, none⟩) hHeld.1.lt).trans hHeld.2.2.1, hHeld.2.2.2.trans (hb.mono hs)⟩) (fun hHeld => ?_)
       clear hK K
       try simp only [zA, zB, zC, Act.put, zD, zE, zF]
       refine takeC (i := 2) rfl hHeld ?_
       try simp only [zA, zB, zC, Act.put, zD, zE, zF]
       refine takeC (i := 3) rfl hHeld ?_
       try simp only [zA, zB, zC, Act.put, zD, zE, zF]
       refine takeA (i := 4) (v := undef) rfl (Or.inr ⟨by rfl, rfl⟩) hHeld ?_
       try simp only [zA, zB, zC, Act.put, zD, zE, zF]
       refine takeA (i := 5) (v := undef) rfl (Or.inr ⟨by rfl, rfl⟩) hHeld ?_
       try simp only [zA, zB, zC, Act.put, zD, zE, zF]
       refine takeA (i := 6) (v := undef) rfl (Or.inr ⟨by rfl, rfl⟩) hHeld ?_
       try simp only [zA, zB, zC, Act.put, zD, zE, zF]
       refine takeC (i := 7) rfl hHeld ?_
       try simp only [zA, zB, zC, Act.put, zD, zE, zF]
       refine takeC (i := 8) rfl hHeld ?_
       try simp only [zA, zB, zC, Act.put, zD, zE, zF]
       refine takeA (i := 9) (v := undef) rfl (Or.inr ⟨by rfl, rfl⟩) hHeld ?_
       try simp only [zA, zB, zC, Act.put, zD, zE, zF]
       refine takeA (i := 10) (v := undef) rfl (Or.inr ⟨by rfl, rfl⟩) hHeld ?_
       try simp only [zA, zB, zC, Act.put, zD, zE, zF]
       refine takeA (i := 11) (v := undef) rfl (Or.inr ⟨by rfl, rfl⟩) hHeld ?_
       try simp only [zA, zB, zC, Act.put, zD, zE, zF]
       refine takeA (i := 12) (v := undef) rfl (Or.inr ⟨by rfl, rfl⟩) hHeld ?_
       try simp only [zA, zB, zC, Act.put, zD, zE, zF]
       refine takeA (i := 13) (v := undef) rfl (Or.inr ⟨by rfl, rfl⟩) hHeld ?_
       try simp only [zA, zB, zC, Act.put, zD, zE, zF]
       refine takeC (i := 14) rfl hHeld ?_
       try simp only [zA, zB, zC, Act.put, zD, zE, zF]
       refine takeC (i := 15) rfl hHeld ?_
       try simp only [zA, zB, zC, Act.put, zD, zE, zF]
       refine takeA (i := 16) (v := undef) rfl (Or.inr ⟨by rfl, rfl⟩) hHeld ?_
       try simp only [zA, zB, zC, Act.put, zD, zE, zF]
       refine takeA (i := 17) (v := undef) rfl (Or.inr ⟨by rfl, rfl⟩) hHeld ?_
       try simp only [zA, zB, zC, Act.put, zD, zE, zF]
       refine takeA (i := 18) (v := undef) rfl (Or.inr ⟨by rfl, rfl⟩) hHeld ?_
       try simp only [zA, zB, zC, Act.put, zD, zE, zF]
       refine takeC (i := 19) rfl hHeld ?_
       try simp only [zA, zB, zC, Act.put, zD, zE, zF]
       refine wpAnyH_done (by kernel_rfl) ?_ _
       go_wp2_with fail
       go_ret
       exact ⟨by rw [hid.out.1, d1c]; exact ret_bool (by simp), hHeld.2.2.2⟩
     ·go_wp2_with fail
      by_cases d1 : n1 = 1
      ·subst d1
       by_cases d2 : n2 = 1
       ·subst d2
        by_cases d3 : rb = ca
        ·subst d3
         cases pb with
         | true =>
          refine wp_region_held_drew (S := fun w' : World => PosAt p w.heap.size w' ∧ w'.cell? ⟨w.heap.size, 65, none⟩ = some (.int .i64 rb) ∧ w'.cell? ⟨w.heap.size, 64, none⟩ = some (.int .i64 1) ∧ Below w.heap.size w w') (by kernel_rfl) ⟨hrowS.out, c65, c64, hBs.out.drew⟩ (fun hHeld => ?_)
          refine' takeA (i := 0) (v := _) rfl (yieldsIf_load_mid (by rfl) _ _ rfl _ _ rfl _ _ (fun _ h => h.1.range) Tryz.underlying24 rfl (pos_info p hl)) hHeld ?_
          try simp only [zA, zB, zC, Act.put, zD, zE, zF]
          refine wpAnyH_ready (rs := [1]) (by kernel_rfl) (by simp) ?_
          refine AllReadyH.cons rfl (fun K hK => ?_) AllReadyH.nil
          try simp only [zA, zB, zC, Act.put, zD, zE, zF]
          try rw [if_pos (by rfl)]
          go_simp
          refine (hid.out.2.2.1 _).mono ?_
          rintro e1 w1 ⟨rfl, hb⟩
          go_wp2_with fail
          refine hK.out _ _ (by have hs := hHeld.2.2.2.size; exact ⟨hHeld.1.below hb, (hb.cell (p := ⟨w.heap.size, 65, none⟩) hHeld.1.lt).trans hHeld.2.1, (hb.cell (p := ⟨w.heap.size, 64, none⟩) hHeld.1.lt).trans hHeld.2.2.1, hHeld.2.2.2.trans (hb.mono hs)⟩) (fun hHeld => ?_)
          clear hK K
          try simp only [zA, zB, zC, Act.put, zD, zE, zF]
          refine takeC (i := 2) rfl hHeld ?_
          try simp only [zA, zB, zC, Act.put, zD, zE, zF]
          refine takeC (i := 3) rfl hHeld ?_
          try simp only [zA, zB, zC, Act.put, zD, zE, zF]
          refine' takeA (i := 4) (v := _) rfl (yieldsIf_load_mid (by rfl) _ _ rfl _ _ rfl _ _ (fun _ h => h.1.range) Tryz.underlying24 rfl (pos_info p hl)) hHeld ?_
          try simp only [zA, zB, zC, Act.put, zD, zE, zF]
          refine wpAnyH_ready (rs := [5]) (by kernel_rfl) (by simp) ?_
          refine AllReadyH.cons rfl (fun K hK => ?_) AllReadyH.nil
          try simp only [zA, zB, zC, Act.put, zD, zE, zF]
          try rw [if_pos (by rfl)]
          go_simp
          refine (hid.out.2.2.2.1 _).mono ?_
          rintro e1 w1 ⟨rfl, hb⟩
          go_wp2_with fail
          refine hK.out _ _ (by have hs := hHeld.2.2.2.size; exact ⟨hHeld.1.below hb, (hb.cell (p := ⟨w.heap.size, 65, none⟩) hHeld.1.lt).trans hHeld.2.1, (hb.cell (p := ⟨w.heap.size, 64, none⟩) hHeld.1.lt).trans hHeld.2.2.1, hHeld.2.2.2.trans (hb.mono hs)⟩) (fun hHeld => ?_)
          clear hK K
          try simp only [zA, zB, zC, Act.put, zD, zE, zF]
          refine takeC (i := 6) rfl hHeld ?_
          try simp only [zA, zB, zC, Act.put, zD, zE, zF]
          refine takeC (i := 7) rfl hHeld ?_
          try simp only [zA, zB, zC, Act.put, zD, zE, zF]
          refine takeC (i := 8) rfl hHeld ?_
          try simp only [zA, zB, zC, Act.put, zD, zE, zF]
          refine' takeA (i := 9) (v := _) rfl (yieldsIf_load_mid (by rfl) _ _ rfl _ _ rfl _ _ (fun _ h => h.1.range) Tryz.underlying24 rfl (pos_info p hl)) hHeld ?_
          try simp only [zA, zB, zC, Act.put, zD, zE, zF]
          refine takeC (i := 11) rfl hHeld ?_
          try simp only [zA, zB, zC, Act.put, zD, zE, zF]
          refine takeA (i := 12) (v := ?vaq1_10_12) rfl (Or.inl ⟨by rfl, ?yaq1_10_12⟩) hHeld ?raq1_10_12
          case yaq1_10_12 => (intro wq hSw; have hq := hSw.2.1; clear hSw; go_simp; try with_reducible rfl)
          try simp only [zA, zB, zC, Act.put, zD, zE, zF]
          refine wpAnyH_ready (rs := [10]) (by kernel_rfl) (by simp) ?_
          refine AllReadyH.cons rfl (fun K hK => ?_) AllReadyH.nil
          try simp only [zA, zB, zC, Act.put, zD, zE, zF]
          try rw [if_pos (by rfl)]
          go_simp
          refine (hid.out.2.2.2.2.1 (by omega) (by omega) _).mono ?_
          rintro e1 w1 ⟨rfl, hb⟩
          go_wp2_with fail
          refine hK.out _ _ (by have hs := hHeld.2.2.2.size; exact ⟨hHeld.1.below hb, (hb.cell (p := ⟨w.heap.size, 65, none⟩) hHeld.1.lt).trans hHeld.2.1, (hb.cell (p := ⟨w.heap.size, 64, none⟩) hHeld.1.lt).trans hHeld.2.2.1, hHeld.2.2.2.trans (hb.mono hs)⟩) (fun hHeld => ?_)
          clear hK K
          try simp only [zA, zB, zC, Act.put, zD, zE, zF]
          refine takeC (i := 13) rfl hHeld ?_
          try simp only [zA, zB, zC, Act.put, zD, zE, zF]
          refine takeC (i := 14) rfl hHeld ?_
          try simp only [zA, zB, zC, Act.put, zD, zE, zF]
          refine takeC (i := 15) rfl hHeld ?_
          try simp only [zA, zB, zC, Act.put, zD, zE, zF]
          refine' takeA (i := 16) (v := _) rfl (yieldsIf_load_mid (by rfl) _ _ rfl _ _ rfl _ _ (fun _ h => h.1.range) Tryz.underlying24 rfl (pos_info p hl)) hHeld ?_
          try simp only [zA, zB, zC, Act.put, zD, zE, zF]
          refine wpAnyH_ready (rs := [17]) (by kernel_rfl) (by simp) ?_
          refine AllReadyH.cons rfl (fun K hK => ?_) AllReadyH.nil
          try simp only [zA, zB, zC, Act.put, zD, zE, zF]
          try rw [if_pos (by rfl)]
          go_simp
          refine (hid.out.2.2.2.2.2.1 (by omega) (by omega) _).mono ?_
          rintro e1 w1 ⟨rfl, hb⟩
          go_wp2_with fail
          refine hK.out _ _ (by have hs := hHeld.2.2.2.size; exact ⟨hHeld.1.below hb, (hb.cell (p := ⟨w.heap.size, 65, none⟩) hHeld.1.lt).trans hHeld.2.1, (hb.cell (p := ⟨w.heap.size, 64, none⟩) hHeld.1.lt).trans hHeld.2.2.1, hHeld.2.2.2.trans (hb.mono hs)⟩) (fun hHeld => ?_)
          clear hK K
          try simp only [zA, zB, zC, Act.put, zD, zE, zF]
          refine takeC (i := 18) rfl hHeld ?_
          try simp only [zA, zB, zC, Act.put, zD, zE, zF]
          refine takeC (i := 19) rfl hHeld ?_
          try simp only [zA, zB, zC, Act.put, zD, zE, zF]
          refine wpAnyH_done (by kernel_rfl) ?_ _
          have hrowS := show Shut _ from hHeld.1
          have hBs := show Shut _ from hHeld.2.2.2
          have c65 := hHeld.2.1
          have c64 := hHeld.2.2.1
          clear hHeld
          go_wp2_with fail
          refine wp_region_held_drew (S := fun w' : World => PosAt p w.heap.size w' ∧ w'.cell? ⟨w.heap.size, 65, none⟩ = some (.int .i64 rb) ∧ w'.cell? ⟨w.heap.size, 64, none⟩ = some (.int .i64 1) ∧ Below w.heap.size w w') (by kernel_rfl) ⟨hrowS.out, c65, c64, hBs.out.drew⟩ (fun hHeld => ?_)
          refine' takeA (i := 0) (v := _) rfl (yieldsIf_load_mid (by rfl) _ _ rfl _ _ rfl _ _ (fun _ h => h.1.range) Tryz.underlying24 rfl (pos_info p hl)) hHeld ?_
          try simp only [zA, zB, zC, Act.put, zD, zE, zF]
          refine' takeA (i := 1) (v := _) rfl (yieldsIf_load_mid (by rfl) _ _ rfl _ _ rfl _ _ (fun _ h => h.1.range) Tryz.underlying24 rfl (pos_info p hl)) hHeld ?_
          try simp only [zA, zB, zC, Act.put, zD, zE, zF]
          refine takeC (i := 2) rfl hHeld ?_
          try simp only [zA, zB, zC, Act.put, zD, zE, zF]
          refine takeA (i := 3) (v := ?vbq1_4_3) rfl (Or.inl ⟨by rfl, ?ybq1_4_3⟩) hHeld ?rbq1_4_3
          case ybq1_4_3 => (intro wq hSw; have hq := hSw.2.2.1; clear hSw; go_simp; try with_reducible rfl)
          try simp only [zA, zB, zC, Act.put, zD, zE, zF]
          refine takeC (i := 4) rfl hHeld ?_
          try simp only [zA, zB, zC, Act.put, zD, zE, zF]
          refine takeC (i := 6) rfl hHeld ?_
          try simp only [zA, zB, zC, Act.put, zD, zE, zF]
          refine takeA (i := 7) (v := ?vbq1_7_7) rfl (Or.inl ⟨by rfl, ?ybq1_7_7⟩) hHeld ?rbq1_7_7
          case ybq1_7_7 => (intro wq hSw; have hq := hSw.2.2.1; clear hSw; go_simp; try with_reducible rfl)
          try simp only [zA, zB, zC, Act.put, zD, zE, zF]
          refine wpAnyH_ready (rs := [5]) (by kernel_rfl) (by simp) ?_
          refine AllReadyH.cons rfl (fun K hK => ?_) AllReadyH.nil
          try simp only [zA, zB, zC, Act.put, zD, zE, zF]
          try rw [if_pos (by rfl)]
          go_simp
          refine (hid.out.2.2.2.2.2.2.1 0 (by decide) (by decide) _).mono ?_
          rintro e1 w1 ⟨rfl, hb⟩
          go_wp2_with fail
          refine hK.out _ _ (by have hs := hHeld.2.2.2.size; exact ⟨hHeld.1.below hb, (hb.cell (p := ⟨w.heap.size, 65, none⟩) hHeld.1.lt).trans hHeld.2.1, (hb.cell (p := ⟨w.heap.size, 64, none⟩) hHeld.1.lt).trans hHeld.2.2.1, hHeld.2.2.2.trans (hb.mono hs)⟩) (fun hHeld => ?_)
          clear hK K
          try simp only [zA, zB, zC, Act.put, zD, zE, zF]
          have hk1 : 0 ≤ kingAt p 0 := hid.out.2.2.2.2.2.2.2.2.1 0 (by first | (rw [show (1 : Int) + 6 * 0 = 1 by decide, hid.out.2.2.2.2.2.2.2.2.2.2.1]; decide))
          have hk2 := hid.out.2.2.2.2.2.2.2.2.2.1 0
          refine wpAnyH_ready (rs := [8]) (by kernel_rfl) (by simp) ?_
          refine AllReadyH.cons rfl (fun K hK => ?_) AllReadyH.nil
          try simp only [zA, zB, zC, Act.put, zD, zE, zF]
          try rw [if_pos (by rfl)]
          go_simp
          refine (hid.out.2.2.2.2.2.2.2.1 (kingAt p 0) 1 hk1 hk2 _).mono ?_
          rintro e1 w1 ⟨rfl, hb⟩
          go_wp2_with fail
          refine hK.out _ _ (by have hs := hHeld.2.2.2.size; exact ⟨hHeld.1.below hb, (hb.cell (p := ⟨w.heap.size, 65, none⟩) hHeld.1.lt).trans hHeld.2.1, (hb.cell (p := ⟨w.heap.size, 64, none⟩) hHeld.1.lt).trans hHeld.2.2.1, hHeld.2.2.2.trans (hb.mono hs)⟩) (fun hHeld => ?_)
          clear hK K
          try simp only [zA, zB, zC, Act.put, zD, zE, zF]
          refine takeC (i := 9) rfl hHeld ?_
          try simp only [zA, zB, zC, Act.put, zD, zE, zF]
          refine takeC (i := 10) rfl hHeld ?_
          try simp only [zA, zB, zC, Act.put, zD, zE, zF]
          refine wpAnyH_done (by kernel_rfl) ?_ _
          go_wp2_with fail
          go_ret
          exact ⟨by rw [hid.out.1, hHs.out]; exact ret_bool (by simp), hHeld.2.2.2⟩
         | false =>
          refine wp_region_held_drew (S := fun w' : World => PosAt p w.heap.size w' ∧ w'.cell? ⟨w.heap.size, 65, none⟩ = some (.int .i64 rb) ∧ w'.cell? ⟨w.heap.size, 64, none⟩ = some (.int .i64 1) ∧ Below w.heap.size w w') (by kernel_rfl) ⟨hrowS.out, c65, c64, hBs.out.drew⟩ (fun hHeld => ?_)
          refine' takeA (i := 0) (v := _) rfl (yieldsIf_load_mid (by rfl) _ _ rfl _ _ rfl _ _ (fun _ h => h.1.range) Tryz.underlying24 rfl (pos_info p hl)) hHeld ?_
          try simp only [zA, zB, zC, Act.put, zD, zE, zF]
          refine wpAnyH_ready (rs := [1]) (by kernel_rfl) (by simp) ?_
          refine AllReadyH.cons rfl (fun K hK => ?_) AllReadyH.nil
          try simp only [zA, zB, zC, Act.put, zD, zE, zF]
          try rw [if_pos (by rfl)]
          go_simp
          refine (hid.out.2.2.1 _).mono ?_
          rintro e1 w1 ⟨rfl, hb⟩
          go_wp2_with fail
          refine hK.out _ _ (by have hs := hHeld.2.2.2.size; exact ⟨hHeld.1.below hb, (hb.cell (p := ⟨w.heap.size, 65, none⟩) hHeld.1.lt).trans hHeld.2.1, (hb.cell (p := ⟨w.heap.size, 64, none⟩) hHeld.1.lt).trans hHeld.2.2.1, hHeld.2.2.2.trans (hb.mono hs)⟩) (fun hHeld => ?_)
          clear hK K
          try simp only [zA, zB, zC, Act.put, zD, zE, zF]
          refine takeC (i := 2) rfl hHeld ?_
          try simp only [zA, zB, zC, Act.put, zD, zE, zF]
          refine takeC (i := 3) rfl hHeld ?_
          try simp only [zA, zB, zC, Act.put, zD, zE, zF]
          refine' takeA (i := 4) (v := _) rfl (yieldsIf_load_mid (by rfl) _ _ rfl _ _ rfl _ _ (fun _ h => h.1.range) Tryz.underlying24 rfl (pos_info p hl)) hHeld ?_
          try simp only [zA, zB, zC, Act.put, zD, zE, zF]
          refine wpAnyH_ready (rs := [5]) (by kernel_rfl) (by simp) ?_
          refine AllReadyH.cons rfl (fun K hK => ?_) AllReadyH.nil
          try simp only [zA, zB, zC, Act.put, zD, zE, zF]
          try rw [if_pos (by rfl)]
          go_simp
          refine (hid.out.2.2.2.1 _).mono ?_
          rintro e1 w1 ⟨rfl, hb⟩
          go_wp2_with fail
          refine hK.out _ _ (by have hs := hHeld.2.2.2.size; exact ⟨hHeld.1.below hb, (hb.cell (p := ⟨w.heap.size, 65, none⟩) hHeld.1.lt).trans hHeld.2.1, (hb.cell (p := ⟨w.heap.size, 64, none⟩) hHeld.1.lt).trans hHeld.2.2.1, hHeld.2.2.2.trans (hb.mono hs)⟩) (fun hHeld => ?_)
          clear hK K
          try simp only [zA, zB, zC, Act.put, zD, zE, zF]
          refine takeC (i := 6) rfl hHeld ?_
          try simp only [zA, zB, zC, Act.put, zD, zE, zF]
          refine takeC (i := 7) rfl hHeld ?_
          try simp only [zA, zB, zC, Act.put, zD, zE, zF]
          refine takeC (i := 8) rfl hHeld ?_
          try simp only [zA, zB, zC, Act.put, zD, zE, zF]
          refine' takeA (i := 9) (v := _) rfl (yieldsIf_load_mid (by rfl) _ _ rfl _ _ rfl _ _ (fun _ h => h.1.range) Tryz.underlying24 rfl (pos_info p hl)) hHeld ?_
          try simp only [zA, zB, zC, Act.put, zD, zE, zF]
          refine takeC (i := 11) rfl hHeld ?_
          try simp only [zA, zB, zC, Act.put, zD, zE, zF]
          refine takeA (i := 12) (v := ?vdq1_10_12) rfl (Or.inl ⟨by rfl, ?ydq1_10_12⟩) hHeld ?rdq1_10_12
          case ydq1_10_12 => (intro wq hSw; have hq := hSw.2.1; clear hSw; go_simp; try with_reducible rfl)
          try simp only [zA, zB, zC, Act.put, zD, zE, zF]
          refine wpAnyH_ready (rs := [10]) (by kernel_rfl) (by simp) ?_
          refine AllReadyH.cons rfl (fun K hK => ?_) AllReadyH.nil
          try simp only [zA, zB, zC, Act.put, zD, zE, zF]
          try rw [if_pos (by rfl)]
          go_simp
          refine (hid.out.2.2.2.2.1 (by omega) (by omega) _).mono ?_
          rintro e1 w1 ⟨rfl, hb⟩
          go_wp2_with fail
          refine hK.out _ _ (by have hs := hHeld.2.2.2.size; exact ⟨hHeld.1.below hb, (hb.cell (p := ⟨w.heap.size, 65, none⟩) hHeld.1.lt).trans hHeld.2.1, (hb.cell (p := ⟨w.heap.size, 64, none⟩) hHeld.1.lt).trans hHeld.2.2.1, hHeld.2.2.2.trans (hb.mono hs)⟩) (fun hHeld => ?_)
          clear hK K
          try simp only [zA, zB, zC, Act.put, zD, zE, zF]
          refine takeC (i := 13) rfl hHeld ?_
          try simp only [zA, zB, zC, Act.put, zD, zE, zF]
          refine takeC (i := 14) rfl hHeld ?_
          try simp only [zA, zB, zC, Act.put, zD, zE, zF]
          refine takeC (i := 15) rfl hHeld ?_
          try simp only [zA, zB, zC, Act.put, zD, zE, zF]
          refine' takeA (i := 16) (v := _) rfl (yieldsIf_load_mid (by rfl) _ _ rfl _ _ rfl _ _ (fun _ h => h.1.range) Tryz.underlying24 rfl (pos_info p hl)) hHeld ?_
          try simp only [zA, zB, zC, Act.put, zD, zE, zF]
          refine wpAnyH_ready (rs := [17]) (by kernel_rfl) (by simp) ?_
          refine AllReadyH.cons rfl (fun K hK => ?_) AllReadyH.nil
          try simp only [zA, zB, zC, Act.put, zD, zE, zF]
          try rw [if_pos (by rfl)]
          go_simp
          refine (hid.out.2.2.2.2.2.1 (by omega) (by omega) _).mono ?_
          rintro e1 w1 ⟨rfl, hb⟩
          go_wp2_with fail
          refine hK.out _ _ (by have hs := hHeld.2.2.2.size; exact ⟨hHeld.1.below hb, (hb.cell (p := ⟨w.heap.size, 65, none⟩) hHeld.1.lt).trans hHeld.2.1, (hb.cell (p := ⟨w.heap.size, 64, none⟩) hHeld.1.lt).trans hHeld.2.2.1, hHeld.2.2.2.trans (hb.mono hs)⟩) (fun hHeld => ?_)
          clear hK K
          try simp only [zA, zB, zC, Act.put, zD, zE, zF]
          refine takeC (i := 18) rfl hHeld ?_
          try simp only [zA, zB, zC, Act.put, zD, zE, zF]
          refine takeC (i := 19) rfl hHeld ?_
          try simp only [zA, zB, zC, Act.put, zD, zE, zF]
          refine wpAnyH_done (by kernel_rfl) ?_ _
          go_wp2_with fail
          go_ret
          exact ⟨by rw [hid.out.1]; exact ret_bool (by simp), hHeld.2.2.2⟩
        ·have d3b : (rb != ca) = true := by simpa using d3
         have d3c : decide (rb = ca) = false := decide_eq_false d3
         clear d3
         refine wp_region_held_drew (S := fun w' : World => PosAt p w.heap.size w' ∧ w'.cell? ⟨w.heap.size, 65, none⟩ = some (.int .i64 ca) ∧ w'.cell? ⟨w.heap.size, 64, none⟩ = some (.int .i64 1) ∧ Below w.heap.size w w') (by kernel_rfl) ⟨hrowS.out, c65, c64, hBs.out.drew⟩ (fun hHeld => ?_)
         refine' takeA (i := 0) (v := _) rfl (yieldsIf_load_mid (by rfl) _ _ rfl _ _ rfl _ _ (fun _ h => h.1.range) Tryz.underlying24 rfl (pos_info p hl)) hHeld ?_
         try simp only [zA, zB, zC, Act.put, zD, zE, zF]
         refine wpAnyH_ready (rs := [1]) (by kernel_rfl) (by simp) ?_
         refine AllReadyH.cons rfl (fun K hK => ?_) AllReadyH.nil
         try simp only [zA, zB, zC, Act.put, zD, zE, zF]
         try rw [if_pos (by rfl)]
         go_simp
         refine (hid.out.2.2.1 _).mono ?_
         rintro e1 w1 ⟨rfl, hb⟩
         go_wp2_with fail
         refine hK.out _ _ (by have hs := hHeld.2.2.2.size; exact ⟨hHeld.1.below hb, (hb.cell (p := ⟨w.heap.size, 65, none⟩) hHeld.1.lt).trans hHeld.2.1, (hb.cell (p := ⟨w.heap.size, 64, none⟩) hHeld.1.lt).trans hHeld.2.2.1, hHeld.2.2.2.trans (hb.mono hs)⟩) (fun hHeld => ?_)
         clear hK K
         try simp only [zA, zB, zC, Act.put, zD, zE, zF]
         refine takeC (i := 2) rfl hHeld ?_
         try simp only [zA, zB, zC, Act.put, zD, zE, zF]
         refine takeC (i := 3) rfl hHeld ?_
         try simp only [zA, zB, zC, Act.put, zD, zE, zF]
         refine' takeA (i := 4) (v := _) rfl (yieldsIf_load_mid (by rfl) _ _ rfl _ _ rfl _ _ (fun _ h => h.1.range) Tryz.underlying24 rfl (pos_info p hl)) hHeld ?_
         try simp only [zA, zB, zC, Act.put, zD, zE, zF]
         refine wpAnyH_ready (rs := [5]) (by kernel_rfl) (by simp) ?_
         refine AllReadyH.cons rfl (fun K hK => ?_) AllReadyH.nil
         try simp only [zA, zB, zC, Act.put, zD, zE, zF]
         try rw [if_pos (by rfl)]
         go_simp
         refine (hid.out.2.2.2.1 _).mono ?_
         rintro e1 w1 ⟨rfl, hb⟩
         go_wp2_with fail
         refine hK.out _ _ (by have hs := hHeld.2.2.2.size; exact ⟨hHeld.1.below hb, (hb.cell (p := ⟨w.heap.size, 65, none⟩) hHeld.1.lt).trans hHeld.2.1, (hb.cell (p := ⟨w.heap.size, 64, none⟩) hHeld.1.lt).trans hHeld.2.2.1, hHeld.2.2.2.trans (hb.mono hs)⟩) (fun hHeld => ?_)
         clear hK K
         try simp only [zA, zB, zC, Act.put, zD, zE, zF]
         refine takeC (i := 6) rfl hHeld ?_
         try simp only [zA, zB, zC, Act.put, zD, zE, zF]
         refine takeC (i := 7) rfl hHeld ?_
         try simp only [zA, zB, zC, Act.put, zD, zE, zF]
         refine takeC (i := 8) rfl hHeld ?_
         try simp only [zA, zB, zC, Act.put, zD, zE, zF]
         refine' takeA (i := 9) (v := _) rfl (yieldsIf_load_mid (by rfl) _ _ rfl _ _ rfl _ _ (fun _ h => h.1.range) Tryz.underlying24 rfl (pos_info p hl)) hHeld ?_
         try simp only [zA, zB, zC, Act.put, zD, zE, zF]
         refine takeC (i := 11) rfl hHeld ?_
         try simp only [zA, zB, zC, Act.put, zD, zE, zF]
         refine takeA (i := 12) (v := ?veq1_10_12) rfl (Or.inl ⟨by rfl, ?yeq1_10_12⟩) hHeld ?req1_10_12
         case yeq1_10_12 => (intro wq hSw; have hq := hSw.2.1; clear hSw; go_simp; try with_reducible rfl)
         try simp only [zA, zB, zC, Act.put, zD, zE, zF]
         refine wpAnyH_ready (rs := [10]) (by kernel_rfl) (by simp) ?_
         refine AllReadyH.cons rfl (fun K hK => ?_) AllReadyH.nil
         try simp only [zA, zB, zC, Act.put, zD, zE, zF]
         try rw [if_pos (by rfl)]
         go_simp
         refine (hid.out.2.2.2.2.1 (by omega) (by omega) _).mono ?_
         rintro e1 w1 ⟨rfl, hb⟩
         go_wp2_with fail
         refine hK.out _ _ (by have hs := hHeld.2.2.2.size; exact ⟨hHeld.1.below hb, (hb.cell (p := ⟨w.heap.size, 65, none⟩) hHeld.1.lt).trans hHeld.2.1, (hb.cell (p := ⟨w.heap.size, 64, none⟩) hHeld.1.lt).trans hHeld.2.2.1, hHeld.2.2.2.trans (hb.mono hs)⟩) (fun hHeld => ?_)
         clear hK K
         try simp only [zA, zB, zC, Act.put, zD, zE, zF]
         refine takeC (i := 13) rfl hHeld ?_
         try simp only [zA, zB, zC, Act.put, zD, zE, zF]
         refine takeC (i := 14) rfl hHeld ?_
         try simp only [zA, zB, zC, Act.put, zD, zE, zF]
         refine takeC (i := 15) rfl hHeld ?_
         try simp only [zA, zB, zC, Act.put, zD, zE, zF]
         refine takeA (i := 16) (v := undef) rfl (Or.inr ⟨by rfl, rfl⟩) hHeld ?_
         try simp only [zA, zB, zC, Act.put, zD, zE, zF]
         refine takeA (i := 17) (v := undef) rfl (Or.inr ⟨by rfl, rfl⟩) hHeld ?_
         try simp only [zA, zB, zC, Act.put, zD, zE, zF]
         refine takeA (i := 18) (v := undef) rfl (Or.inr ⟨by rfl, rfl⟩) hHeld ?_
         try simp only [zA, zB, zC, Act.put, zD, zE, zF]
         refine takeC (i := 19) rfl hHeld ?_
         try simp only [zA, zB, zC, Act.put, zD, zE, zF]
         refine wpAnyH_done (by kernel_rfl) ?_ _
         go_wp2_with fail
         go_ret
         exact ⟨by rw [hid.out.1, d3c]; exact ret_bool (by simp), hHeld.2.2.2⟩
       ·have d2b : ((n2 : Int) != 1) = true := by simp; omega
        have d2c : decide (n2 = 1) = false := decide_eq_false d2
        clear d2
        refine wp_region_held_drew (S := fun w' : World => PosAt p w.heap.size w' ∧ w'.cell? ⟨w.heap.size, 65, none⟩ = some (.int .i64 ca) ∧ w'.cell? ⟨w.heap.size, 64, none⟩ = some (.int .i64 1) ∧ Below w.heap.size w w') (by kernel_rfl) ⟨hrowS.out, c65, c64, hBs.out.drew⟩ (fun hHeld => ?_)
        refine' takeA (i := 0) (v := _) rfl (yieldsIf_load_mid (by rfl) _ _ rfl _ _ rfl _ _ (fun _ h => h.1.range) Tryz.underlying24 rfl (pos_info p hl)) hHeld ?_
        try simp only [zA, zB, zC, Act.put, zD, zE, zF]
        refine wpAnyH_ready (rs := [1]) (by kernel_rfl) (by simp) ?_
        refine AllReadyH.cons rfl (fun K hK => ?_) AllReadyH.nil
        try simp only [zA, zB, zC, Act.put, zD, zE, zF]
        try rw [if_pos (by rfl)]
        go_simp
        refine (hid.out.2.2.1 _).mono ?_
        rintro e1 w1 ⟨rfl, hb⟩
        go_wp2_with fail
        refine hK.out _ _ (by have hs := hHeld.2.2.2.size; exact ⟨hHeld.1.below hb, (hb.cell (p := ⟨w.heap.size, 65, none⟩) hHeld.1.lt).trans hHeld.2.1, (hb.cell (p := ⟨w.heap.size, 64, none⟩) hHeld.1.lt).trans hHeld.2.2.1, hHeld.2.2.2.trans (hb.mono hs)⟩) (fun hHeld => ?_)
        clear hK K
        try simp only [zA, zB, zC, Act.put, zD, zE, zF]
        refine takeC (i := 2) rfl hHeld ?_
        try simp only [zA, zB, zC, Act.put, zD, zE, zF]
        refine takeC (i := 3) rfl hHeld ?_
        try simp only [zA, zB, zC, Act.put, zD, zE, zF]
        refine' takeA (i := 4) (v := _) rfl (yieldsIf_load_mid (by rfl) _ _ rfl _ _ rfl _ _ (fun _ h => h.1.range) Tryz.underlying24 rfl (pos_info p hl)) hHeld ?_
        try simp only [zA, zB, zC, Act.put, zD, zE, zF]
        refine wpAnyH_ready (rs := [5]) (by kernel_rfl) (by simp) ?_
        refine AllReadyH.cons rfl (fun K hK => ?_) AllReadyH.nil
        try simp only [zA, zB, zC, Act.put, zD, zE, zF]
        try rw [if_pos (by rfl)]
        go_simp
        refine (hid.out.2.2.2.1 _).mono ?_
        rintro e1 w1 ⟨rfl, hb⟩
        go_wp2_with fail
        refine hK.out _ _ (by have hs := hHeld.2.2.2.size; exact ⟨hHeld.1.below hb, (hb.cell (p := ⟨w.heap.size, 65, none⟩) hHeld.1.lt).trans hHeld.2.1, (hb.cell (p := ⟨w.heap.size, 64, none⟩) hHeld.1.lt).trans hHeld.2.2.1, hHeld.2.2.2.trans (hb.mono hs)⟩) (fun hHeld => ?_)
        clear hK K
        try simp only [zA, zB, zC, Act.put, zD, zE, zF]
        refine takeC (i := 6) rfl hHeld ?_
        try simp only [zA, zB, zC, Act.put, zD, zE, zF]
        refine takeC (i := 7) rfl hHeld ?_
        try simp only [zA, zB, zC, Act.put, zD, zE, zF]
        refine takeC (i := 8) rfl hHeld ?_
        try simp only [zA, zB, zC, Act.put, zD, zE, zF]
        refine takeA (i := 9) (v := undef) rfl (Or.inr ⟨by rfl, rfl⟩) hHeld ?_
        try simp only [zA, zB, zC, Act.put, zD, zE, zF]
        refine takeA (i := 10) (v := undef) rfl (Or.inr ⟨by rfl, rfl⟩) hHeld ?_
        try simp only [zA, zB, zC, Act.put, zD, zE, zF]
        refine takeA (i := 11) (v := undef) rfl (Or.inr ⟨by rfl, rfl⟩) hHeld ?_
        try simp only [zA, zB, zC, Act.put, zD, zE, zF]
        refine takeA (i := 12) (v := undef) rfl (Or.inr ⟨by rfl, rfl⟩) hHeld ?_
        try simp only [zA, zB, zC, Act.put, zD, zE, zF]
        refine takeA (i := 13) (v := undef) rfl (Or.inr ⟨by rfl, rfl⟩) hHeld ?_
        try simp only [zA, zB, zC, Act.put, zD, zE, zF]
        refine takeC (i := 14) rfl hHeld ?_
        try simp only [zA, zB, zC, Act.put, zD, zE, zF]
        refine takeC (i := 15) rfl hHeld ?_
        try simp only [zA, zB, zC, Act.put, zD, zE, zF]
        refine takeA (i := 16) (v := undef) rfl (Or.inr ⟨by rfl, rfl⟩) hHeld ?_
        try simp only [zA, zB, zC, Act.put, zD, zE, zF]
        refine takeA (i := 17) (v := undef) rfl (Or.inr ⟨by rfl, rfl⟩) hHeld ?_
        try simp only [zA, zB, zC, Act.put, zD, zE, zF]
        refine takeA (i := 18) (v := undef) rfl (Or.inr ⟨by rfl, rfl⟩) hHeld ?_
        try simp only [zA, zB, zC, Act.put, zD, zE, zF]
        refine takeC (i := 19) rfl hHeld ?_
        try simp only [zA, zB, zC, Act.put, zD, zE, zF]
        refine wpAnyH_done (by kernel_rfl) ?_ _
        go_wp2_with fail
        go_ret
        exact ⟨by rw [hid.out.1, d2c]; exact ret_bool (by simp), hHeld.2.2.2⟩
      ·have d1b : ((n1 : Int) != 1) = true := by simp; omega
       have d1c : decide (n1 = 1) = false := decide_eq_false d1
       clear d1
       refine wp_region_held_drew (S := fun w' : World => PosAt p w.heap.size w' ∧ w'.cell? ⟨w.heap.size, 65, none⟩ = some (.int .i64 ca) ∧ w'.cell? ⟨w.heap.size, 64, none⟩ = some (.int .i64 1) ∧ Below w.heap.size w w') (by kernel_rfl) ⟨hrowS.out, c65, c64, hBs.out.drew⟩ (fun hHeld => ?_)
       refine' takeA (i := 0) (v := _) rfl (yieldsIf_load_mid (by rfl) _ _ rfl _ _ rfl _ _ (fun _ h => h.1.range) Tryz.underlying24 rfl (pos_info p hl)) hHeld ?_
       try simp only [zA, zB, zC, Act.put, zD, zE, zF]
       refine wpAnyH_ready (rs := [1]) (by kernel_rfl) (by simp) ?_
       refine AllReadyH.cons rfl (fun K hK => ?_) AllReadyH.nil
       try simp only [zA, zB, zC, Act.put, zD, zE, zF]
       try rw [if_pos (by rfl)]
       go_simp
       refine (hid.out.2.2.1 _).mono ?_
       rintro e1 w1 ⟨rfl, hb⟩
       go_wp2_with fail
       refine hK.out _ _ (by have hs := hHeld.2.2.2.size; exact ⟨hHeld.1.below hb, (hb.cell (p := ⟨w.heap.size, 65, none⟩) hHeld.1.lt).trans hHeld.2.1, (hb.cell (p := ⟨w.heap.size, 64, none⟩) hHeld.1.lt).trans hHeld.2.2.1, hHeld.2.2.2.trans (hb.mono hs)⟩) (fun hHeld => ?_)
       clear hK K
       try simp only [zA, zB, zC, Act.put, zD, zE, zF]
       refine takeC (i := 2) rfl hHeld ?_
       try simp only [zA, zB, zC, Act.put, zD, zE, zF]
       refine takeC (i := 3) rfl hHeld ?_
       try simp only [zA, zB, zC, Act.put, zD, zE, zF]
       refine takeA (i := 4) (v := undef) rfl (Or.inr ⟨by rfl, rfl⟩) hHeld ?_
       try simp only [zA, zB, zC, Act.put, zD, zE, zF]
       refine takeA (i := 5) (v := undef) rfl (Or.inr ⟨by rfl, rfl⟩) hHeld ?_
       try simp only [zA, zB, zC, Act.put, zD, zE, zF]
       refine takeA (i := 6) (v := undef) rfl (Or.inr ⟨by rfl, rfl⟩) hHeld ?_
       try simp only [zA, zB, zC, Act.put, zD, zE, zF]
       refine takeC (i := 7) rfl hHeld ?_
       try simp only [zA, zB, zC, Act.put, zD, zE, zF]
       refine takeC (i := 8) rfl hHeld ?_
       try simp only [zA, zB, zC, Act.put, zD, zE, zF]
       refine takeA (i := 9) (v := undef) rfl (Or.inr ⟨by rfl, rfl⟩) hHeld ?_
       try simp only [zA, zB, zC, Act.put, zD, zE, zF]
       refine takeA (i := 10) (v := undef) rfl (Or.inr ⟨by rfl, rfl⟩) hHeld ?_
       try simp only [zA, zB, zC, Act.put, zD, zE, zF]
       refine takeA (i := 11) (v := undef) rfl (Or.inr ⟨by rfl, rfl⟩) hHeld ?_
       try simp only [zA, zB, zC, Act.put, zD, zE, zF]
       refine takeA (i := 12) (v := undef) rfl (Or.inr ⟨by rfl, rfl⟩) hHeld ?_
       try simp only [zA, zB, zC, Act.put, zD, zE, zF]
       refine takeA (i := 13) (v := undef) rfl (Or.inr ⟨by rfl, rfl⟩) hHeld ?_
       try simp only [zA, zB, zC, Act.put, zD, zE, zF]
       refine takeC (i := 14) rfl hHeld ?_
       try simp only [zA, zB, zC, Act.put, zD, zE, zF]
       refine takeC (i := 15) rfl hHeld ?_
       try simp only [zA, zB, zC, Act.put, zD, zE, zF]
       refine takeA (i := 16) (v := undef) rfl (Or.inr ⟨by rfl, rfl⟩) hHeld ?_
       try simp only [zA, zB, zC, Act.put, zD, zE, zF]
       refine takeA (i := 17) (v := undef) rfl (Or.inr ⟨by rfl, rfl⟩) hHeld ?_
       try simp only [zA, zB, zC, Act.put, zD, zE, zF]
       refine takeA (i := 18) (v := undef) rfl (Or.inr ⟨by rfl, rfl⟩) hHeld ?_
       try simp only [zA, zB, zC, Act.put, zD, zE, zF]
       refine takeC (i := 19) rfl hHeld ?_
       try simp only [zA, zB, zC, Act.put, zD, zE, zF]
       refine wpAnyH_done (by kernel_rfl) ?_ _
       go_wp2_with fail
       go_ret
       exact ⟨by rw [hid.out.1, d1c]; exact ret_bool (by simp), hHeld.2.2.2⟩
    ·have hb : headB p = false := by
      cases hc : headB p with
      | false => rfl
      | true => rw [hid.out.2.1] at hc; simp at hc; exact absurd ⟨hc.2.1, hc.2.2.1, hc.2.2.2.1, hc.2.2.2.2⟩ g2
     rcases g1 with rfl | rfl
     all_goals
      go_wp2_with fail
      all_goals first
      | (exfalso; omega)
      | (go_ret; exact ⟨by rw [hid.out.1, hb]; rfl, hBs.out⟩)
   ·have hb : headB p = false := by
     cases hc : headB p with
     | false => rfl
     | true => rw [hid.out.2.1] at hc; simp at hc; exact absurd hc.1 g1
    have g1a : (t != 0) = true := by simp; omega
    have g1b : (t != 1) = true := by simp; omega
    go_wp2_with fail
    go_ret
    exact ⟨by rw [hid.out.1, hb]; rfl, hBs.out⟩
end Go.Proofs.YtnjdgooljnbebaaGreatDoor
namespace Go.Proofs.YtnjdgooljnbebaaGreatDoor
open Go Go.RowKit
open List renaming getElem_toArray → zA, getElem_cons_zero → zB, getElem_cons_succ → zC, setIfInBounds_toArray → zD, set_cons_zero → zE, set_cons_succ → zF
set_option maxHeartbeats 4000000
set_option linter.unusedSimpArgs false
set_option linter.unusedVariables false
set_option maxRecDepth 100000

/-- A move: from, to, what a pawn becomes. -/
structure Mv where
 fr : Int
 to : Int
 pr : Int
deriving DecidableEq
def mvL (m : Mv) : List Int := [m.fr, m.to, m.pr]
def touches (m : Mv) (r : Nat) : Bool := decide (m.fr = homeK r) || (decide (m.fr = homeR r) || (decide (m.to = homeK r) || decide (m.to = homeR r)))
def leftTo (c : Int) (m : Mv) : Nat → Int
 | 0 => c
 | n + 1 => leftTo c m n - (if hasR (leftTo c m n) n && touches m n then 2 ^ n else 0)
def leftB (c : Int) (m : Mv) : Int := leftTo c m 4
theorem left_range (c : Int) (m : Mv) (h0 : 0 ≤ c) (h1 : c ≤ 15) : ∀ n, 0 ≤ leftTo c m n ∧ leftTo c m n ≤ 15
 | 0 => ⟨h0, h1⟩
 | n + 1 => by
  obtain ⟨g0, g1⟩ := left_range c m h0 h1 n
  rw [leftTo]
  generalize leftTo c m n = y at *
  by_cases h : (hasR y n && touches m n) = true
  ·rw [if_pos h]
   have hr : y / 2 ^ n % 2 = 1 := by simp [hasR] at h; exact h.1
   have hp : (0 : Int) < 2 ^ n := Int.pow_pos (by decide)
   have : 2 ^ n ≤ y := by
    by_cases hlt : y < 2 ^ n
    ·rw [Int.ediv_eq_zero_of_lt g0 hlt] at hr; omega
    ·omega
   omega
  ·rw [if_neg h]; omega
theorem md_left (c : Int) (m : Mv) (h0 : 0 ≤ c) (h1 : c ≤ 15) (w : World) :
  Calls Tryz.prog 50 #[.int .i64 c, .agg (ints (mvL m))] w fun e w' => e = .returned (.int .i64 (leftB c m)) ∧ Below w.heap.size w w' := by
 go_enter Tryz.func50, Tryz.ntmps50
 go_wp2_with fail
 have hrow := heap_alloc_new w (.cells (ints (mvL m)) 35)
 have hBW : Below w.heap.size w (w.alloc (.cells (ints (mvL m)) 35)) := (Below.refl _ _).alloc (Nat.le_refl _) _
 generalize w.alloc (.cells (ints (mvL m)) 35) = W at *
 have cf : W.cell? ⟨w.heap.size, 0, none⟩ = some (.int .i64 m.fr) := row_cell hrow 0 (by simp [mvL])
 have co : W.cell? ⟨w.heap.size, 1, none⟩ = some (.int .i64 m.to) := row_cell hrow 1 (by simp [mvL])
 have hlr := left_range c m h0 h1
 have hBs := show Shut _ from And.intro hBW hlr
 clear hrow hBW hlr
 go_loopw [0, 5] (fun cc i wr => ∃ k : Nat, k ≤ 4 ∧ i = .int .i64 (k : Int) ∧ cc = .int .i64 (leftTo c m k) ∧ wr = W) (fun _ i _ => (4 - intOf i).toNat)
 case atStart => exact ⟨0, by omega, rfl, rfl, rfl⟩
 case round =>
  obtain ⟨k, hk, rfl, rfl, rfl⟩ := hrel
  by_cases hlt : k < 4
  ·have hst : leftTo c m (k + 1) = leftTo c m k - (if hasR (leftTo c m k) k && touches m k then 2 ^ k else 0) := rfl
   obtain ⟨y0, y1⟩ := hBs.out.2 k
   have hpw : (2 : Int) ^ k ≤ 8 ∧ 1 ≤ (2 : Int) ^ k := by
    have h4 : k = 0 ∨ k = 1 ∨ k = 2 ∨ k = 3 := by omega
    rcases h4 with rfl | rfl | rfl | rfl <;> decide
   have htc : touches m k = (decide (m.fr = homeK k) || (decide (m.fr = homeR k) || (decide (m.to = homeK k) || decide (m.to = homeR k)))) := rfl
   have hhm := ri_home k hlt
   have hnx := left_range c m h0 h1 (k + 1)
   generalize hy : leftTo c m k = y at *
   generalize homeK k = a at *
   generalize homeR k = b at *
   have hbit : bits .and .i64 (y / 2 ^ k) 1 = y / 2 ^ k % 2 := by
    have g0 : 0 ≤ y / 2 ^ k := Int.ediv_nonneg y0 (Int.le_of_lt (Int.pow_pos (by decide)))
    have g1 : y / 2 ^ k ≤ y := Int.ediv_le_self _ y0
    exact bits_mask .i64 8 (by decide) (fun n h0 h1 => by rw [IntKind.wrap_i64]; omega) 1 (by decide) _ g0 (by omega)
   have hids := show Shut _ from And.intro hst (And.intro htc hhm)
   have hys := show Shut _ from And.intro hy hnx
   clear hst htc hhm hy hnx
   by_cases hb : y / 2 ^ k % 2 = 1
   ·rw [hb] at hbit
    have hbs := show Shut (hasR y k = true) from decide_eq_true hb
    clear hb
    by_cases e0 : m.fr = a
    ·have e0b : (m.fr == a) = true := by simpa using e0
     have hR : (hasR y k && touches m k) = true := by rw [hbs.out, hids.out.2.1]; simp [e0]
     have hRs := show Shut _ from hR
     clear hR e0
     have hnx := hys.out.2
     rw [hids.out.1, hRs.out, if_pos rfl] at hnx
     obtain ⟨nx0, nx1⟩ := hnx
     go_wp2_with (first | (go_at_call 89; refine (hids.out.2.2 _).mono ?_; rintro e1 w1 ⟨rfl, rfl⟩))
     go_roundw
     case rel => exact ⟨k + 1, by omega, by go_num, by rw [hids.out.1, hRs.out, if_pos rfl], trivial⟩
     case measure => simp [intOf]; omega
    have e0b : (m.fr == a) = false := by simpa using e0
    by_cases e1 : m.fr = b
    ·have e1b : (m.fr == b) = true := by simpa using e1
     have hR : (hasR y k && touches m k) = true := by rw [hbs.out, hids.out.2.1]; simp [e1]
     have hRs := show Shut _ from hR
     clear hR e1
     have hnx := hys.out.2
     rw [hids.out.1, hRs.out, if_pos rfl] at hnx
     obtain ⟨nx0, nx1⟩ := hnx
     go_wp2_with (first | (go_at_call 89; refine (hids.out.2.2 _).mono ?_; rintro e1 w1 ⟨rfl, rfl⟩))
     go_roundw
     case rel => exact ⟨k + 1, by omega, by go_num, by rw [hids.out.1, hRs.out, if_pos rfl], trivial⟩
     case measure => simp [intOf]; omega
    have e1b : (m.fr == b) = false := by simpa using e1
    by_cases e2 : m.to = a
    ·have e2b : (m.to == a) = true := by simpa using e2
     have hR : (hasR y k && touches m k) = true := by rw [hbs.out, hids.out.2.1]; simp [e2]
     have hRs := show Shut _ from hR
     clear hR e2
     have hnx := hys.out.2
     rw [hids.out.1, hRs.out, if_pos rfl] at hnx
     obtain ⟨nx0, nx1⟩ := hnx
     go_wp2_with (first | (go_at_call 89; refine (hids.out.2.2 _).mono ?_; rintro e1 w1 ⟨rfl, rfl⟩))
     go_roundw
     case rel => exact ⟨k + 1, by omega, by go_num, by rw [hids.out.1, hRs.out, if_pos rfl], trivial⟩
     case measure => simp [intOf]; omega
    have e2b : (m.to == a) = false := by simpa using e2
    by_cases e3 : m.to = b
    ·have e3b : (m.to == b) = true := by simpa using e3
     have hR : (hasR y k && touches m k) = true := by rw [hbs.out, hids.out.2.1]; simp [e3]
     have hRs := show Shut _ from hR
     clear hR e3
     have hnx := hys.out.2
     rw [hids.out.1, hRs.out, if_pos rfl] at hnx
     obtain ⟨nx0, nx1⟩ := hnx
     go_wp2_with (first | (go_at_call 89; refine (hids.out.2.2 _).mono ?_; rintro e1 w1 ⟨rfl, rfl⟩))
     go_roundw
     case rel => exact ⟨k + 1, by omega, by go_num, by rw [hids.out.1, hRs.out, if_pos rfl], trivial⟩
     case measure => simp [intOf]; omega
    have e3b : (m.to == b) = false := by simpa using e3
    have hR : (hasR y k && touches m k) = false := by rw [hids.out.2.1]; simp [e0, e1, e2, e3]
    have hRs := show Shut _ from hR
    clear hR e0 e1 e2 e3
    go_wp2_with (first | (go_at_call 89; refine (hids.out.2.2 _).mono ?_; rintro e1 w1 ⟨rfl, rfl⟩))
    go_roundw
    case rel => exact ⟨k + 1, by omega, by go_num, by rw [hids.out.1, hRs.out, if_neg (by decide), Int.sub_zero], trivial⟩
    case measure => simp [intOf]; omega
   ·have hb0 : y / 2 ^ k % 2 = 0 := by omega
    rw [hb0] at hbit
    have hR : (hasR y k && touches m k) = false := by rw [show hasR y k = false from decide_eq_false hb]; rfl
    have hRs := show Shut _ from hR
    clear hb hb0 hR
    go_wp2_with (first | (go_at_call 89; refine (hids.out.2.2 _).mono ?_; rintro e1 w1 ⟨rfl, rfl⟩))
    go_roundw
    case rel => exact ⟨k + 1, by omega, by go_num, by rw [hids.out.1, hRs.out, if_neg (by decide), Int.sub_zero], trivial⟩
    case measure => simp [intOf]; omega
  ·obtain rfl : k = 4 := by omega
   have hL : leftB c m = leftTo c m 4 := rfl
   have hLs := show Shut _ from hL
   clear hL
   generalize leftTo c m 4 = y at *
   go_wp2_with fail
   go_ret
   exact ⟨by rw [hLs.out]; rfl, hBs.out.1⟩
end Go.Proofs.YtnjdgooljnbebaaGreatDoor
namespace Go.Proofs.YtnjdgooljnbebaaGreatDoor
open Go Go.RowKit
open List renaming getElem_toArray → zA, getElem_cons_zero → zB, getElem_cons_succ → zC, setIfInBounds_toArray → zD, set_cons_zero → zE, set_cons_succ → zF
set_option maxHeartbeats 4000000
set_option linter.unusedSimpArgs false
set_option linter.unusedVariables false
set_option maxRecDepth 100000

/-- The squares of a move are squares, and what a pawn becomes is a piece. -/
structure MvOk (m : Mv) : Prop where
 f0 : 0 ≤ m.fr
 f1 : m.fr ≤ 63
 t0 : 0 ≤ m.to
 t1 : m.to ≤ 63
 p0 : 0 ≤ m.pr
 p1 : m.pr ≤ 6
def passing (p : List Int) (m : Mv) : Bool := decide (kindOf (pcAt p m.fr) = 6) && decide (m.fr % 8 ≠ m.to % 8)
def tkIs (p : List Int) (m : Mv) : Bool := decide (pcAt p m.to ≠ 0) || passing p m
def tkSq (p : List Int) (m : Mv) : Int := if pcAt p m.to ≠ 0 then m.to else if passing p m = true then atSq (m.to % 8) (m.fr / 8) else -1
theorem tk_ret {p : List Int} {m : Mv} {a : Int} {b : Bool} (h1 : tkSq p m = a) (h2 : tkIs p m = b) : Ending.returned (.tuple #[.int .i64 a, .bool b]) = .returned (.tuple #[.int .i64 (tkSq p m), .bool (tkIs p m)]) := by rw [h1, h2]
theorem tk_takes (p : List Int) (hp : Pos p) (m : Mv) (hm : MvOk m) (w : World) :
  Calls Tryz.prog 45 #[.agg (ints p), .agg (ints (mvL m))] w fun e w' => e = .returned (.tuple #[.int .i64 (tkSq p m), .bool (tkIs p m)]) ∧ Below w.heap.size w w' := by
 have hrow : PosAt p w.heap.size ((w.alloc (.cells (ints p) 24)).alloc (.cells (ints (mvL m)) 35)) := (heap_alloc_old _ _ (by simp)).trans (heap_alloc_new w _)
 have hmv := heap_alloc_new (w.alloc (.cells (ints p) 24)) (.cells (ints (mvL m)) 35)
 rw [World.size_alloc] at hmv
 have hBW : Below w.heap.size w ((w.alloc (.cells (ints p) 24)).alloc (.cells (ints (mvL m)) 35)) := ((Below.refl _ _).alloc (Nat.le_refl _) _).alloc (by simp) _
 obtain ⟨f0, f1, t0, t1, -, -⟩ := hm
 go_enter Tryz.func45, Tryz.ntmps45
 go_upto_region 1 with (fail)
 generalize (w.alloc (.cells (ints p) 24)).alloc (.cells (ints (mvL m)) 35) = W at *
 have cf : W.cell? ⟨w.heap.size + 1, 0, none⟩ = some (.int .i64 m.fr) := row_cell hmv 0 (by simp [mvL])
 have co : W.cell? ⟨w.heap.size + 1, 1, none⟩ = some (.int .i64 m.to) := row_cell hmv 1 (by simp [mvL])
 have cx : W.cell? ⟨w.heap.size, m.fr.toNat, none⟩ = some (.int .i64 (pcAt p m.fr)) := row_cell hrow _ (by rw [hp.len]; omega)
 have cy : W.cell? ⟨w.heap.size, m.to.toNat, none⟩ = some (.int .i64 (pcAt p m.to)) := row_cell hrow _ (by rw [hp.len]; omega)
 have x0 : 0 ≤ pcAt p m.fr := hp.lo _ (by omega)
 have x1 : pcAt p m.fr ≤ 12 := hp.hi _ (by omega)
 have hS : tkSq p m = if pcAt p m.to ≠ 0 then m.to else if passing p m = true then atSq (m.to % 8) (m.fr / 8) else -1 := rfl
 have hI : tkIs p m = (decide (pcAt p m.to ≠ 0) || passing p m) := rfl
 have hPa : passing p m = (decide (kindOf (pcAt p m.fr) = 6) && decide (m.fr % 8 ≠ m.to % 8)) := rfl
 have hids := show Shut _ from And.intro hS (And.intro hI (And.intro hPa hBW))
 clear hS hI hPa hBW hrow hmv
 generalize pcAt p m.fr = x at *
 generalize pcAt p m.to = y at *
 generalize m.fr = a at *
 generalize m.to = b at *
 by_cases hy : y = 0
 ·subst hy
  by_cases hk : kindOf x = 6
  ·have hkb : (kindOf x == 6) = true := by simpa using hk
   have hks := show Shut _ from hk
   clear hk
   by_cases hf : a % 8 = b % 8
   ·have hfb : (a % 8 != b % 8) = false := by simpa using hf
    have hfs := show Shut _ from hf
    clear hf
    go_wp2_with fail
    go_quiet (first | (go_at_call 47; refine quiet' (po_kindOf _ _ (by omega))) | (go_at_call 88; refine quiet' (po_file _ _ (by omega) (by omega))))
    go_wp2_with fail
    go_ret2
    have hPf : passing p m = false := by rw [hids.out.2.2.1]; simp [hfs.out]
    exact ⟨tk_ret (by rw [hids.out.1, hPf]; simp) (by rw [hids.out.2.1, hPf]; simp), below_drewN hids.out.2.2.2 _⟩
   ·have hfb : (a % 8 != b % 8) = true := by simpa using hf
    have hfs := show Shut _ from hf
    clear hf
    go_wp2_with fail
    go_quiet (first | (go_at_call 47; refine quiet' (po_kindOf _ _ (by omega))) | (go_at_call 88; refine quiet' (po_file _ _ (by omega) (by omega))))
    go_wp2_with fail
    go_quiet (first | (go_at_call 88; refine quiet_add_left (po_file _ _ (by omega) (by omega))) | (go_at_call 49; refine quiet_add_left (po_rank _ _ (by omega) (by omega))) | (go_at_call 48; refine quiet_add_left (po_at _ _ _ (by omega) (by omega) (by omega) (by omega))))
    go_wp2_with fail
    go_ret2
    have hPf : passing p m = true := by have h1 : ¬ a % 8 = b % 8 := hfs.out; rw [hids.out.2.2.1, hks.out]; simp [h1]
    exact ⟨tk_ret (by rw [hids.out.1, hPf]; simp) (by rw [hids.out.2.1, hPf]; simp), below_drewN (below_drewN hids.out.2.2.2 _) _⟩
  ·have hkb : (kindOf x == 6) = false := by simpa using hk
   have hks := show Shut _ from hk
   clear hk
   go_wp2_with fail
   go_quiet (first | (go_at_call 47; refine quiet' (po_kindOf _ _ (by omega))) | (go_at_call 88; refine quiet' (po_file _ _ (by omega) (by omega))))
   go_wp2_with fail
   go_ret2
   have hPf : passing p m = false := by have h1 : ¬ kindOf x = 6 := hks.out; rw [hids.out.2.2.1]; simp [h1]
   exact ⟨tk_ret (by rw [hids.out.1, hPf]; simp) (by rw [hids.out.2.1, hPf]; simp), below_drewN hids.out.2.2.2 _⟩
 ·have hyb : (y != 0) = true := by simpa using hy
  have hys := show Shut _ from hy
  clear hy
  go_wp2_with fail
  go_ret2
  exact ⟨tk_ret (by rw [hids.out.1, if_pos hys.out]) (by have h1 : ¬ y = 0 := hys.out; rw [hids.out.2.1]; simp [h1]), hids.out.2.2.2⟩
end Go.Proofs.YtnjdgooljnbebaaGreatDoor
