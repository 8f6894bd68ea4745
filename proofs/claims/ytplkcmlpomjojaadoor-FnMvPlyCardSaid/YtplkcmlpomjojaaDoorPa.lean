/- spec.Passed, spec.Valid: whether a position is one of a game as far as it tells. For every position. (Printed by gen_va.py.) -/
import Derived.Test.YtplkcmlpomjojaaDoorRi
import Derived.Test.YtplkcmlpomjojaaDoorRg
import Derived.Test.YtplkcmlpomjojaaDoorRe
namespace Go.Proofs.YtplkcmlpomjojaaDoor
open Go Go.RowKit
set_option maxHeartbeats 8000000
set_option linter.unusedSimpArgs false
set_option linter.unusedVariables false
set_option maxRecDepth 100000

def passedB (p : List Int) : Bool :=
  if p.getD 66 0 < 0 ∨ 63 < p.getD 66 0 then decide (p.getD 66 0 = -1)
  else if p.getD 66 0 / 8 ≠ 5 - 3 * p.getD 64 0 ∨ pcAt p (p.getD 66 0) ≠ 0 then false
  else decide (pcAt p (atSq (p.getD 66 0 % 8) (p.getD 66 0 / 8 - upOf (p.getD 64 0))) = 6 + 6 * (1 - p.getD 64 0)) && decide (pcAt p (atSq (p.getD 66 0 % 8) (p.getD 66 0 / 8 + upOf (p.getD 64 0))) = 0)
theorem va_of (k s : Int) (w : World) (n : Nat) (h0 : 0 ≤ k) (h1 : k ≤ 6) (h2 : 0 ≤ s) (h3 : s ≤ 1) :
    Calls Tryd.prog 39 #[.int .i64 k, .int .i64 s] (w.drewN n) fun e w'' => e = .returned (.int .i64 (k + 6 * s)) ∧ ∃ m, w'' = w.drewN m := br_of k s w n h0 h1 h2 h3
theorem va_quiet {P : Program} {f : FuncId} {args : Array Value} {w : World} {n : Nat} {v : Value}
    (h : Calls P f args (w.drewN n) fun e w' => e = .returned v ∧ w.drewN n = w') : Calls P f args (w.drewN n) fun e w'' => e = .returned v ∧ ∃ m, w'' = w.drewN m :=
  h.mono fun _ _ ⟨he, hm⟩ => ⟨he, n, hm.symm⟩
theorem below_drewN {B : Nat} {a w : World} (h : Below B a w) (n : Nat) : Below B a (w.drewN n) := ⟨h.os, h.tape, h.output, h.size, h.block⟩
theorem quiet_add_left {P : Program} {f : FuncId} {args : Array Value} {w : World} {a n : Nat} {v : Value}
    (h : Calls P f args (w.drewN (a + n)) fun e w' => e = .returned v ∧ w.drewN (a + n) = w') :
    Calls P f args (w.drewN (a + n)) fun e w'' => e = .returned v ∧ ∃ m, w'' = w.drewN (a + m) :=
  h.mono fun _ _ ⟨he, hm⟩ => ⟨he, n, hm.symm⟩
theorem va_passed (p : List Int) (hp : Pos p) (t0 : 0 ≤ p.getD 64 0) (t1 : p.getD 64 0 ≤ 1) (w : World) :
    Calls Tryd.prog 28 #[.agg (ints p)] w fun e w' => e = .returned (.bool (passedB p)) ∧ Below w.heap.size w w' := by
  have hrow : PosAt p w.heap.size (w.alloc (.cells (ints p) 24)) := heap_alloc_new w (.cells (ints p) 24)
  have hBW : Below w.heap.size w (w.alloc (.cells (ints p) 24)) := (Below.refl _ _).alloc (Nat.le_refl _) _
  have ct := hrow.cell 64 (by rw [hp.len]; omega)
  have ce := hrow.cell 66 (by rw [hp.len]; omega)
  have hcell : ∀ i : Int, 0 ≤ i → i ≤ 63 → (w.alloc (.cells (ints p) 24)).cell? ⟨w.heap.size, i.toNat, none⟩ = some (.int .i64 (pcAt p i)) := fun i h0 h1 => row_cell hrow i.toNat (by rw [hp.len]; omega)
  have hP : passedB p = if p.getD 66 0 < 0 ∨ 63 < p.getD 66 0 then decide (p.getD 66 0 = -1)
    else if p.getD 66 0 / 8 ≠ 5 - 3 * p.getD 64 0 ∨ pcAt p (p.getD 66 0) ≠ 0 then false
    else decide (pcAt p (atSq (p.getD 66 0 % 8) (p.getD 66 0 / 8 - upOf (p.getD 64 0))) = 6 + 6 * (1 - p.getD 64 0)) && decide (pcAt p (atSq (p.getD 66 0 % 8) (p.getD 66 0 / 8 + upOf (p.getD 64 0))) = 0) := rfl
  clear hrow
  generalize p.getD 64 0 = t at *
  generalize p.getD 66 0 = ep at *
  have hid := show Shut _ from And.intro hP (And.intro hcell hBW)
  clear hP hcell hBW
  by_cases h1 : ep < 0
  · go_enter Tryd.func28, Tryd.ntmps28
    go_wp2_with fail
    go_ret
    exact ⟨by rw [hid.out.1, if_pos (Or.inl h1)]; exact ret_bool (by first | rfl | (simp; done) | (rw [Bool.eq_iff_iff]; simp)), hid.out.2.2⟩
  by_cases h2 : 63 < ep
  · go_enter Tryd.func28, Tryd.ntmps28
    go_wp2_with fail
    go_ret
    exact ⟨by rw [hid.out.1, if_pos (Or.inr h2)]; exact ret_bool (by first | rfl | (simp; done) | (rw [Bool.eq_iff_iff]; simp)), hid.out.2.2⟩
  have hP2 := hid.out.1
  rw [if_neg (by omega)] at hP2
  have hu : -1 ≤ upOf t ∧ upOf t ≤ 1 := by unfold upOf; omega
  have hup : upOf t = 1 - 2 * t := rfl
  obtain ⟨u0, u1⟩ := hu
  have q0 : 0 ≤ ep := by omega
  have q1 : ep ≤ 63 := by omega
  have ce2 := hid.out.2.1 ep q0 q1
  have h1b : decide (ep < 0) = false := decide_eq_false h1
  have h2b : decide (63 < ep) = false := decide_eq_false h2
  clear h1 h2
  by_cases h3 : ep / 8 = 5 - 3 * t
  · have h3b : (ep / 8 != 5 - 3 * t) = false := by simpa using h3
    by_cases h4 : pcAt p ep = 0
    · rw [h4] at ce2
      rw [if_neg (by omega)] at hP2
      have hb1 : 0 ≤ atSq (ep % 8) (ep / 8 - upOf t) ∧ atSq (ep % 8) (ep / 8 - upOf t) ≤ 63 := by
        refine ⟨?_, (atSq_range _ _).2⟩
        unfold atSq
        rw [if_neg (by omega)]
        omega
      have hb2 : 0 ≤ atSq (ep % 8) (ep / 8 + upOf t) ∧ atSq (ep % 8) (ep / 8 + upOf t) ≤ 63 := by
        refine ⟨?_, (atSq_range _ _).2⟩
        unfold atSq
        rw [if_neg (by omega)]
        omega
      have ca := hid.out.2.1 _ hb1.1 hb1.2
      have cb := hid.out.2.1 _ hb2.1 hb2.2
      have hat1 : ∀ W, Calls Tryd.prog 41 #[.int .i64 (ep % 8), .int .i64 (ep / 8 - (1 - 2 * t))] W fun e w' => e = .returned (.int .i64 (atSq (ep % 8) (ep / 8 - (1 - 2 * t)))) ∧ W = w' := fun W => po_at _ _ W (by omega) (by omega) (by omega) (by omega)
      have hat2 : ∀ W, Calls Tryd.prog 41 #[.int .i64 (ep % 8), .int .i64 (ep / 8 + (1 - 2 * t))] W fun e w' => e = .returned (.int .i64 (atSq (ep % 8) (ep / 8 + (1 - 2 * t)))) ∧ W = w' := fun W => po_at _ _ W (by omega) (by omega) (by omega) (by omega)
      have hw1 : IntKind.i64.wrap (ep / 8 - (1 - 2 * t)) = ep / 8 - (1 - 2 * t) := by rw [IntKind.wrap_i64]; omega
      have hw2 : IntKind.i64.wrap (ep / 8 + (1 - 2 * t)) = ep / 8 + (1 - 2 * t) := by rw [IntKind.wrap_i64]; omega
      have hw3 : IntKind.i64.wrap (1 - t) = 1 - t := by rw [IntKind.wrap_i64]; omega
      rw [hup] at hP2 hb1 hb2 ca cb
      generalize atSq (ep % 8) (ep / 8 - (1 - 2 * t)) = sa at *
      generalize atSq (ep % 8) (ep / 8 + (1 - 2 * t)) = sb at *
      obtain ⟨b10, b11⟩ := hb1
      obtain ⟨b20, b21⟩ := hb2
      have hat := show Shut _ from And.intro hat1 hat2
      have hP3 := show Shut _ from hP2
      have h3s := show Shut _ from h3
      clear hat1 hat2 hP2 h4 hup u0 u1 h3
      by_cases h5 : pcAt p sa = 6 + 6 * (1 - t)
      · rw [h5] at ca
        rw [h5, show decide (6 + 6 * (1 - t) = 6 + 6 * (1 - t)) = true from decide_eq_true rfl] at hP3
        clear h5
        by_cases h6 : pcAt p sb = 0
        · rw [h6] at cb
          rw [decide_eq_true h6] at hP3
          clear h6
          go_enter Tryd.func28, Tryd.ntmps28
          go_wp2_with fail
          go_quiet (first | (go_at_call 32; refine va_quiet (po_file _ _ (by omega) (by omega))) | (go_at_call 25; refine va_quiet (po_rank _ _ (by omega) (by omega))))
          go_wp2_with fail
          go_quiet (first | (go_at_call 41; (with_reducible exact quiet_add_left (hat.out.1 _))) | (go_at_call 41; (with_reducible exact quiet_add_left (hat.out.2 _))) | (go_at_call 39; refine quiet_add_left (po_of _ _ _ (by omega) (by omega) (by omega) (by omega))))
          go_wp2_with fail
          go_ret
          exact ⟨by rw [hP3.out]; rfl, below_drewN (below_drewN hid.out.2.2 _) _⟩
        · have h6b : (pcAt p sb == 0) = false := by simpa using h6
          rw [decide_eq_false h6] at hP3
          clear h6
          generalize pcAt p sb = z at *
          go_enter Tryd.func28, Tryd.ntmps28
          go_wp2_with fail
          go_quiet (first | (go_at_call 32; refine va_quiet (po_file _ _ (by omega) (by omega))) | (go_at_call 25; refine va_quiet (po_rank _ _ (by omega) (by omega))))
          go_wp2_with fail
          go_quiet (first | (go_at_call 41; (with_reducible exact quiet_add_left (hat.out.1 _))) | (go_at_call 41; (with_reducible exact quiet_add_left (hat.out.2 _))) | (go_at_call 39; refine quiet_add_left (po_of _ _ _ (by omega) (by omega) (by omega) (by omega))))
          go_wp2_with fail
          go_ret
          exact ⟨by rw [hP3.out]; rfl, below_drewN (below_drewN hid.out.2.2 _) _⟩
      · have h5b : (pcAt p sa == 6 + 6 * (1 - t)) = false := by simpa using h5
        rw [decide_eq_false h5] at hP3
        clear h5
        generalize pcAt p sa = z at *
        go_enter Tryd.func28, Tryd.ntmps28
        go_wp2_with fail
        go_quiet (first | (go_at_call 32; refine va_quiet (po_file _ _ (by omega) (by omega))) | (go_at_call 25; refine va_quiet (po_rank _ _ (by omega) (by omega))))
        go_wp2_with fail
        go_quiet (first | (go_at_call 41; (with_reducible exact quiet_add_left (hat.out.1 _))) | (go_at_call 41; (with_reducible exact quiet_add_left (hat.out.2 _))) | (go_at_call 39; refine quiet_add_left (po_of _ _ _ (by omega) (by omega) (by omega) (by omega))))
        go_wp2_with fail
        go_ret
        exact ⟨by rw [hP3.out]; rfl, below_drewN (below_drewN hid.out.2.2 _) _⟩
    · have h4b : (pcAt p ep != 0) = true := by simpa using h4
      rw [if_pos (Or.inr h4)] at hP2
      have hP3 := show Shut _ from hP2
      have h3s := show Shut _ from h3
      clear hP2 hup h4 h3
      generalize pcAt p ep = z at *
      go_enter Tryd.func28, Tryd.ntmps28
      go_wp2_with fail
      go_quiet (first | (go_at_call 32; refine va_quiet (po_file _ _ (by omega) (by omega))) | (go_at_call 25; refine va_quiet (po_rank _ _ (by omega) (by omega))))
      go_wp2_with fail
      go_ret
      exact ⟨by rw [hP3.out]; rfl, hid.out.2.2.trans ((drewN_below _ _).mono hid.out.2.2.size)⟩
  · have h3b : (ep / 8 != 5 - 3 * t) = true := by simpa using h3
    rw [if_pos (Or.inl h3)] at hP2
    have hP3 := show Shut _ from hP2
    clear hP2 hup h3
    go_enter Tryd.func28, Tryd.ntmps28
    go_wp2_with fail
    go_quiet (first | (go_at_call 32; refine va_quiet (po_file _ _ (by omega) (by omega))) | (go_at_call 25; refine va_quiet (po_rank _ _ (by omega) (by omega))))
    go_wp2_with fail
    go_ret
    exact ⟨by rw [hP3.out]; rfl, hid.out.2.2.trans ((drewN_below _ _).mono hid.out.2.2.size)⟩
end Go.Proofs.YtplkcmlpomjojaaDoor
