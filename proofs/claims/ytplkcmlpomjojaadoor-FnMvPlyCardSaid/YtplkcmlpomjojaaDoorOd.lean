/- spec.ordered: what comes out has the same moves. For every list of moves. (Printed by gen_od.py.) -/
import Derived.Test.YtplkcmlpomjojaaDoorOr
import Derived.Test.YtplkcmlpomjojaaDoorRg
namespace Go.Proofs.YtplkcmlpomjojaaDoor
open Go Go.RowKit
set_option maxHeartbeats 4000000
set_option linter.unusedSimpArgs false
set_option linter.unusedVariables false
set_option maxRecDepth 100000

theorem mvC_one (m : Mv) : (mvC m).toArray.all (·.oneCell') = true := by simp [mvC, Value.oneCell']
theorem own_row {w : World} {base g n cap : Nat} {l : List Mv} (h : ownMvs w base (.slice (some ⟨g, 0, none⟩) n cap) l) : MvRow g l w := by
  obtain ⟨hn, ⟨h1, _⟩ | ⟨g', cap', cur, he, _, hg, _, _, _, ht⟩⟩ := h
  · cases h1
  · cases he; exact ⟨cur, hg, ht⟩
theorem own_set3 {w : World} {base g n cap : Nat} {l : List Mv} (h : ownMvs w base (.slice (some ⟨g, 0, none⟩) n cap) l) (i : Nat) (hi : i < l.length) (m : Mv) : ownMvs (w.setCells g (3 * i) (mvC m)) base (.slice (some ⟨g, 0, none⟩) n cap) (l.set i m) := by
  have hrow := own_row h
  obtain ⟨hn, ⟨h1, _⟩ | ⟨g', cap', cur, he, hb, hg, hc, hm, hs, ht⟩⟩ := h
  · cases h1
  · cases he
    have h1 := heap_setCell_same w g (3 * i) _ _ (.int .i64 m.fr) hg
    have h2 := heap_setCell_same _ g (3 * i + 1) _ _ (.int .i64 m.to) h1
    have h3 := heap_setCell_same _ g (3 * i + 1 + 1) _ _ (.int .i64 m.pr) h2
    refine ⟨by rw [mvsC_len, List.length_set]; omega, Or.inr ⟨g, cap, _, by rw [List.length_set], hb, h3, by rw [List.length_set]; exact hc, hm, by simp [hs], ?_⟩⟩
    rw [List.length_set, mvsC_set l i m hi, ← ht]
    simp only [Array.toList_setIfInBounds]
    rw [List.take_set, List.take_set, List.take_set]
theorem own_next {w w' : World} {base : Nat} {v : Value} {l : List Mv} (h : ownMvs w base v l) (hb : Below w.heap.size w w') : ownMvs w' base v l := by
  obtain ⟨h1, h2 | ⟨g, cap, cur, a1, b, c, d⟩⟩ := h
  · exact ⟨h1, Or.inl h2⟩
  · exact ⟨h1, Or.inr ⟨g, cap, cur, a1, b, (hb.block g (Array.getElem?_eq_some_iff.1 c).1).trans c, d⟩⟩
theorem or_ordered (l : List Mv) (v : Value) (base' : Nat) (w : World) (hv : ownMvs w base' v l) (hl : l.length ≤ 100000) :
    Calls Tryd.prog 44 #[v] w fun e w' => ∃ v' l', e = .returned v' ∧ l'.Perm l ∧ ownMvs w' w.heap.size v' l' ∧ Below w.heap.size w w' := by
  obtain ⟨i0, hi, hz0, hz1, hz2⟩ := info_parts mv_info
  have hown0 : (w.alloc (.cells #[] 52)).ownsRow w.heap.size 52 3 (.slice (some ⟨w.heap.size, 0, none⟩) 0 0) 0 [] :=
    ⟨rfl, Or.inr ⟨w.heap.size, 0, #[], rfl, Nat.le_refl _, heap_alloc_new w _, Nat.le_refl _, by decide, rfl, rfl⟩⟩
  have hv1 := hv.alloc (.cells #[] 52)
  have hsz : w.heap.size ≤ (w.alloc (.cells #[] 52)).heap.size := by simp
  have hB0 : Below w.heap.size w (w.alloc (.cells #[] 52)) := (Below.refl _ _).alloc (Nat.le_refl _) _
  go_enter Tryd.func44, Tryd.ntmps44
  go_wp2_with (with_reducible refine at_append_all Tryd.underlying36 hi hz0 hz1 hz2 rfl (by decide) (by decide) w.heap.size _ _ _ hown0 _ _ _ _ hv1 (mvsC_one l) ?_ hsz ?_ ?_ ?_)
  · omega
  · rfl
  · rfl
  intro v1 w1 hown1 hb1 hsz1
  rw [Nat.zero_add, List.nil_append] at hown1
  have hB1 := hB0.trans hb1
  have hs1 : w.heap.size ≤ w1.heap.size := by omega
  clear hown0 hv1 hsz hB0 hb1 hsz1 hv
  have hform := hown1.2
  rcases hform with ⟨rfl, h0⟩ | ⟨g, cap, cur, rfl, hge, hgu, hcap, hmax, hsz3, htk⟩
  · have h00 : l = [] := List.eq_nil_of_length_eq_zero h0
    subst h00
    have hBs := show Shut _ from And.intro hown1 hB1
    clear hown1 hB1 hs1
    go_wp2_with fail
    go_loopw [4] (fun i wr => i = .int .i64 1 ∧ wr = w1) (fun i _ => 0)
    case atStart => exact ⟨rfl, rfl⟩
    case round =>
      obtain ⟨rfl, rfl⟩ := hrel
      go_wp2_with fail
      go_ret
      exact ⟨_, [], rfl, List.Perm.refl _, hBs.out.1, hBs.out.2⟩
  · clear hgu hsz3 htk cur
    have hn1 : l.length = l.length := rfl
    have hpl := List.Perm.refl l
    go_wp2_with fail
    go_loopw [4] (fun i wr => ∃ (k : Nat) (l' : List Mv), 1 ≤ k ∧ (k = 1 ∨ k ≤ l.length) ∧ i = .int .i64 (k : Int) ∧ l'.Perm l ∧ ownMvs wr w.heap.size (.slice (some ⟨g, 0, none⟩) l.length cap) l' ∧ Below w.heap.size w wr) (fun i _ => l.length - (intOf i).toNat)
    case atStart => exact ⟨1, l, by omega, Or.inl rfl, rfl, hpl, hown1, hB1⟩
    case round =>
      clear hown1 hB1
      obtain ⟨k, l', hk1, hk, rfl, hperm, hown, hB⟩ := hrel
      have hle := hperm.length_eq
      by_cases hlt : k < l.length
      · go_wp2_with fail
        go_loopw [5] (fun d wr2 => ∃ (j : Nat) (l2 : List Mv), j ≤ k ∧ d = .int .i64 (j : Int) ∧ l2.Perm l ∧ ownMvs wr2 w.heap.size (.slice (some ⟨g, 0, none⟩) l.length cap) l2 ∧ Below w.heap.size w wr2) (fun d _ => (intOf d).toNat)
        case atStart => exact ⟨k, l', Nat.le_refl _, rfl, hperm, hown, hB⟩
        case round =>
          clear hown hperm hle hB
          obtain ⟨j, l2, hj, rfl, hperm, hown, hB⟩ := hrel
          have hle := hperm.length_eq
          cases j with
          | zero =>
            have hps := show Shut _ from And.intro hperm (And.intro hown hB)
            clear hperm hown hB hle
            go_wp2_with fail
            go_quiet (fail)
            go_wp2_with fail
            go_roundw
            case rel =>
              have R : ∃ (k' : Nat) (l' : List Mv), 1 ≤ k' ∧ (k' = 1 ∨ k' ≤ l.length) ∧ Value.int .i64 ((k : Int) + 1) = .int .i64 (k' : Int) ∧ l'.Perm l ∧ ownMvs (wr.drewN nq) w.heap.size (.slice (some ⟨g, 0, none⟩) l.length cap) l' ∧ Below w.heap.size w (wr.drewN nq) := ⟨k + 1, l2, by omega, Or.inr (by omega), by go_num, hps.out.1, hps.out.2.1, below_drewN hps.out.2.2 nq⟩
              first | exact R | ((repeat apply Exists.intro); exact ⟨R, rfl⟩)
            case measure => simp [intOf]; omega
          | succ j =>
            rw [show ((j + 1 : Nat) : Int) = (j : Int) + 1 by omega]
            have q0 : (0 : Int) ≤ (j : Int) := by omega
            have q1 : (j : Int) + 1 < (l.length : Int) := by omega
            have q2 : (j : Int) < (l.length : Int) := by omega
            have q3 : (0 : Int) ≤ (j : Int) + 1 := by omega
            have hw1 : IntKind.i64.wrap ((j : Int) + 1 - 1) = (j : Int) := by rw [IntKind.wrap_i64]; omega
            have hw2 : IntKind.i64.wrap (j : Int) = (j : Int) := by rw [IntKind.wrap_i64]; omega
            have ht1 : ((j : Int) + 1).toNat = j + 1 := by omega
            have hj1 : j + 1 < l2.length := by omega
            have hj0 : j < l2.length := by omega
            have hgt : decide (0 < (j : Int) + 1) = true := decide_eq_true (by omega)
            have hwS : ownMvs wr.drew w.heap.size (.slice (some ⟨g, 0, none⟩) l.length cap) l2 := hown
            have hB2 := hB.drew
            have hlS := show Shut _ from And.intro hperm (And.intro hle (And.intro hj hlt))
            clear hperm hle hown hB
            generalize hma : l2.getD (j + 1) ⟨0, 0, 0⟩ = ma at *
            generalize hmb : l2.getD j ⟨0, 0, 0⟩ = mb at *
            have hms := show Shut _ from And.intro hma hmb
            have hra := show Shut (∀ W : World, ownMvs W w.heap.size (.slice (some ⟨g, 0, none⟩) l.length cap) l2 → W.rangeAt g ((j + 1) * 3) (mvC ma)) from fun W h => by have := (own_row h).range (j + 1) hj1; rw [hma, Nat.mul_comm] at this; exact this
            have hrb := show Shut (∀ W : World, ownMvs W w.heap.size (.slice (some ⟨g, 0, none⟩) l.length cap) l2 → W.rangeAt g (j * 3) (mvC mb)) from fun W h => by have := (own_row h).range j hj0; rw [hmb, Nat.mul_comm] at this; exact this
            clear hma hmb
            go_wp2_with fail
            refine wp_region_held_drew (S := fun w' : World => ownMvs w' w.heap.size (.slice (some ⟨g, 0, none⟩) l.length cap) l2 ∧ Below w.heap.size w w') (by kernel_rfl) ⟨hwS, hB2⟩ (fun hHeld => ?_)
            refine wpAnyH_take (i := 0) (v := ?vr6_1_0) rfl (by kernel_rfl) (by kernel_rfl) (by kernel_rfl) (fun _ _ _ h => h) (Or.inl ⟨by rfl, ?yr6_1_0⟩) hHeld ?rr6_1_0
            case yr6_1_0 => (intro wq hSw; clear hSw; go_simp; try with_reducible rfl)
            try simp only [List.getElem_toArray, List.getElem_cons_zero, List.getElem_cons_succ, Act.put, List.setIfInBounds_toArray, List.set_cons_zero, List.set_cons_succ]
            refine wpAnyH_take (i := 1) (v := ?vr6_2_1) rfl (by kernel_rfl) (by kernel_rfl) (by kernel_rfl) (fun _ _ _ h => h) (Or.inl ⟨by rfl, ?yr6_2_1⟩) hHeld ?rr6_2_1
            case yr6_2_1 => (intro wq hSw; clear hSw; go_simp; try with_reducible rfl)
            try simp only [List.getElem_toArray, List.getElem_cons_zero, List.getElem_cons_succ, Act.put, List.setIfInBounds_toArray, List.set_cons_zero, List.set_cons_succ]
            refine wpAnyH_take (i := 2) (v := ?vr6_3_2) rfl (by kernel_rfl) (by kernel_rfl) (by kernel_rfl) (fun _ _ _ h => h) (Or.inl ⟨by rfl, ?yr6_3_2⟩) hHeld ?rr6_3_2
            case yr6_3_2 => (intro wq hSw; clear hSw; go_simp; try with_reducible rfl)
            try simp only [List.getElem_toArray, List.getElem_cons_zero, List.getElem_cons_succ, Act.put, List.setIfInBounds_toArray, List.set_cons_zero, List.set_cons_succ]
            refine wpAnyH_take (i := 3) (v := ?vr6_4_3) rfl (by kernel_rfl) (by kernel_rfl) (by kernel_rfl) (fun _ _ _ h => h) (Or.inl ⟨by rfl, ?yr6_4_3⟩) hHeld ?rr6_4_3
            case yr6_4_3 => (intro wq hSw; clear hSw; go_simp; try with_reducible rfl)
            try simp only [List.getElem_toArray, List.getElem_cons_zero, List.getElem_cons_succ, Act.put, List.setIfInBounds_toArray, List.set_cons_zero, List.set_cons_succ]
            refine wpAnyH_take (i := 4) (v := ?vr6_5_4) rfl (by kernel_rfl) (by kernel_rfl) (by kernel_rfl) (fun _ _ _ h => h) (Or.inl ⟨by rfl, ?yr6_5_4⟩) hHeld ?rr6_5_4
            case yr6_5_4 => (intro wq hSw; clear hSw; go_simp; try with_reducible rfl)
            try simp only [List.getElem_toArray, List.getElem_cons_zero, List.getElem_cons_succ, Act.put, List.setIfInBounds_toArray, List.set_cons_zero, List.set_cons_succ]
            refine wpAnyH_take (i := 5) (v := ?vr6_6_5) rfl (by kernel_rfl) (by kernel_rfl) (by kernel_rfl) (fun _ _ _ h => h) (Or.inl ⟨by rfl, ?yr6_6_5⟩) hHeld ?rr6_6_5
            case yr6_6_5 => (intro wq hSw; clear hSw; go_simp; try with_reducible rfl)
            try simp only [List.getElem_toArray, List.getElem_cons_zero, List.getElem_cons_succ, Act.put, List.setIfInBounds_toArray, List.set_cons_zero, List.set_cons_succ]
            refine' wpAnyH_take (i := 6) (v := _) rfl (by kernel_rfl) (by kernel_rfl) (by kernel_rfl) (fun _ _ _ h => h) (yieldsIf_load_mid (by rfl) _ _ rfl _ _ rfl _ _ (fun _ h => hra.out _ h.1) Tryd.underlying52 rfl (by kernel_rfl)) hHeld ?_
            try simp only [List.getElem_toArray, List.getElem_cons_zero, List.getElem_cons_succ, Act.put, List.setIfInBounds_toArray, List.set_cons_zero, List.set_cons_succ]
            refine wpAnyH_take (i := 7) (v := ?vr6_8_7) rfl (by kernel_rfl) (by kernel_rfl) (by kernel_rfl) (fun _ _ _ h => h) (Or.inl ⟨by rfl, ?yr6_8_7⟩) hHeld ?rr6_8_7
            case yr6_8_7 => (intro wq hSw; clear hSw; go_simp; try with_reducible rfl)
            try simp only [List.getElem_toArray, List.getElem_cons_zero, List.getElem_cons_succ, Act.put, List.setIfInBounds_toArray, List.set_cons_zero, List.set_cons_succ]
            refine wpAnyH_take (i := 8) (v := ?vr6_9_8) rfl (by kernel_rfl) (by kernel_rfl) (by kernel_rfl) (fun _ _ _ h => h) (Or.inl ⟨by rfl, ?yr6_9_8⟩) hHeld ?rr6_9_8
            case yr6_9_8 => (intro wq hSw; clear hSw; go_simp; try with_reducible rfl)
            try simp only [List.getElem_toArray, List.getElem_cons_zero, List.getElem_cons_succ, Act.put, List.setIfInBounds_toArray, List.set_cons_zero, List.set_cons_succ]
            refine wpAnyH_take (i := 9) (v := ?vr6_10_9) rfl (by kernel_rfl) (by kernel_rfl) (by kernel_rfl) (fun _ _ _ h => h) (Or.inl ⟨by rfl, ?yr6_10_9⟩) hHeld ?rr6_10_9
            case yr6_10_9 => (intro wq hSw; clear hSw; go_simp; try with_reducible rfl)
            try simp only [List.getElem_toArray, List.getElem_cons_zero, List.getElem_cons_succ, Act.put, List.setIfInBounds_toArray, List.set_cons_zero, List.set_cons_succ]
            refine wpAnyH_take (i := 10) (v := ?vr6_11_10) rfl (by kernel_rfl) (by kernel_rfl) (by kernel_rfl) (fun _ _ _ h => h) (Or.inl ⟨by rfl, ?yr6_11_10⟩) hHeld ?rr6_11_10
            case yr6_11_10 => (intro wq hSw; clear hSw; go_simp; try with_reducible rfl)
            try simp only [List.getElem_toArray, List.getElem_cons_zero, List.getElem_cons_succ, Act.put, List.setIfInBounds_toArray, List.set_cons_zero, List.set_cons_succ]
            refine' wpAnyH_take (i := 11) (v := _) rfl (by kernel_rfl) (by kernel_rfl) (by kernel_rfl) (fun _ _ _ h => h) (yieldsIf_load_mid (by rfl) _ _ rfl _ _ rfl _ _ (fun _ h => hrb.out _ h.1) Tryd.underlying52 rfl (by kernel_rfl)) hHeld ?_
            try simp only [List.getElem_toArray, List.getElem_cons_zero, List.getElem_cons_succ, Act.put, List.setIfInBounds_toArray, List.set_cons_zero, List.set_cons_succ]
            refine wpAnyH_ready (rs := [12]) (by kernel_rfl) (by simp) ?_
            refine AllReadyH.cons rfl (fun K hK => ?_) AllReadyH.nil
            try simp only [List.getElem_toArray, List.getElem_cons_zero, List.getElem_cons_succ, Act.put, List.setIfInBounds_toArray, List.set_cons_zero, List.set_cons_succ]
            try rw [if_pos (by rfl)]
            go_simp
            refine (or_before ma mb _).mono ?_
            rintro e1 w4 ⟨rfl, hb4⟩
            go_wp2_with fail
            refine hK.out _ _ (by have hs := hHeld.2.size; exact ⟨own_next hHeld.1 hb4, hHeld.2.trans (hb4.mono hs)⟩) (fun hHeld => ?_)
            clear hK K
            try simp only [List.getElem_toArray, List.getElem_cons_zero, List.getElem_cons_succ, Act.put, List.setIfInBounds_toArray, List.set_cons_zero, List.set_cons_succ]
            refine wpAnyH_take (i := 13) (v := ?vr6_13_13) rfl (by kernel_rfl) (by kernel_rfl) (by kernel_rfl) (fun _ _ _ h => h) (Or.inl ⟨by rfl, ?yr6_13_13⟩) hHeld ?rr6_13_13
            case yr6_13_13 => (intro wq hSw; clear hSw; go_simp; try with_reducible rfl)
            try simp only [List.getElem_toArray, List.getElem_cons_zero, List.getElem_cons_succ, Act.put, List.setIfInBounds_toArray, List.set_cons_zero, List.set_cons_succ]
            refine wpAnyH_done (by kernel_rfl) ?_ _
            have hown := hHeld.1
            have hB := hHeld.2
            clear hHeld hwS hB2
            cases hbf : beforeB ma mb with
            | false =>
              have hbs := show Shut _ from And.intro hown hB
              clear hown hB
              go_wp2_with fail
              go_roundw
              case rel =>
                have R : ∃ (k' : Nat) (l' : List Mv), 1 ≤ k' ∧ (k' = 1 ∨ k' ≤ l.length) ∧ Value.int .i64 ((k : Int) + 1) = .int .i64 (k' : Int) ∧ l'.Perm l ∧ ownMvs w4 w.heap.size (.slice (some ⟨g, 0, none⟩) l.length cap) l' ∧ Below w.heap.size w w4 := ⟨k + 1, l2, by omega, Or.inr (by have := hlS.out.2.2.2; omega), by go_num, hlS.out.1, hbs.out.1, hbs.out.2⟩
                first | exact R | ((repeat apply Exists.intro); exact ⟨R, rfl⟩)
              case measure => have := hlS.out.2.2.2; simp [intOf]; omega
            | true =>
              go_wp2_with fail
              have hwS : ownMvs w4.drew w.heap.size (.slice (some ⟨g, 0, none⟩) l.length cap) l2 := hown
              have hB3 := hB.drew
              clear hown hB
              refine wp_region_held_drew (S := fun _ : World => True) (by kernel_rfl) trivial (fun hHeld => ?_)
              refine wpAnyH_take (i := 0) (v := ?vr8_1_0) rfl (by kernel_rfl) (by kernel_rfl) (by kernel_rfl) (fun _ _ _ h => h) (Or.inl ⟨by rfl, ?yr8_1_0⟩) hHeld ?rr8_1_0
              case yr8_1_0 => (intro wq hSw; clear hSw; go_simp; try with_reducible rfl)
              try simp only [List.getElem_toArray, List.getElem_cons_zero, List.getElem_cons_succ, Act.put, List.setIfInBounds_toArray, List.set_cons_zero, List.set_cons_succ]
              refine wpAnyH_take (i := 1) (v := ?vr8_2_1) rfl (by kernel_rfl) (by kernel_rfl) (by kernel_rfl) (fun _ _ _ h => h) (Or.inl ⟨by rfl, ?yr8_2_1⟩) hHeld ?rr8_2_1
              case yr8_2_1 => (intro wq hSw; clear hSw; go_simp; try with_reducible rfl)
              try simp only [List.getElem_toArray, List.getElem_cons_zero, List.getElem_cons_succ, Act.put, List.setIfInBounds_toArray, List.set_cons_zero, List.set_cons_succ]
              refine wpAnyH_take (i := 2) (v := ?vr8_3_2) rfl (by kernel_rfl) (by kernel_rfl) (by kernel_rfl) (fun _ _ _ h => h) (Or.inl ⟨by rfl, ?yr8_3_2⟩) hHeld ?rr8_3_2
              case yr8_3_2 => (intro wq hSw; clear hSw; go_simp; try with_reducible rfl)
              try simp only [List.getElem_toArray, List.getElem_cons_zero, List.getElem_cons_succ, Act.put, List.setIfInBounds_toArray, List.set_cons_zero, List.set_cons_succ]
              refine wpAnyH_take (i := 3) (v := ?vr8_4_3) rfl (by kernel_rfl) (by kernel_rfl) (by kernel_rfl) (fun _ _ _ h => h) (Or.inl ⟨by rfl, ?yr8_4_3⟩) hHeld ?rr8_4_3
              case yr8_4_3 => (intro wq hSw; clear hSw; go_simp; try with_reducible rfl)
              try simp only [List.getElem_toArray, List.getElem_cons_zero, List.getElem_cons_succ, Act.put, List.setIfInBounds_toArray, List.set_cons_zero, List.set_cons_succ]
              refine wpAnyH_take (i := 4) (v := ?vr8_5_4) rfl (by kernel_rfl) (by kernel_rfl) (by kernel_rfl) (fun _ _ _ h => h) (Or.inl ⟨by rfl, ?yr8_5_4⟩) hHeld ?rr8_5_4
              case yr8_5_4 => (intro wq hSw; clear hSw; go_simp; try with_reducible rfl)
              try simp only [List.getElem_toArray, List.getElem_cons_zero, List.getElem_cons_succ, Act.put, List.setIfInBounds_toArray, List.set_cons_zero, List.set_cons_succ]
              refine wpAnyH_take (i := 5) (v := ?vr8_6_5) rfl (by kernel_rfl) (by kernel_rfl) (by kernel_rfl) (fun _ _ _ h => h) (Or.inl ⟨by rfl, ?yr8_6_5⟩) hHeld ?rr8_6_5
              case yr8_6_5 => (intro wq hSw; clear hSw; go_simp; try with_reducible rfl)
              try simp only [List.getElem_toArray, List.getElem_cons_zero, List.getElem_cons_succ, Act.put, List.setIfInBounds_toArray, List.set_cons_zero, List.set_cons_succ]
              refine wpAnyH_take (i := 6) (v := ?vr8_7_6) rfl (by kernel_rfl) (by kernel_rfl) (by kernel_rfl) (fun _ _ _ h => h) (Or.inl ⟨by rfl, ?yr8_7_6⟩) hHeld ?rr8_7_6
              case yr8_7_6 => (intro wq hSw; clear hSw; go_simp; try with_reducible rfl)
              try simp only [List.getElem_toArray, List.getElem_cons_zero, List.getElem_cons_succ, Act.put, List.setIfInBounds_toArray, List.set_cons_zero, List.set_cons_succ]
              refine wpAnyH_take (i := 7) (v := ?vr8_8_7) rfl (by kernel_rfl) (by kernel_rfl) (by kernel_rfl) (fun _ _ _ h => h) (Or.inl ⟨by rfl, ?yr8_8_7⟩) hHeld ?rr8_8_7
              case yr8_8_7 => (intro wq hSw; clear hSw; go_simp; try with_reducible rfl)
              try simp only [List.getElem_toArray, List.getElem_cons_zero, List.getElem_cons_succ, Act.put, List.setIfInBounds_toArray, List.set_cons_zero, List.set_cons_succ]
              refine wpAnyH_take (i := 8) (v := ?vr8_9_8) rfl (by kernel_rfl) (by kernel_rfl) (by kernel_rfl) (fun _ _ _ h => h) (Or.inl ⟨by rfl, ?yr8_9_8⟩) hHeld ?rr8_9_8
              case yr8_9_8 => (intro wq hSw; clear hSw; go_simp; try with_reducible rfl)
              try simp only [List.getElem_toArray, List.getElem_cons_zero, List.getElem_cons_succ, Act.put, List.setIfInBounds_toArray, List.set_cons_zero, List.set_cons_succ]
              refine wpAnyH_take (i := 10) (v := ?vr8_10_10) rfl (by kernel_rfl) (by kernel_rfl) (by kernel_rfl) (fun _ _ _ h => h) (Or.inl ⟨by rfl, ?yr8_10_10⟩) hHeld ?rr8_10_10
              case yr8_10_10 => (intro wq hSw; clear hSw; go_simp; try with_reducible rfl)
              try simp only [List.getElem_toArray, List.getElem_cons_zero, List.getElem_cons_succ, Act.put, List.setIfInBounds_toArray, List.set_cons_zero, List.set_cons_succ]
              refine wpAnyH_take (i := 11) (v := ?vr8_11_11) rfl (by kernel_rfl) (by kernel_rfl) (by kernel_rfl) (fun _ _ _ h => h) (Or.inl ⟨by rfl, ?yr8_11_11⟩) hHeld ?rr8_11_11
              case yr8_11_11 => (intro wq hSw; clear hSw; go_simp; try with_reducible rfl)
              try simp only [List.getElem_toArray, List.getElem_cons_zero, List.getElem_cons_succ, Act.put, List.setIfInBounds_toArray, List.set_cons_zero, List.set_cons_succ]
              refine wpAnyH_take (i := 12) (v := ?vr8_12_12) rfl (by kernel_rfl) (by kernel_rfl) (by kernel_rfl) (fun _ _ _ h => h) (Or.inl ⟨by rfl, ?yr8_12_12⟩) hHeld ?rr8_12_12
              case yr8_12_12 => (intro wq hSw; clear hSw; go_simp; try with_reducible rfl)
              try simp only [List.getElem_toArray, List.getElem_cons_zero, List.getElem_cons_succ, Act.put, List.setIfInBounds_toArray, List.set_cons_zero, List.set_cons_succ]
              refine wpAnyH_ready (rs := [9, 13]) (by kernel_rfl) (by simp) ?_
              refine AllReadyH.cons rfl (fun K hK => ?_) (AllReadyH.cons rfl (fun K hK => ?_) AllReadyH.nil)
              · try simp only [List.getElem_toArray, List.getElem_cons_zero, List.getElem_cons_succ, Act.put, List.setIfInBounds_toArray, List.set_cons_zero, List.set_cons_succ]
                try simp only [List.getElem_toArray, List.getElem_cons_zero, List.getElem_cons_succ, Act.put, List.setIfInBounds_toArray, List.set_cons_zero, List.set_cons_succ]
                try rw [if_pos (by rfl)]
                refine wp_load_mid _ _ rfl _ _ rfl _ _ (hrb.out _ hwS) Tryd.underlying52 rfl (by kernel_rfl) ?_
                refine hK.out _ _ trivial (fun hHeld => ?_)
                clear hK K
                try simp only [List.getElem_toArray, List.getElem_cons_zero, List.getElem_cons_succ, Act.put, List.setIfInBounds_toArray, List.set_cons_zero, List.set_cons_succ]
                refine wpAnyH_ready (rs := [13]) (by kernel_rfl) (by simp) ?_
                refine AllReadyH.cons rfl (fun K hK => ?_) AllReadyH.nil
                try simp only [List.getElem_toArray, List.getElem_cons_zero, List.getElem_cons_succ, Act.put, List.setIfInBounds_toArray, List.set_cons_zero, List.set_cons_succ]
                try rw [if_pos (by rfl)]
                refine wp_load_mid _ _ rfl _ _ rfl _ _ (hra.out _ hwS) Tryd.underlying52 rfl (by kernel_rfl) ?_
                refine hK.out _ _ trivial (fun hHeld => ?_)
                clear hK K
                try simp only [List.getElem_toArray, List.getElem_cons_zero, List.getElem_cons_succ, Act.put, List.setIfInBounds_toArray, List.set_cons_zero, List.set_cons_succ]
                refine wpAnyH_take (i := 14) (v := ?vr8a13_14) rfl (by kernel_rfl) (by kernel_rfl) (by kernel_rfl) (fun _ _ _ h => h) (Or.inl ⟨by rfl, ?yr8a13_14⟩) hHeld ?rr8a13_14
                case yr8a13_14 => (intro wq hSw; clear hSw; go_simp; try with_reducible rfl)
                try simp only [List.getElem_toArray, List.getElem_cons_zero, List.getElem_cons_succ, Act.put, List.setIfInBounds_toArray, List.set_cons_zero, List.set_cons_succ]
                refine wpAnyH_ready (rs := [15]) (by kernel_rfl) (by simp) ?_
                refine AllReadyH.cons rfl (fun K hK => ?_) AllReadyH.nil
                try simp only [List.getElem_toArray, List.getElem_cons_zero, List.getElem_cons_succ, Act.put, List.setIfInBounds_toArray, List.set_cons_zero, List.set_cons_succ]
                try rw [if_pos (by rfl)]
                refine wp_store_mid 52 _ _ rfl g ((j + 1) * 3) (mvC mb).toArray (by rfl) (by rfl) (by have h := (own_row hwS).there (j + 1) (by first | exact hj1 | exact hj0 | (rw [List.length_set]; exact hj0)); rw [Nat.mul_comm] at h; exact h) (by kernel_rfl) (mvC_one mb) ?_
                have hs1 := own_set3 hwS (j + 1) (by first | exact hj1 | exact hj0 | (rw [List.length_set]; exact hj0)) mb
                rw [Nat.mul_comm 3] at hs1
                have hB4 := below_setCells hB3 g ((j + 1) * 3) mb hge
                generalize w4.drew.setCells g ((j + 1) * 3) (mvC mb) = w6 at *
                refine hK.out _ _ trivial (fun hHeld => ?_)
                clear hK K
                try simp only [List.getElem_toArray, List.getElem_cons_zero, List.getElem_cons_succ, Act.put, List.setIfInBounds_toArray, List.set_cons_zero, List.set_cons_succ]
                refine wpAnyH_take (i := 16) (v := ?vr8a14_16) rfl (by kernel_rfl) (by kernel_rfl) (by kernel_rfl) (fun _ _ _ h => h) (Or.inl ⟨by rfl, ?yr8a14_16⟩) hHeld ?rr8a14_16
                case yr8a14_16 => (intro wq hSw; clear hSw; go_simp; try with_reducible rfl)
                try simp only [List.getElem_toArray, List.getElem_cons_zero, List.getElem_cons_succ, Act.put, List.setIfInBounds_toArray, List.set_cons_zero, List.set_cons_succ]
                refine wpAnyH_ready (rs := [17]) (by kernel_rfl) (by simp) ?_
                refine AllReadyH.cons rfl (fun K hK => ?_) AllReadyH.nil
                try simp only [List.getElem_toArray, List.getElem_cons_zero, List.getElem_cons_succ, Act.put, List.setIfInBounds_toArray, List.set_cons_zero, List.set_cons_succ]
                try rw [if_pos (by rfl)]
                refine wp_store_mid 52 _ _ rfl g (j * 3) (mvC ma).toArray (by rfl) (by rfl) (by have h := (own_row hs1).there j (by first | exact hj1 | exact hj0 | (rw [List.length_set]; exact hj0)); rw [Nat.mul_comm] at h; exact h) (by kernel_rfl) (mvC_one ma) ?_
                have hs2 := own_set3 hs1 j (by first | exact hj1 | exact hj0 | (rw [List.length_set]; exact hj0)) ma
                rw [Nat.mul_comm 3] at hs2
                have hB5 := below_setCells hB4 g (j * 3) ma hge
                generalize w6.setCells g (j * 3) (mvC ma) = w7 at *
                refine hK.out _ _ trivial (fun hHeld => ?_)
                clear hK K hs1 hB4 hB3 hwS
                try simp only [List.getElem_toArray, List.getElem_cons_zero, List.getElem_cons_succ, Act.put, List.setIfInBounds_toArray, List.set_cons_zero, List.set_cons_succ]
                refine wpAnyH_done (by kernel_rfl) ?_ _
                have hfin := show Shut _ from And.intro hs2 hB5
                clear hs2 hB5
                go_wp2_with fail
                go_roundw
                case rel =>
                  have hpp : ((l2.set (j + 1) mb).set j ma).Perm l := by
                    have h := swap_perm l2 (j + 1) (by omega) hj1
                    unfold swapL at h
                    rw [Nat.add_sub_cancel, hms.out.1, hms.out.2] at h
                    exact h.trans hlS.out.1
                  have R : ∃ (j' : Nat) (l3 : List Mv), j' ≤ k ∧ Value.int .i64 (j : Int) = .int .i64 (j' : Int) ∧ l3.Perm l ∧ ownMvs w7 w.heap.size (.slice (some ⟨g, 0, none⟩) l.length cap) l3 ∧ Below w.heap.size w w7 := ⟨j, (l2.set (j + 1) mb).set j ma, by have := hlS.out.2.2.1; omega, rfl, hpp, hfin.out.1, hfin.out.2⟩
                  first | exact R | ((repeat apply Exists.intro); exact ⟨R, rfl⟩)
                case measure => first | (simp [intOf]; done) | (simp [intOf]; omega)
              · try simp only [List.getElem_toArray, List.getElem_cons_zero, List.getElem_cons_succ, Act.put, List.setIfInBounds_toArray, List.set_cons_zero, List.set_cons_succ]
                try simp only [List.getElem_toArray, List.getElem_cons_zero, List.getElem_cons_succ, Act.put, List.setIfInBounds_toArray, List.set_cons_zero, List.set_cons_succ]
                try rw [if_pos (by rfl)]
                refine wp_load_mid _ _ rfl _ _ rfl _ _ (hra.out _ hwS) Tryd.underlying52 rfl (by kernel_rfl) ?_
                refine hK.out _ _ trivial (fun hHeld => ?_)
                clear hK K
                try simp only [List.getElem_toArray, List.getElem_cons_zero, List.getElem_cons_succ, Act.put, List.setIfInBounds_toArray, List.set_cons_zero, List.set_cons_succ]
                refine wpAnyH_ready (rs := [9]) (by kernel_rfl) (by simp) ?_
                refine AllReadyH.cons rfl (fun K hK => ?_) AllReadyH.nil
                try simp only [List.getElem_toArray, List.getElem_cons_zero, List.getElem_cons_succ, Act.put, List.setIfInBounds_toArray, List.set_cons_zero, List.set_cons_succ]
                try rw [if_pos (by rfl)]
                refine wp_load_mid _ _ rfl _ _ rfl _ _ (hrb.out _ hwS) Tryd.underlying52 rfl (by kernel_rfl) ?_
                refine hK.out _ _ trivial (fun hHeld => ?_)
                clear hK K
                try simp only [List.getElem_toArray, List.getElem_cons_zero, List.getElem_cons_succ, Act.put, List.setIfInBounds_toArray, List.set_cons_zero, List.set_cons_succ]
                refine wpAnyH_take (i := 14) (v := ?vr8b15_14) rfl (by kernel_rfl) (by kernel_rfl) (by kernel_rfl) (fun _ _ _ h => h) (Or.inl ⟨by rfl, ?yr8b15_14⟩) hHeld ?rr8b15_14
                case yr8b15_14 => (intro wq hSw; clear hSw; go_simp; try with_reducible rfl)
                try simp only [List.getElem_toArray, List.getElem_cons_zero, List.getElem_cons_succ, Act.put, List.setIfInBounds_toArray, List.set_cons_zero, List.set_cons_succ]
                refine wpAnyH_ready (rs := [15]) (by kernel_rfl) (by simp) ?_
                refine AllReadyH.cons rfl (fun K hK => ?_) AllReadyH.nil
                try simp only [List.getElem_toArray, List.getElem_cons_zero, List.getElem_cons_succ, Act.put, List.setIfInBounds_toArray, List.set_cons_zero, List.set_cons_succ]
                try rw [if_pos (by rfl)]
                refine wp_store_mid 52 _ _ rfl g ((j + 1) * 3) (mvC mb).toArray (by rfl) (by rfl) (by have h := (own_row hwS).there (j + 1) (by first | exact hj1 | exact hj0 | (rw [List.length_set]; exact hj0)); rw [Nat.mul_comm] at h; exact h) (by kernel_rfl) (mvC_one mb) ?_
                have hs1 := own_set3 hwS (j + 1) (by first | exact hj1 | exact hj0 | (rw [List.length_set]; exact hj0)) mb
                rw [Nat.mul_comm 3] at hs1
                have hB4 := below_setCells hB3 g ((j + 1) * 3) mb hge
                generalize w4.drew.setCells g ((j + 1) * 3) (mvC mb) = w6 at *
                refine hK.out _ _ trivial (fun hHeld => ?_)
                clear hK K
                try simp only [List.getElem_toArray, List.getElem_cons_zero, List.getElem_cons_succ, Act.put, List.setIfInBounds_toArray, List.set_cons_zero, List.set_cons_succ]
                refine wpAnyH_take (i := 16) (v := ?vr8b16_16) rfl (by kernel_rfl) (by kernel_rfl) (by kernel_rfl) (fun _ _ _ h => h) (Or.inl ⟨by rfl, ?yr8b16_16⟩) hHeld ?rr8b16_16
                case yr8b16_16 => (intro wq hSw; clear hSw; go_simp; try with_reducible rfl)
                try simp only [List.getElem_toArray, List.getElem_cons_zero, List.getElem_cons_succ, Act.put, List.setIfInBounds_toArray, List.set_cons_zero, List.set_cons_succ]
                refine wpAnyH_ready (rs := [17]) (by kernel_rfl) (by simp) ?_
                refine AllReadyH.cons rfl (fun K hK => ?_) AllReadyH.nil
                try simp only [List.getElem_toArray, List.getElem_cons_zero, List.getElem_cons_succ, Act.put, List.setIfInBounds_toArray, List.set_cons_zero, List.set_cons_succ]
                try rw [if_pos (by rfl)]
                refine wp_store_mid 52 _ _ rfl g (j * 3) (mvC ma).toArray (by rfl) (by rfl) (by have h := (own_row hs1).there j (by first | exact hj1 | exact hj0 | (rw [List.length_set]; exact hj0)); rw [Nat.mul_comm] at h; exact h) (by kernel_rfl) (mvC_one ma) ?_
                have hs2 := own_set3 hs1 j (by first | exact hj1 | exact hj0 | (rw [List.length_set]; exact hj0)) ma
                rw [Nat.mul_comm 3] at hs2
                have hB5 := below_setCells hB4 g (j * 3) ma hge
                generalize w6.setCells g (j * 3) (mvC ma) = w7 at *
                refine hK.out _ _ trivial (fun hHeld => ?_)
                clear hK K hs1 hB4 hB3 hwS
                try simp only [List.getElem_toArray, List.getElem_cons_zero, List.getElem_cons_succ, Act.put, List.setIfInBounds_toArray, List.set_cons_zero, List.set_cons_succ]
                refine wpAnyH_done (by kernel_rfl) ?_ _
                have hfin := show Shut _ from And.intro hs2 hB5
                clear hs2 hB5
                go_wp2_with fail
                go_roundw
                case rel =>
                  have hpp : ((l2.set (j + 1) mb).set j ma).Perm l := by
                    have h := swap_perm l2 (j + 1) (by omega) hj1
                    unfold swapL at h
                    rw [Nat.add_sub_cancel, hms.out.1, hms.out.2] at h
                    exact h.trans hlS.out.1
                  have R : ∃ (j' : Nat) (l3 : List Mv), j' ≤ k ∧ Value.int .i64 (j : Int) = .int .i64 (j' : Int) ∧ l3.Perm l ∧ ownMvs w7 w.heap.size (.slice (some ⟨g, 0, none⟩) l.length cap) l3 ∧ Below w.heap.size w w7 := ⟨j, (l2.set (j + 1) mb).set j ma, by have := hlS.out.2.2.1; omega, rfl, hpp, hfin.out.1, hfin.out.2⟩
                  first | exact R | ((repeat apply Exists.intro); exact ⟨R, rfl⟩)
                case measure => first | (simp [intOf]; done) | (simp [intOf]; omega)
      · obtain hkk : k = l.length ∨ l.length ≤ 1 := by omega
        have hpS := show Shut _ from And.intro hperm (And.intro hown hB)
        have hnlt : ¬ (k : Int) < (l.length : Int) := by omega
        clear hperm hown hB hle hkk
        go_wp2_with fail
        go_ret
        first
        | exact ⟨_, l', rfl, hpS.out.1, hpS.out.2.1, hpS.out.2.2⟩
        | exact ⟨_, rfl, l', hpS.out.1, hpS.out.2.1, hpS.out.2.2⟩

end Go.Proofs.YtplkcmlpomjojaaDoor
