/- laws.mvRight: whether the statements ask of a position. For every position. -/
import Derived.Test.YtplkcmlpomjojaaDoorLg
import Derived.Test.YtplkcmlpomjojaaDoorVa
namespace Go.Proofs.YtplkcmlpomjojaaDoor
open Go Go.RowKit
set_option maxHeartbeats 8000000
set_option linter.unusedSimpArgs false
set_option linter.unusedVariables false
set_option maxRecDepth 100000

/-- What a valid position has. -/
structure Sound (p : List Int) (tn : Nat) : Prop where
  pos : Pos p
  turn : p.getD 64 0 = (tn : Int)
  one : tn ≤ 1
  ca0 : 0 ≤ p.getD 65 0
  ca1 : p.getD 65 0 ≤ 15
  ep : -1 ≤ p.getD 66 0 ∧ p.getD 66 0 ≤ 63
  hf : 0 ≤ p.getD 67 0
  fu : 1 ≤ p.getD 68 0
  n1 : cnt p 1 64 = 1
  n7 : cnt p 7 64 = 1
theorem Sound.king0 {p : List Int} {tn : Nat} (h : Sound p tn) : 0 ≤ kingAt p 0 := kingAt_some p 0 (by rw [show (1 : Int) + 6 * 0 = 1 from rfl, h.n1]; decide)
theorem Sound.king1 {p : List Int} {tn : Nat} (h : Sound p tn) : 0 ≤ kingAt p 1 := kingAt_some p 1 (by rw [show (1 : Int) + 6 * 1 = 7 from rfl, h.n7]; decide)
theorem Sound.king {p : List Int} {tn : Nat} (h : Sound p tn) : 0 ≤ kingAt p (tn : Int) := by
  have := h.one
  obtain rfl | rfl : tn = 0 ∨ tn = 1 := by omega
  · exact h.king0
  · exact h.king1
theorem valid_sound (p : List Int) (hl : p.length = 69) (h : validB p = true) : ∃ tn : Nat, Sound p tn := by
  rw [validB, Bool.and_eq_true, Bool.and_eq_true, Bool.and_eq_true, Bool.and_eq_true, Bool.and_eq_true, Bool.and_eq_true] at h
  obtain ⟨h1, h2, h3, h4, h5, h6, h7⟩ := h
  have hp := okSq_pos p hl (fun i hi => (List.all_eq_true.1 h1) i (List.mem_range.2 hi))
  simp only [headB, Bool.and_eq_true, Bool.or_eq_true, decide_eq_true_eq] at h2
  obtain ⟨a, b, c, d, e⟩ := h2
  refine ⟨(p.getD 64 0).toNat, hp, by omega, by omega, b, c, ?_, d, e, of_decide_eq_true h3, of_decide_eq_true h4⟩
  rw [passedB] at h6
  by_cases q : p.getD 66 0 < 0 ∨ 63 < p.getD 66 0
  · rw [if_pos q] at h6
    have := of_decide_eq_true h6
    omega
  · omega
/-- Whether a position is one that the statements ask of. -/
def askedB (p : List Int) : Bool := validB p && (decide (p.getD 67 0 ≤ 10000) && (decide (p.getD 68 0 ≤ 10000) && decide ((legalL p).length ≤ 218)))
theorem askedB_valid {p : List Int} (h : askedB p = true) : validB p = true := by
  rw [askedB, Bool.and_eq_true] at h; exact h.1
theorem askedB_hf {p : List Int} (h : askedB p = true) : p.getD 67 0 ≤ 10000 := by
  rw [askedB, Bool.and_eq_true, Bool.and_eq_true] at h; exact of_decide_eq_true h.2.1
theorem askedB_fu {p : List Int} (h : askedB p = true) : p.getD 68 0 ≤ 10000 := by
  rw [askedB, Bool.and_eq_true, Bool.and_eq_true, Bool.and_eq_true] at h; exact of_decide_eq_true h.2.2.1
theorem mvs_some {w : World} {base : Nat} {v : Value} {l : List Mv} (h : ownMvs w base v l) : ∃ a c, v = .slice a l.length c := by
  obtain ⟨a, c, h, _⟩ := mvs_slice h
  exact ⟨a, c, h⟩
theorem rt_right (p : List Int) (hl : p.length = 69) (w : World) :
    Calls Tryd.prog 6 #[.agg (ints p)] w fun e w' => e = .returned (.bool (askedB p)) ∧ Below w.heap.size w w' := by
  have hrow0 : PosAt p w.heap.size (w.alloc (.cells (ints p) 24)) := heap_alloc_new w (.cells (ints p) 24)
  have hBW : Below w.heap.size w (w.alloc (.cells (ints p) 24)) := (Below.refl _ _).alloc (Nat.le_refl _) _
  have hgl : w.heap.size < (w.alloc (.cells (ints p) 24)).heap.size := by simp
  have hV := show Shut (∀ W : World, Calls Tryd.prog 12 #[.agg (ints p)] W fun e w' => e = .returned (.bool (validB p)) ∧ Below W.heap.size W w') from fun W => va_valid p hl W
  have hrow : (w.alloc (.cells (ints p) 24)).heap[w.heap.size]? = some (.cells (ints p) 24 (0, 0)) := hrow0
  go_enter Tryd.func6, Tryd.ntmps6
  go_upto_region 1 with (fail)
  generalize w.alloc (.cells (ints p) 24) = W at *
  have hR0 := show Shut _ from hrow0
  clear hrow0
  by_cases hv : validB p = true
  · obtain ⟨tn, hs⟩ := valid_sound p hl hv
    have hL := show Shut ((p.getD 67 0 ≤ 10000 → p.getD 68 0 ≤ 10000 → ∀ W : World, Calls Tryd.prog 13 #[.agg (ints p)] W fun e w' => ∃ v l', e = .returned v ∧ l'.Perm (legalL p) ∧ ownMvs w' W.heap.size v l' ∧ Below W.heap.size W w')) from fun a b W => lg_legal p hs.pos tn hs.turn hs.one hs.ca0 hs.ca1 hs.ep hs.hf (by omega) (by have := hs.fu; omega) (by omega) (by rw [hs.turn]; exact hs.king) W
    have hRB := show Shut (askedB p = (decide (p.getD 67 0 ≤ 10000) && (decide (p.getD 68 0 ≤ 10000) && decide ((legalL p).length ≤ 218)))) from (show _ = _ from by rw [askedB, hv, Bool.true_and])
    have c67 := show Shut (∀ W' : World, Below W.heap.size W W' → W'.cell? ⟨w.heap.size, 67, none⟩ = some (.int .i64 (p.getD 67 0))) from fun W' hb => PosAt.cell (p := p) (PosAt.below (p := p) hR0.out hb) 67 (by omega)
    have c68 := show Shut (∀ W' : World, Below W.heap.size W W' → W'.cell? ⟨w.heap.size, 68, none⟩ = some (.int .i64 (p.getD 68 0))) from fun W' hb => PosAt.cell (p := p) (PosAt.below (p := p) hR0.out hb) 68 (by omega)
    have hvs := show Shut _ from hv
    have hBs := show Shut _ from hBW
    clear hs hv hBW
    generalize p.getD 67 0 = hf at *
    generalize p.getD 68 0 = fu at *
    by_cases g1 : hf ≤ 10000
    · by_cases g2 : fu ≤ 10000
      · go_wp2_with (first
          | ((with_reducible refine at_load_row hrow Tryd.underlying24 rfl ?_ ?_ ?_); (rw [ints_size, hl]; kernel_rfl); rfl)
          | ((with_reducible refine at_load_rowG hrow1 Tryd.underlying24 rfl ?_ ?_ ?_ ?_); (rw [ints_size, hl]; kernel_rfl); rfl; (first | rfl | (simp [Region.wanted, yielded, g1, g2]; done)))
          | (go_at_call 12; refine (hV.out _).mono ?_; rintro e1 w1 ⟨rfl, hb1⟩; rw [hvs.out]; have hc7 := c67.out _ hb1; have hc8 := c68.out _ hb1; have hrow1 := (hb1.block w.heap.size hgl).trans hrow)
          | (go_at_call 13; refine (hL.out g1 g2 _).mono ?_; rintro e2 w2 ⟨v, l', rfl, hpl, hown, hb2⟩; obtain ⟨sa, sc, rfl⟩ := mvs_some hown; have hlen := hpl.length_eq; have hfin := show Shut _ from And.intro hlen (And.intro hb1 hb2)))
        go_ret
        exact ⟨by rw [hRB.out, ← hfin.out.1, decide_eq_true g1, decide_eq_true g2, Bool.true_and, Bool.true_and]; simp; try omega, hBs.out.trans ((hfin.out.2.1.trans (hfin.out.2.2.mono (by have := hfin.out.2.1.size; omega))).mono (by omega))⟩
      · go_wp2_with (first
          | ((with_reducible refine at_load_row hrow Tryd.underlying24 rfl ?_ ?_ ?_); (rw [ints_size, hl]; kernel_rfl); rfl)
          | (go_at_call 12; refine (hV.out _).mono ?_; rintro e1 w1 ⟨rfl, hb1⟩; rw [hvs.out]; have hc7 := c67.out _ hb1; have hc8 := c68.out _ hb1))
        go_ret
        exact ⟨by rw [hRB.out, decide_eq_false (show ¬ fu ≤ 10000 by omega)]; simp, hBs.out.trans (hb1.mono (by omega))⟩
    · go_wp2_with (first
        | ((with_reducible refine at_load_row hrow Tryd.underlying24 rfl ?_ ?_ ?_); (rw [ints_size, hl]; kernel_rfl); rfl)
        | (go_at_call 12; refine (hV.out _).mono ?_; rintro e1 w1 ⟨rfl, hb1⟩; rw [hvs.out]; have hc7 := c67.out _ hb1; have hc8 := c68.out _ hb1))
      go_ret
      exact ⟨by rw [hRB.out, decide_eq_false (show ¬ hf ≤ 10000 by omega)]; simp, hBs.out.trans (hb1.mono (by omega))⟩
  · have hBs := show Shut _ from hBW
    clear hBW
    have hvf : validB p = false := by simpa using hv
    have hvs := show Shut _ from hvf
    clear hv hvf
    go_wp2_with (first
        | ((with_reducible refine at_load_row hrow Tryd.underlying24 rfl ?_ ?_ ?_); (rw [ints_size, hl]; kernel_rfl); rfl)
        | (go_at_call 12; refine (hV.out _).mono ?_; rintro e1 w1 ⟨rfl, hb1⟩; rw [hvs.out]))
    go_ret
    exact ⟨by rw [askedB, hvs.out]; simp, hBs.out.trans (hb1.mono (by omega))⟩
end Go.Proofs.YtplkcmlpomjojaaDoor
