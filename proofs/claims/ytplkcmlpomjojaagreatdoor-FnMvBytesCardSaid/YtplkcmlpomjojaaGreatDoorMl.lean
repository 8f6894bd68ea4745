/- FnMvBytes: the law. For every position. -/
import Derived.Test.YtplkcmlpomjojaaGreatDoorMc
import Derived.Test.YtplkcmlpomjojaaGreatDoorMo
namespace Go.Proofs.YtplkcmlpomjojaaGreatDoor
open Go Go.RowKit
set_option maxHeartbeats 8000000
set_option linter.unusedSimpArgs false
set_option linter.unusedVariables false
set_option maxRecDepth 100000

theorem ml_lies {w : World} {B : Nat} {v : Value} {PB : List Value} (h : w.ownsRow B 5 1 v 101 PB) : ∃ q cap, v = .slice (some ⟨q, 0, none⟩) 101 cap ∧ 101 ≤ cap ∧ q < w.heap.size ∧ ∀ i, i < 101 → w.cell? ⟨q, i, none⟩ = PB[i]? := by
  have hf := h
  obtain ⟨hn, ⟨rfl, h0⟩ | ⟨g, cap, cur, rfl, hge, hg, hc, _⟩⟩ := h
  · omega
  · exact ⟨g, cap, rfl, hc, (Array.getElem?_eq_some_iff.1 hg).1, fun i hi => hf.cellAt i (by omega)⟩
theorem ml_law (p : List Int) (hl : p.length = 69) (w : World) (hfi : IntTab w 8 .u64 (tabZ bbFilesL)) (hra : IntTab w 7 .u64 (tabZ bbRanksL)) (hdi : IntTab w 5 .u64 (tabZ bbDiagonalsL)) (han : IntTab w 6 .u64 (tabZ bbAntiDiagonalsL)) (hkn : IntTab w 2 .u64 (tabZ bbKnightMovesL)) (hki : IntTab w 3 .u64 (tabZ bbKingMovesL)) (hA : IntSl w 1 .i8 allL) :
    Calls Tryz.prog 4 #[.agg (ints p)] w fun e w' => e = .returned (.bool true) ∧ Below w.heap.size w w' := by
  have hT : Tabs w := ⟨hki, hkn, hdi, han, hfi, hra⟩
  clear hfi hra hdi han hkn hki
  have hBW : Below w.heap.size w (w.alloc (.cells (ints p) 24)) := (Below.refl _ _).alloc (Nat.le_refl _) _
  have hrow0 : PosAt p w.heap.size (w.alloc (.cells (ints p) 24)) := heap_alloc_new w (.cells (ints p) 24)
  have hrow : (w.alloc (.cells (ints p) 24)).heap[w.heap.size]? = some (.cells (ints p) 24 (0, 0)) := hrow0
  have hTs := lay (hT.below hBW (Nat.le_refl _))
  have hAs := lay (hA.below hBW)
  have hR0 := lay hrow0
  have hrow0s := lay hrow0
  have hRt := lay (fun W => rt_right p hl W)
  have hBs := lay hBW
  clear hT hA hBW hrow0
  cases hask : askedB p with
  | false =>
    have hasks := lay hask
    clear hask
    go_enter Tryz.func4, Tryz.ntmps4
    go_wp2_with (first
      | ((with_reducible refine at_load_row hrow Tryz.underlying24 rfl ?_ ?_ ?_); (rw [ints_size, hl]; kernel_rfl); rfl)
      | (go_at_call 11; refine (hRt.out _).mono ?_; rintro e1 w1 ⟨rfl, hb1⟩; rw [hasks.out]))
    go_ret
    exact ⟨rfl, hBs.out.trans (hb1.mono hBs.out.size)⟩
  | true =>
    obtain ⟨tn, hs⟩ := valid_sound p hl (askedB_valid hask)
    have h68 := askedB_fu hask
    have hc67 := hrow0s.out.cell 67 (by omega)
    have hasks := lay hask
    by_cases hh : p.getD 67 0 ≤ 255
    · have hI := lay (fun (W : World) hT hA => mc_impl p tn hs hh (by omega) W hT hA)
      have hO := lay (fun (W : World) hT hA q cap hcap hby hql => mo_impl p tn hs hh (by omega) W hT hA q cap hcap hby hql)
      clear hask hs h68
      generalize p.getD 67 0 = ha at *
      go_enter Tryz.func4, Tryz.ntmps4
      go_wp2_with (first
        | ((with_reducible refine at_load_row hrow Tryz.underlying24 rfl ?_ ?_ ?_); (rw [ints_size, hl]; kernel_rfl); rfl))
      refine (hRt.out _).mono ?_
      rintro e1 w1 ⟨rfl, hb1⟩
      rw [hasks.out]
      have hrow1 : w1.heap[w.heap.size]? = some (.cells (ints p) 24 (0, 0)) := hR0.out.below hb1
      have c67 : w1.cell? ⟨w.heap.size, 67, none⟩ = some (.int .i64 ha) := (hb1.cell (p := ⟨w.heap.size, 67, none⟩) (by simp)).trans hc67
      have hi1 := lay (hI.out w1 (hTs.out.below hb1 (Nat.le_refl _)) (hAs.out.below hb1))
      have hT1 := lay (hTs.out.below hb1 (Nat.le_refl _))
      have hA1 := lay (hAs.out.below hb1)
      have hB1 := lay (hBs.out.trans (hb1.mono hBs.out.size))
      have hz1 : w.heap.size < w1.heap.size := (Array.getElem?_eq_some_iff.1 hrow1).1
      clear hb1 hrow hc67
      have hg : ¬ (255 < ha) := by omega
      go_wp2_with (first
        | ((with_reducible refine at_load_row hrow1 Tryz.underlying24 rfl ?_ ?_ ?_); (rw [ints_size, hl]; kernel_rfl); rfl))
      refine hi1.out.mono ?_
      rintro e2 w2 ⟨v, rfl, hown, hb2⟩
      obtain ⟨q, cap, rfl, hcap, hql, hby⟩ := ml_lies hown
      have hrow2 : w2.heap[w.heap.size]? = some (.cells (ints p) 24 (0, 0)) := (hb2.block _ hz1).trans hrow1
      have hB2 := lay (hB1.out.trans (hb2.mono hB1.out.size))
      have hz2 : w.heap.size < w2.heap.size := (Array.getElem?_eq_some_iff.1 hrow2).1
      have hi2 := lay (hO.out w2 (hT1.out.below hb2 (Nat.le_refl _)) (hA1.out.below hb2) q cap hcap hby hql)
      clear hb2 hrow1 hown hby c67
      have hEq : ∀ V, (Op.equalIn 10000 24 (.agg (ints p)) (.agg (ints p))).run Tryz.prog V = .ok true V := fun V => by
        rw [ep_eq p p hl hl V]; simp
      go_wp2_with fail
      refine hi2.out.mono ?_
      rintro e3 w3 ⟨rfl, hb3⟩
      have hrow3 : w3.heap[w.heap.size]? = some (.cells (ints p) 24 (0, 0)) := (hb3.block _ hz2).trans hrow2
      have hB3 := lay (hB2.out.trans (hb3.mono hB2.out.size))
      have hz3 : w.heap.size < w3.heap.size := (Array.getElem?_eq_some_iff.1 hrow3).1
      clear hb3 hrow2
      go_upto_region 5 with ((with_reducible refine at_new_row (ints p) ?_ ?_ ?_ ?_ ?_ ?_); (rw [ints_size, hl]; kernel_rfl); (rw [ints_size, hl]; kernel_rfl); exact ints_one _; rfl; rfl; intro W4 rG4 hC4)
      have hrow4 : W4.heap[w.heap.size]? = some (.cells (ints p) 24 (0, 0)) := (hC4.block _ hz3).trans hrow3
      have hB4 := lay (hB3.out.trans (hC4.mono hB3.out.size))
      clear hC4 hrow3
      go_wp2_with (first
        | ((with_reducible refine at_load_rowG rG4 Tryz.underlying24 rfl ?_ ?_ ?_ ?_); (rw [ints_size, hl]; kernel_rfl); rfl; rfl)
        | ((with_reducible refine at_load_rowG hrow4 Tryz.underlying24 rfl ?_ ?_ ?_ ?_); (rw [ints_size, hl]; kernel_rfl); rfl; rfl))
      go_ret
      exact ⟨rfl, hB4.out⟩
    · clear hask hs h68
      generalize p.getD 67 0 = ha at *
      go_enter Tryz.func4, Tryz.ntmps4
      go_wp2_with (first
        | ((with_reducible refine at_load_row hrow Tryz.underlying24 rfl ?_ ?_ ?_); (rw [ints_size, hl]; kernel_rfl); rfl))
      refine (hRt.out _).mono ?_
      rintro e1 w1 ⟨rfl, hb1⟩
      rw [hasks.out]
      have c67 : w1.cell? ⟨w.heap.size, 67, none⟩ = some (.int .i64 ha) := (hb1.cell (p := ⟨w.heap.size, 67, none⟩) (by simp)).trans hc67
      have hB1 := lay (hBs.out.trans (hb1.mono hBs.out.size))
      clear hb1 hrow hc67
      have hg : 255 < ha := by omega
      clear hh
      go_wp2_with fail
      go_ret
      exact ⟨rfl, hB1.out⟩
end Go.Proofs.YtplkcmlpomjojaaGreatDoor
