/- FnMvRead: impl.Read and the law. For every position. -/
import Derived.Test.YtplkcmlpomjojaaGreatDoorPm
import Derived.Test.YtplkcmlpomjojaaGreatDoorEp
namespace Go.Proofs.YtplkcmlpomjojaaGreatDoor
open Go Go.RowKit
set_option maxHeartbeats 8000000
set_option linter.unusedSimpArgs false
set_option linter.unusedVariables false
set_option maxRecDepth 100000

theorem rd_idle (p q : Addr) (w : World) :
    CallsD Tryz.prog 33 #[.pointer (some p), .pointer (some q)] .returning w fun e u' w' => e = .returned (.tuple #[]) ∧ u' = .returning ∧ w = w' := by
  refine callsD_of_wpS Tryz.func33 rfl fun c₀ cs hu => ?_
  apply wpS_seq
  apply wpS_region
  simp [wpOpsS, go_sem, recoverD, hu, Tryz.ntmps33, Exit.thenS]
  refine wpS_cond (t := false) (by simp [Act.eval, Array.replicate]) ?_
  simp only [Bool.false_eq_true, if_false]
  refine wpS_of_wp (wp_skip ?_)
  cases c₀
  simp_all [bodyPostS, results, Tryz.results33]
def pos0 : List Int := List.replicate 69 0
/-- A position as an argument, a variable for another one, and one of one cell behind them. -/
def rdW (w : World) (p : List Int) : World := ((w.alloc (.cells (ints p) 24)).alloc (.cells (ints pos0) 24)).alloc (.cells #[.bool false] 4)
theorem rdW_rows (w : World) (p : List Int) : PosAt p w.heap.size (rdW w p) ∧ PosAt pos0 (w.heap.size + 1) (rdW w p) ∧ (rdW w p).heap[w.heap.size + 1 + 1]? = some (.cells #[.bool false] 4 (0, 0)) ∧ Below w.heap.size w (rdW w p) ∧ (rdW w p).heap.size = w.heap.size + 3 := by
  refine ⟨heap_keep (heap_alloc2_old w _ _), heap_keep (heap_alloc2_new w _ _), heap_at _ _ _ (by simp), ?_, by simp [rdW]⟩
  exact (((Below.refl _ _).alloc (Nat.le_refl _) _).alloc (by simp) _).alloc (by simp; omega) _
theorem rd_results {fn : Func} {p q : Tmp} (h : fn.results = #[.cell p 24, .cell q 4]) (tmps : Array Value) (w : World) (l : List Int) (hl : l.length = 69) (g g2 : Nat) (b : Bool) (hp : tmps.getD p undef = .pointer (some ⟨g, 0, none⟩)) (hg : PosAt l g w)
    (hq : tmps.getD q undef = .pointer (some ⟨g2, 0, none⟩)) (hv : w.cell? ⟨g2, 0, none⟩ = some (.bool b)) : (results fn tmps).run Tryz.prog w = .ok (.tuple #[.agg (ints l), .bool b]) w := by
  have hp' : tmps[p]?.getD undef = .pointer (some ⟨g, 0, none⟩) := by simpa using hp
  have hq' : tmps[q]?.getD undef = .pointer (some ⟨g2, 0, none⟩) := by simpa using hq
  have hg' : w.heap[g]? = some (.cells (ints l) 24 (0, 0)) := hg
  simp [results, h, hp', hq', asAddr, run_loadVar_row w g 24 24 (ints l) (0, 0) _ hg' Tryz.underlying24 rfl (by rw [ints_size, hl]; kernel_rfl), load_one Tryz.underlying4 rfl hv]
theorem rd_impl (p : List Int) (tn : Nat) (hs : Sound p tn) (hh : p.getD 67 0 ≤ 1000000) (hf : p.getD 68 0 ≤ 1000000) (w : World) (hT : Tabs w) (hA : IntSl w 1 .i8 allL) :
    Calls Tryz.prog 12 #[.agg (ints p)] w fun e w' => e = .returned (.tuple #[.agg (ints p), .bool true]) ∧ Below w.heap.size w w' := by
  have hl := hs.pos.len
  have hmf := makeFunc_run Tryz.prog
  obtain ⟨hr0, hr1, hr2, hBW, hsz⟩ := rdW_rows w p
  have hr0' : (rdW w p).heap[w.heap.size]? = some (.cells (ints p) 24 (0, 0)) := hr0
  have hpz := lay (pz_position p tn hs hh hf (rdW w p) (hT.below hBW (Nat.le_refl _)) (hA.below hBW))
  have hpl := lay (fun (pg bg : Nat) (W : World) hE hA => pm_plain p tn hs pg bg W hE hA)
  have hAs := lay (hA.below hBW)
  have hr1s := lay hr1
  have hr2s := lay hr2
  have hBs := lay hBW
  clear hs hT hA hr1 hr2 hBW hr0
  go_enter_defers Tryz.func12, Tryz.ntmps12
  go_wp2_with (with_reducible refine at_load_row hr0' Tryz.underlying24 rfl ?_ rfl ?_; (rw [ints_size, hl]; kernel_rfl))
  change Calls _ _ _ (rdW w p) _
  generalize rdW w p = W at *
  refine hpz.out.mono ?_
  rintro e1 w1 ⟨v, rfl, pg, bg, rfl, hge, hE, hb1⟩
  have hP2 := lay (hpl.out pg bg w1 hE.cells (hAs.out.below hb1))
  have r1 := lay ((hb1.block (w.heap.size + 1) (by omega)).trans hr1s.out)
  have r2 := lay ((hb1.block (w.heap.size + 1 + 1) (by omega)).trans hr2s.out)
  have hB1 := lay (hBs.out.trans (hb1.mono hBs.out.size))
  have hsz1 := hb1.size
  clear hb1 hE hr0' hge
  go_wp2_with fail
  refine hP2.out.mono ?_
  rintro e2 w2 ⟨rfl, hb2⟩
  have q1 : w2.heap[w.heap.size + 1]? = some (.cells (ints pos0) 24 (0, 0)) := (hb2.block (w.heap.size + 1) (by omega)).trans r1.out
  have q2 := lay ((hb2.block (w.heap.size + 1 + 1) (by omega)).trans r2.out)
  have hB2 := lay (hB1.out.trans (hb2.mono hB1.out.size))
  clear hb2
  have s2 : (w2.setRow (w.heap.size + 1) (ints p)).heap[w.heap.size + 1 + 1]? = some (.cells #[.bool false] 4 (0, 0)) := (setRow_other w2 (w.heap.size + 1) (w.heap.size + 1 + 1) (ints p) (by omega)).trans q2.out
  have s1 : (w2.setRow (w.heap.size + 1) (ints p)).heap[w.heap.size + 1]? = some (.cells (ints p) 24 (0, 0)) := setRow_heap _ _ _ (ints p) _ _ q1
  have k0 : (w2.setRow (w.heap.size + 1) (ints p)).cell? ⟨w.heap.size + 1 + 1, 0, none⟩ = some (.bool false) := cell_of_row _ _ 0 _ _ _ s2
  have k1 := frozen_of_row (w2.setRow (w.heap.size + 1) (ints p)) (w.heap.size + 1 + 1) 0 _ _ s2
  have hB3 := lay (below_setRow' hB2.out (g := w.heap.size + 1) (by omega) (ints p))
  have s1s := lay s1
  have s2s := lay s2
  have l0 : pos0.length = 69 := by simp [pos0]
  clear s1 s2
  go_wp2_with ((with_reducible refine at_store_row (ints p) q1 ?_ ?_ ?_ ?_ ?_ ?_); (rw [ints_size, hl]; kernel_rfl); (rw [ints_size, ints_size, hl, l0]); exact ints_one p; rfl; rfl)
  refine leaves_cons (f := 33) (args := #[.pointer (some ⟨w.heap.size + 1, 0, none⟩), .pointer (some ⟨w.heap.size + 1 + 1, 0, none⟩)]) (by simp) (by simp [go_sem]) ?_
  refine (rd_idle _ _ _).mono ?_
  rintro e u' w'' ⟨rfl, rfl, rfl⟩
  have t1 : PosAt p (w.heap.size + 1) ((w2.setRow (w.heap.size + 1) (ints p)).setCell ⟨w.heap.size + 1 + 1, 0, none⟩ (.bool true)) := (heap_setCell_other _ _ _ _ (by show w.heap.size + 1 ≠ w.heap.size + 1 + 1; omega)).trans s1s.out
  have t2 : ((w2.setRow (w.heap.size + 1) (ints p)).setCell ⟨w.heap.size + 1 + 1, 0, none⟩ (.bool true)).cell? ⟨w.heap.size + 1 + 1, 0, none⟩ = some (.bool true) := cell_of_row _ _ 0 _ _ _ (heap_setCell_same _ _ 0 _ _ (.bool true) s2s.out)
  exact ⟨_, rd_results rfl _ _ p hl (w.heap.size + 1) (w.heap.size + 1 + 1) true rfl t1 rfl t2, rfl, hB3.out.setCell (p := ⟨w.heap.size + 1 + 1, 0, none⟩) (by show w.heap.size ≤ w.heap.size + 1 + 1; omega) _⟩
theorem rd_law (p : List Int) (hl : p.length = 69) (w : World) (hfi : IntTab w 8 .u64 (tabZ bbFilesL)) (hra : IntTab w 7 .u64 (tabZ bbRanksL)) (hdi : IntTab w 5 .u64 (tabZ bbDiagonalsL)) (han : IntTab w 6 .u64 (tabZ bbAntiDiagonalsL)) (hkn : IntTab w 2 .u64 (tabZ bbKnightMovesL)) (hki : IntTab w 3 .u64 (tabZ bbKingMovesL)) (hA : IntSl w 1 .i8 allL) :
    Calls Tryz.prog 3 #[.agg (ints p)] w fun e w' => e = .returned (.bool true) ∧ Below w.heap.size w w' := by
  have hT : Tabs w := ⟨hki, hkn, hdi, han, hfi, hra⟩
  clear hfi hra hdi han hkn hki
  have hBW : Below w.heap.size w (w.alloc (.cells (ints p) 24)) := (Below.refl _ _).alloc (Nat.le_refl _) _
  have hrow0 : PosAt p w.heap.size (w.alloc (.cells (ints p) 24)) := heap_alloc_new w (.cells (ints p) 24)
  have hrow : (w.alloc (.cells (ints p) 24)).heap[w.heap.size]? = some (.cells (ints p) 24 (0, 0)) := hrow0
  have hTs := lay (hT.below hBW (Nat.le_refl _))
  have hAs := lay (hA.below hBW)
  have hR0 := lay hrow0
  have hRt := lay (fun W => rt_right p hl W)
  have hBs := lay hBW
  clear hT hA hBW hrow0
  cases hask : askedB p with
  | false =>
    have hasks := lay hask
    clear hask
    go_enter Tryz.func3, Tryz.ntmps3
    go_wp2_with (first
      | ((with_reducible refine at_load_row hrow Tryz.underlying24 rfl ?_ ?_ ?_); (rw [ints_size, hl]; kernel_rfl); rfl)
      | (go_at_call 11; refine (hRt.out _).mono ?_; rintro e1 w1 ⟨rfl, hb1⟩; rw [hasks.out]))
    go_ret
    exact ⟨rfl, hBs.out.trans (hb1.mono hBs.out.size)⟩
  | true =>
    obtain ⟨tn, hs⟩ := valid_sound p hl (askedB_valid hask)
    have h67 := askedB_hf hask
    have h68 := askedB_fu hask
    have hasks := lay hask
    have hI := lay (fun (W : World) hT hA => rd_impl p tn hs (by omega) (by omega) W hT hA)
    clear hask hs h67 h68
    go_enter Tryz.func3, Tryz.ntmps3
    go_wp2_with (first
      | ((with_reducible refine at_load_row hrow Tryz.underlying24 rfl ?_ ?_ ?_); (rw [ints_size, hl]; kernel_rfl); rfl))
    refine (hRt.out _).mono ?_
    rintro e1 w1 ⟨rfl, hb1⟩
    rw [hasks.out]
    have hrow1 : w1.heap[w.heap.size]? = some (.cells (ints p) 24 (0, 0)) := hR0.out.below hb1
    have hi1 := lay (hI.out w1 (hTs.out.below hb1 (Nat.le_refl _)) (hAs.out.below hb1))
    have hB1 := lay (hBs.out.trans (hb1.mono hBs.out.size))
    have hz1 : w.heap.size < w1.heap.size := (Array.getElem?_eq_some_iff.1 hrow1).1
    clear hb1 hrow
    go_wp2_with (first
      | ((with_reducible refine at_load_row hrow1 Tryz.underlying24 rfl ?_ ?_ ?_); (rw [ints_size, hl]; kernel_rfl); rfl))
    refine hi1.out.mono ?_
    rintro e2 w2 ⟨rfl, hb2⟩
    have hrow2 : w2.heap[w.heap.size]? = some (.cells (ints p) 24 (0, 0)) := (hb2.block _ hz1).trans hrow1
    have hB2 := lay (hB1.out.trans (hb2.mono hB1.out.size))
    have hz2 : w.heap.size < w2.heap.size := (Array.getElem?_eq_some_iff.1 hrow2).1
    clear hb2 hrow1
    have hEq : ∀ V, (Op.equalIn 10000 24 (.agg (ints p)) (.agg (ints p))).run Tryz.prog V = .ok true V := fun V => by
      rw [ep_eq p p hl hl V]; simp
    go_upto_region 4 with ((with_reducible refine at_new_row (ints p) ?_ ?_ ?_ ?_ ?_ ?_); (rw [ints_size, hl]; kernel_rfl); (rw [ints_size, hl]; kernel_rfl); exact ints_one _; rfl; rfl; intro W4 rG4 hC4)
    have hrow4 : W4.heap[w.heap.size]? = some (.cells (ints p) 24 (0, 0)) := (hC4.block _ hz2).trans hrow2
    have hB4 := lay (hB2.out.trans (hC4.mono hB2.out.size))
    clear hC4 hrow2
    go_wp2_with (first
      | ((with_reducible refine at_load_rowG rG4 Tryz.underlying24 rfl ?_ ?_ ?_ ?_); (rw [ints_size, hl]; kernel_rfl); rfl; rfl)
      | ((with_reducible refine at_load_rowG hrow4 Tryz.underlying24 rfl ?_ ?_ ?_ ?_); (rw [ints_size, hl]; kernel_rfl); rfl; rfl))
    go_ret
    exact ⟨rfl, hB4.out⟩
end Go.Proofs.YtplkcmlpomjojaaGreatDoor
