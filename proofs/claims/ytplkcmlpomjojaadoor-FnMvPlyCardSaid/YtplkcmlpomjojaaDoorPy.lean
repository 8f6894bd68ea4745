/- FnMvPly: impl.Ply and the law. For every position. -/
import Derived.Test.YtplkcmlpomjojaaDoorPz
import Derived.Test.YtplkcmlpomjojaaDoorRt
namespace Go.Proofs.YtplkcmlpomjojaaDoor
open Go Go.RowKit
set_option maxHeartbeats 4000000
set_option linter.unusedSimpArgs false
set_option linter.unusedVariables false
set_option maxRecDepth 100000

theorem py_idle (p q : Addr) (w : World) :
    CallsD Tryd.prog 20 #[.pointer (some p), .pointer (some q)] .returning w fun e u' w' => e = .returned (.tuple #[]) ∧ u' = .returning ∧ w = w' := by
  refine callsD_of_wpS Tryd.func20 rfl fun c₀ cs hu => ?_
  apply wpS_seq
  apply wpS_region
  simp [wpOpsS, go_sem, recoverD, hu, Tryd.ntmps20, Exit.thenS]
  refine wpS_cond (t := false) (by simp [Act.eval, Array.replicate]) ?_
  simp only [Bool.false_eq_true, if_false]
  refine wpS_of_wp (wp_skip ?_)
  cases c₀
  simp_all [bodyPostS, results, Tryd.results20]
/-- A position as an argument, and two variables of one cell behind it. -/
def pyW (w : World) (p : List Int) (x y : Value) (tx ty : TypeId) : World := ((w.alloc (.cells (ints p) 24)).alloc (.cells #[x] tx)).alloc (.cells #[y] ty)
theorem pyW_rows (w : World) (p : List Int) (x y : Value) (tx ty : TypeId) : PosAt p w.heap.size (pyW w p x y tx ty) ∧ (pyW w p x y tx ty).heap[w.heap.size + 1]? = some (.cells #[x] tx (0, 0)) ∧
    (pyW w p x y tx ty).heap[w.heap.size + 1 + 1]? = some (.cells #[y] ty (0, 0)) ∧ Below w.heap.size w (pyW w p x y tx ty) ∧ (pyW w p x y tx ty).heap.size = w.heap.size + 3 := by
  refine ⟨heap_keep (heap_alloc2_old w _ _), heap_keep (heap_alloc2_new w _ _), heap_at _ _ _ (by simp), ?_, by simp [pyW]⟩
  exact (((Below.refl _ _).alloc (Nat.le_refl _) _).alloc (by simp) _).alloc (by simp; omega) _
theorem py_impl (p : List Int) (tn : Nat) (hs : Sound p tn) (hh : p.getD 67 0 ≤ 1000000) (hf : p.getD 68 0 ≤ 1000000) (w : World) (hT : Tabs w) (hA : IntSl w 6 .i8 allL) :
    Calls Tryd.prog 9 #[.agg (ints p)] w fun e w' => e = .returned (.tuple #[.int .i64 (2 * p.getD 68 0 - 1 + tn), .bool true]) ∧ Below w.heap.size w w' := by
  have hl := hs.pos.len
  have hmf := makeFunc_run Tryd.prog
  obtain ⟨hr0, hr1, hr2, hBW, hsz⟩ := pyW_rows w p (.int .i64 0) (.bool false) 3 4
  have hr0' : (pyW w p (.int .i64 0) (.bool false) 3 4).heap[w.heap.size]? = some (.cells (ints p) 24 (0, 0)) := hr0
  have hpz := lay (pz_position p tn hs hh hf (pyW w p (.int .i64 0) (.bool false) 3 4) (hT.below hBW (Nat.le_refl _)) (hA.below hBW))
  have htn := hs.one
  have hfu := hs.fu
  have hpl := lay (fun (pg : Nat) (w : World) c4 c5 => pl_ply pg tn htn (p.getD 68 0) hfu hf w c4 c5)
  have hss := lay hs
  clear hs hT hA
  generalize hfd : p.getD 68 0 = fu at *
  have hfs := lay hfd
  clear hfd
  go_enter_defers Tryd.func9, Tryd.ntmps9
  go_wp2_with (with_reducible refine at_load_row hr0' Tryd.underlying24 rfl ?_ rfl ?_; (rw [ints_size, hl]; kernel_rfl))
  change Calls _ _ _ (pyW w p (.int .i64 0) (.bool false) 3 4) _
  generalize pyW w p (.int .i64 0) (.bool false) 3 4 = W at *
  refine hpz.out.mono ?_
  rintro e1 w1 ⟨v, rfl, pg, bg, rfl, hge, hE, hb1⟩
  have c4 : w1.cell? ⟨pg, 4, none⟩ = some (.int .i64 (p.getD 68 0)) := cell_of_row w1 pg 4 _ _ _ hE.ps
  have c5 : w1.cell? ⟨pg, 5, none⟩ = some (.int .i8 ((tn : Int) + 1)) := cell_of_row w1 pg 5 _ _ _ hE.ps
  rw [hfs.out] at c4
  have r1 := (hb1.block (w.heap.size + 1) (by omega)).trans hr1
  have r2 := (hb1.block (w.heap.size + 1 + 1) (by omega)).trans hr2
  have hBw := hBW.trans (hb1.mono hBW.size)
  have k0 : w1.cell? ⟨w.heap.size + 1, 0, none⟩ = some (.int .i64 0) := cell_of_row w1 _ 0 _ _ _ r1
  have k1 : w1.cell? ⟨w.heap.size + 1 + 1, 0, none⟩ = some (.bool false) := cell_of_row w1 _ 0 _ _ _ r2
  have k2 := frozen_of_row w1 (w.heap.size + 1) 0 _ _ r1
  have k3 := frozen_of_row w1 (w.heap.size + 1 + 1) 0 _ _ r2
  have hBs := lay hBw
  clear hr0 hr0' hr1 hr2 r1 r2 hb1 hE hBw hBW hsz hge
  go_wp2_with (first | (go_at_call 21; refine (hpl.out pg _ c4 c5).mono ?_; rintro e2 w2 ⟨rfl, rfl⟩))
  refine leaves_cons (f := 20) (args := #[.pointer (some ⟨w.heap.size + 1, 0, none⟩), .pointer (some ⟨w.heap.size + 1 + 1, 0, none⟩)]) (by simp) (by simp [go_sem]) ?_
  refine (py_idle _ _ _).mono ?_
  rintro e u' w'' ⟨rfl, rfl, rfl⟩
  simp [Leaves, settle, results, Tryd.results9, go_sem, k0, k1]
  exact (hBs.out.setCell (p := ⟨w.heap.size + 1, 0, none⟩) (by simp) _).setCell (p := ⟨w.heap.size + 1 + 1, 0, none⟩) (by first | (simp; done) | (simp; omega)) _
theorem py_law (p : List Int) (hl : p.length = 69) (w : World) (hfi : IntTab w 5 .u64 (tabZ bbFilesL)) (hra : IntTab w 4 .u64 (tabZ bbRanksL)) (hdi : IntTab w 2 .u64 (tabZ bbDiagonalsL)) (han : IntTab w 3 .u64 (tabZ bbAntiDiagonalsL)) (hkn : IntTab w 0 .u64 (tabZ bbKnightMovesL)) (hki : IntTab w 1 .u64 (tabZ bbKingMovesL)) (hA : IntSl w 6 .i8 allL) :
    Calls Tryd.prog 4 #[.agg (ints p)] w fun e w' => e = .returned (.bool true) ∧ Below w.heap.size w w' := by
  have hT : Tabs w := ⟨hki, hkn, hdi, han, hfi, hra⟩
  clear hfi hra hdi han hkn hki
  have hBW : Below w.heap.size w (w.alloc (.cells (ints p) 24)) := (Below.refl _ _).alloc (Nat.le_refl _) _
  have hrow0 : PosAt p w.heap.size (w.alloc (.cells (ints p) 24)) := heap_alloc_new w (.cells (ints p) 24)
  have hrow : (w.alloc (.cells (ints p) 24)).heap[w.heap.size]? = some (.cells (ints p) 24 (0, 0)) := hrow0
  have hTs := lay (hT.below hBW (Nat.le_refl _))
  have hAs := lay (hA.below hBW)
  have hR0 := lay hrow0
  have hRt := lay (fun W => rt_right p hl W)
  have hBs := lay hBW
  clear hT hA hBW hrow0
  cases hask : askedB p with
  | false =>
    have hasks := lay hask
    clear hask
    go_enter Tryd.func4, Tryd.ntmps4
    go_wp2_with (first
      | ((with_reducible refine at_load_row hrow Tryd.underlying24 rfl ?_ ?_ ?_); (rw [ints_size, hl]; kernel_rfl); rfl)
      | (go_at_call 6; refine (hRt.out _).mono ?_; rintro e1 w1 ⟨rfl, hb1⟩; rw [hasks.out]))
    go_ret
    exact ⟨rfl, hBs.out.trans (hb1.mono hBs.out.size)⟩
  | true =>
    obtain ⟨tn, hs⟩ := valid_sound p hl (askedB_valid hask)
    have h67 := askedB_hf hask
    have h68 := askedB_fu hask
    have hasks := lay hask
    have hfu := hs.fu
    have hone := hs.one
    have hI := lay (fun (W : World) hT hA => py_impl p tn hs (by omega) (by omega) W hT hA)
    have c68 := lay (fun (V : World) (hV : PosAt p w.heap.size V) => hV.cell 68 (by omega))
    have c64 := lay (fun (V : World) (hV : PosAt p w.heap.size V) => (hV.cell 64 (by omega)).trans (by rw [hs.turn]))
    clear hask hs h67
    generalize hfd : p.getD 68 0 = fu at *
    have hfs := lay hfd
    clear hfd
    go_enter Tryd.func4, Tryd.ntmps4
    go_wp2_with (first
      | ((with_reducible refine at_load_row hrow Tryd.underlying24 rfl ?_ ?_ ?_); (rw [ints_size, hl]; kernel_rfl); rfl))
    refine (hRt.out _).mono ?_
    rintro e1 w1 ⟨rfl, hb1⟩
    rw [hasks.out]
    have hR1 : PosAt p w.heap.size w1 := hR0.out.below hb1
    have hrow1 : w1.heap[w.heap.size]? = some (.cells (ints p) 24 (0, 0)) := hR1
    have hi1 := lay (hI.out w1 (hTs.out.below hb1 (Nat.le_refl _)) (hAs.out.below hb1))
    have hB1 := lay (hBs.out.trans (hb1.mono hBs.out.size))
    have hR1s := lay hR1
    clear hb1 hrow hR1
    go_wp2_with (first
      | ((with_reducible refine at_load_row hrow1 Tryd.underlying24 rfl ?_ ?_ ?_); (rw [ints_size, hl]; kernel_rfl); rfl))
    refine hi1.out.mono ?_
    rintro e2 w2 ⟨rfl, hb2⟩
    have hR2 : PosAt p w.heap.size w2 := hR1s.out.below hb2
    have k68 := c68.out w2 hR2
    have k64 := c64.out w2 hR2
    have hB2 := lay (hB1.out.trans (hb2.mono hB1.out.size))
    clear hb2 hrow1 hR2
    go_wp2_with fail
    go_ret
    exact ⟨rfl, hB2.out⟩
end Go.Proofs.YtplkcmlpomjojaaDoor
