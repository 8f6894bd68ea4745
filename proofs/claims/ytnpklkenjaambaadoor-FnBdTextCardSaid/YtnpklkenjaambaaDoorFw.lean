/- FnBdText: impl.BoardRead, and the law. For every board; the tables hold what the program's text lays. -/
import Derived.Test.YtnpklkenjaambaaDoorFu
import Derived.Test.YtnpklkenjaambaaDoorBr
import Derived.Test.YtnpklkenjaambaaDoorBq
namespace Go.Proofs.YtnpklkenjaambaaDoor
open Go Go.RowKit
set_option maxHeartbeats 4000000
set_option linter.unusedSimpArgs false
set_option linter.unusedVariables false
set_option maxRecDepth 100000

theorem results_cell2 {P : Program} {fn : Func} {p q : Tmp} {ty tz : TypeId} (h : fn.results = #[.cell p ty, .cell q tz]) (tmps : Array Value) (w : World) (g : Nat) (t : TypeId) (cs : Array Value) (fr : Nat × Nat) (d dz : TypeDesc)
    (hp : tmps.getD p undef = .pointer (some ⟨g, 0, none⟩)) (hg : w.heap[g]? = some (.cells cs t fr))
    (hu : P.underlying ty = some d) (hd : (match d with | .struct _ | .array _ _ => true | _ => false) = true) (hi : (P.info? ty).map (·.size) = some cs.size) (g2 : Nat) (v : Value)
    (hq : tmps.getD q undef = .pointer (some ⟨g2, 0, none⟩)) (hv : w.cell? ⟨g2, 0, none⟩ = some v) (hz : P.underlying tz = some dz) (hdz : aggD dz = false) :
    (results fn tmps).run P w = .ok (.tuple #[.agg cs, v]) w := by
  have hp' : tmps[p]?.getD undef = .pointer (some ⟨g, 0, none⟩) := by simpa using hp
  have hq' : tmps[q]?.getD undef = .pointer (some ⟨g2, 0, none⟩) := by simpa using hq
  simp [results, h, hp', hq', asAddr, run_loadVar_row w g t ty cs fr d hg hu hd hi, load_one hz hdz hv]
theorem fw_idle (p q : Addr) (w : World) :
    CallsD Tryd.prog 25 #[.pointer (some p), .pointer (some q)] .returning w fun e u' w' => e = .returned (.tuple #[]) ∧ u' = .returning ∧ w = w' := by
  refine callsD_of_wpS Tryd.func25 rfl fun c₀ cs hu => ?_
  apply wpS_seq
  apply wpS_region
  simp [wpOpsS, go_sem, recoverD, hu, Tryd.ntmps25, Exit.thenS]
  refine wpS_cond (t := false) (by simp [Act.eval, Array.replicate]) ?_
  simp only [Bool.false_eq_true, if_false]
  refine wpS_of_wp (wp_skip ?_)
  cases c₀
  simp_all [bodyPostS, results, Tryd.results25]
def fwW (w : World) : World := ((w.alloc (.cells (ints (List.replicate 64 0)) 30)).alloc (.cells #[.bool false] 4)).alloc (.cells brd0 59)
theorem fwW_rows (w : World) : (fwW w).heap[w.heap.size]? = some (.cells (ints (List.replicate 64 0)) 30 (0, 0)) ∧ (fwW w).heap[w.heap.size + 1]? = some (.cells #[.bool false] 4 (0, 0)) ∧
    (fwW w).heap[w.heap.size + 1 + 1]? = some (.cells brd0 59 (0, 0)) ∧ Below w.heap.size w (fwW w) ∧ (fwW w).heap.size = w.heap.size + 3 := by
  refine ⟨heap_keep (heap_alloc2_old w _ _), heap_keep (heap_alloc2_new w _ _), heap_at _ _ _ (by simp), ?_, by simp [fwW]⟩
  exact (((Below.refl _ _).alloc (Nat.le_refl _) _).alloc (by simp) _).alloc (by simp; omega) _
def fwV (w : World) (T : List UInt8) (cap : Nat) (fr : Nat × Nat) : World := ((fwW w).alloc (.cells (bytesRow (bs T) cap) 5 fr)).drew
theorem fwV_rows (w : World) (T : List UInt8) (cap : Nat) (fr : Nat × Nat) : (fwV w T cap fr).heap[w.heap.size]? = some (.cells (ints (List.replicate 64 0)) 30 (0, 0)) ∧ (fwV w T cap fr).heap[w.heap.size + 1]? = some (.cells #[.bool false] 4 (0, 0)) ∧
    (fwV w T cap fr).heap[w.heap.size + 1 + 1]? = some (.cells brd0 59 (0, 0)) ∧ Below w.heap.size w (fwV w T cap fr) ∧ (fwV w T cap fr).heap.size = w.heap.size + 4 ∧ LiesT T (w.heap.size + 1 + 1 + 1) (fwV w T cap fr) := by
  obtain ⟨h0, h1, h2, h3, h4⟩ := fwW_rows w
  refine ⟨heap_keep h0, heap_keep h1, heap_keep h2, (h3.alloc h3.size _).trans ⟨rfl, rfl, rfl, Nat.le_refl _, fun _ _ => rfl⟩, ?_, ?_⟩
  · show ((fwW w).alloc _).heap.size = _
    simp [h4]
  · have := liesT_new (fwW w) T cap 5 fr
    rw [h4] at this
    exact this
theorem fw_read (p : List Int) (hp : Brd p) (w : World) (hA : IntSl w 1 .i8 allL) (hc : IntTab w 4 .i8 fcL) :
    Calls Tryd.prog 11 #[.string (bs (txBoard p))] w fun e' w' => e' = .returned (.tuple #[.agg (ints p), .bool true]) ∧ Below w.heap.size w w' := by
  have hmf := makeFunc_run Tryd.prog
  have hcv := fun W => run_bytes_of_string (P := Tryd.prog) W 9 49 5 (bs (txBoard p)) Tryd.underlying9 Tryd.underlying49 Tryd.underlying5
  rw [bs_size] at hcv
  go_enter_defers Tryd.func11, Tryd.ntmps11
  go_wp2_with fail
  generalize hcap : grownCap _ _ _ _ = cap0
  clear hcap hcv
  change Calls _ _ _ (fwV w (txBoard p) cap0 _) _
  generalize hfr : ((bytesRow (bs (txBoard p)) cap0).size, (bytesRow (bs (txBoard p)) cap0).size + 1) = fr
  clear hfr
  obtain ⟨hr0, hr1, hr2, hBW, hsz, hli⟩ := fwV_rows w (txBoard p) cap0 fr
  generalize fwV w (txBoard p) cap0 fr = W at *
  refine (fu_unmarshal p (brd_range hp) _ _ cap0 brd0 rfl W hr2 (by omega) hli (hA.below hBW) (hc.below hBW)).mono ?_
  rintro e1 w1 ⟨rfl, w2, hb2, rfl⟩
  have hg1 := setRow_heap w2 (w.heap.size + 1 + 1) brd0 (brd p) 59 (0, 0) ((hb2.block _ (by omega)).trans hr2)
  have r0 := (setRow_other w2 (w.heap.size + 1 + 1) w.heap.size (brd p) (by omega)).trans ((hb2.block w.heap.size (by omega)).trans hr0)
  have r1 := (setRow_other w2 (w.heap.size + 1 + 1) (w.heap.size + 1) (brd p) (by omega)).trans ((hb2.block (w.heap.size + 1) (by omega)).trans hr1)
  have hB1 := below_setRow' (hBW.trans (hb2.mono hBW.size)) (g := w.heap.size + 1 + 1) (by omega) (brd p)
  have hz1 : w.heap.size + 4 ≤ (w2.setRow (w.heap.size + 1 + 1) (brd p)).heap.size := by have := hb2.size; simp; omega
  generalize w2.setRow (w.heap.size + 1 + 1) (brd p) = w1 at *
  clear hr0 hr1 hr2 hb2 hli
  go_wp2_with fail
  refine (bq_plain p hp _ w1 (hA.below hB1) hg1).mono ?_
  rintro e3 w3 ⟨rfl, hb3⟩
  have r0 := (hb3.block _ (by omega)).trans r0
  have r1 := (hb3.block _ (by omega)).trans r1
  have hBw := hB1.trans (hb3.mono (by omega))
  have c2 : (w3.setRow w.heap.size (ints p)).cell? ⟨w.heap.size + 1, 0, none⟩ = some (.bool false) := cell_of_row _ _ 0 _ _ _ ((setRow_other _ _ _ _ (by omega)).trans r1)
  have f2 := frozen_of_row (w3.setRow w.heap.size (ints p)) (w.heap.size + 1) 0 _ _ ((setRow_other _ _ _ _ (by omega)).trans r1)
  have hhid := show Shut _ from And.intro r0 (And.intro r1 hBw)
  clear hb3 hg1 hB1
  go_wp2_with ((with_reducible refine at_store_row (ints p) r0 ?_ ?_ ?_ ?_ ?_ ?_); (rw [ints_size, hp.len]; kernel_rfl); (rw [ints_size, ints_size, hp.len, List.length_replicate]); exact ints_one _; rfl; rfl)
  refine leaves_cons (f := 25) (args := #[.pointer (some ⟨w.heap.size, 0, none⟩), .pointer (some ⟨w.heap.size + 1, 0, none⟩)]) (by simp) (by simp [go_sem]) ?_
  refine (fw_idle _ _ _).mono ?_
  rintro e u' w'' ⟨rfl, rfl, rfl⟩
  obtain ⟨r1, r2, hBw⟩ := hhid.out
  have s2 := (setRow_other w3 w.heap.size (w.heap.size + 1) (ints p) (by omega)).trans r2
  have t2 := heap_setCell_same _ (w.heap.size + 1) 0 _ _ (.bool true) s2
  have t1 := (heap_setCell_other (w3.setRow w.heap.size (ints p)) ⟨w.heap.size + 1, 0, none⟩ w.heap.size (.bool true) (by simp)).trans (setRow_heap w3 w.heap.size (ints (List.replicate 64 0)) (ints p) _ _ r1)
  exact ⟨_, results_cell2 rfl _ _ w.heap.size 30 (ints p) (0, 0) _ _ rfl t1 Tryd.underlying30 rfl (by rw [ints_size, hp.len]; kernel_rfl) (w.heap.size + 1) (.bool true) rfl (cell_of_row _ _ 0 _ _ _ t2) Tryd.underlying4 rfl, rfl, (below_setRow' hBw (by omega) _).setCell (p := ⟨w.heap.size + 1, 0, none⟩) (by first | (simp; done) | (simp; omega)) _⟩

theorem fw_law (b : List Int) (hl : b.length = 64) (w : World) (hA : IntSl w 1 .i8 allL) (hw : IntTab w 2 .u8 wPieceL) (hb : IntTab w 3 .u8 bPieceL) (hc : IntTab w 4 .i8 fcL) :
    Calls Tryd.prog 4 #[.agg (ints b)] w fun e' w' => e' = .returned (.bool true) ∧ Below w.heap.size w w' := by
  have hrow := heap_alloc_new w (.cells (ints b) 30)
  have hB0 : Below w.heap.size w (w.alloc (.cells (ints b) 30)) := (Below.refl _ _).alloc (Nat.le_refl _) _
  go_enter Tryd.func4, Tryd.ntmps4
  go_wp2_with (refine at_load_row hrow Tryd.underlying30 rfl ?_ rfl ?_; (rw [ints_size, hl]; kernel_rfl))
  refine (br_right b hl _).mono ?_
  rintro e1 w1 ⟨rfl, hb1⟩
  have r1 := (hb1.block _ (by simp)).trans hrow
  have hB1 := hB0.trans (hb1.mono hB0.size)
  clear hrow hB0
  cases hr : right b with
  | false =>
    go_wp2_with fail
    go_ret
    exact ⟨rfl, hB1⟩
  | true =>
    have hp := right_brd b hl hr
    go_wp2_with ((with_reducible refine at_load_row r1 Tryd.underlying30 rfl ?_ ?_ ?_); (rw [ints_size, hl]; kernel_rfl); rfl)
    refine (fu_text b hp w1 (hA.below hB1) (hw.below hB1) (hb.below hB1)).mono ?_
    rintro e2 w2 ⟨rfl, hb2⟩
    have r2 := (hb2.block _ (Array.getElem?_eq_some_iff.1 r1).1).trans r1
    have hB2 := hB1.trans (hb2.mono hB1.size)
    clear hb2 r1 hB1 hb1
    go_wp2_with fail
    refine (fw_read b hp w2 (hA.below hB2) (hc.below hB2)).mono ?_
    rintro e3 w3 ⟨rfl, hb3⟩
    have r3 := (hb3.block _ (Array.getElem?_eq_some_iff.1 r2).1).trans r2
    have hB3 := hB2.trans (hb3.mono hB2.size)
    clear r2 hB2 hb3
    have hFb := lay (fun V => fn_board b hl (brd_range hp) V)
    have hbq : ((bs (txBoard b)).toList == (bs (txBoard b)).toList) = true := beq_self_eq_true _
    obtain ⟨ii, hi, hz0, hz1, hz2⟩ := info_parts (show (Tryd.prog.info? 3).map (fun i => (i.zero, i.size, i.bytes)) = some (some (.int .i64 0), 1, 8) by kernel_rfl)
    have hEq : ∀ W, (Op.equalIn 10000 30 (.agg (ints b)) (.agg (ints b))).run Tryd.prog W = .ok true W := fun W => by
      have := eq_ints (P := Tryd.prog) Tryd.underlying30 hi (by kernel_rfl) (by kernel_rfl) b b hl hl W
      simpa using this
    clear hi hz0 hz1 hz2
    generalize txBoard b = T at *
    go_wp2_with (first
      | ((with_reducible refine at_new_row (ints b) ?_ ?_ ?_ ?_ ?_ ?_); (rw [ints_size, hl]; kernel_rfl); (rw [ints_size, hl]; kernel_rfl); exact ints_one _; rfl; rfl; intro W4 rG4 hC4; have rB4 := (hC4.block _ (Array.getElem?_eq_some_iff.1 r3).1).trans r3; have hB4 := hB3.trans (hC4.mono hB3.size))
      | ((with_reducible refine at_load_rowG rB4 Tryd.underlying30 rfl ?_ ?_ ?_ ?_); (rw [ints_size, hl]; kernel_rfl); rfl; rfl))
    refine (hFb.out _).mono ?_
    rintro e5 w5 ⟨rfl, hb5⟩
    have rG5 := (hb5.block _ (Array.getElem?_eq_some_iff.1 rG4).1).trans rG4
    have rB5 := (hb5.block _ (Array.getElem?_eq_some_iff.1 rB4).1).trans rB4
    have hB5 := hB4.trans (hb5.mono hB4.size)
    clear rG4 rB4 hb5 hB4 hFb hC4
    go_wp2_with (first
      | ((with_reducible refine at_load_rowG rG5 Tryd.underlying30 rfl ?_ ?_ ?_ ?_); (rw [ints_size, hl]; kernel_rfl); rfl; rfl)
      | ((with_reducible refine at_load_rowG rB5 Tryd.underlying30 rfl ?_ ?_ ?_ ?_); (rw [ints_size, hl]; kernel_rfl); rfl; rfl))
    go_ret
    exact ⟨rfl, hB5⟩
end Go.Proofs.YtnpklkenjaambaaDoor
