/- FnBdSquares: the thin package's Squares and Kings. -/
import Derived.Test.YtndnmepapmnnlaaDoorBr
namespace Go.Proofs.YtndnmepapmnnlaaDoor
open Go Go.RowKit
set_option maxHeartbeats 2000000
set_option linter.unusedSimpArgs false
set_option linter.unusedVariables false
set_option maxRecDepth 100000

theorem bs_idle (p q r : Addr) (w : World) :
    CallsD Tryd.prog 20 #[.pointer (some p), .pointer (some q), .pointer (some r)] .returning w fun e u' w' => e = .returned (.tuple #[]) ∧ u' = .returning ∧ w = w' := by
  refine callsD_of_wpS Tryd.func20 rfl fun c₀ cs hu => ?_
  apply wpS_seq
  apply wpS_region
  simp [wpOpsS, go_sem, recoverD, hu, Tryd.ntmps20, Exit.thenS]
  refine wpS_cond (t := false) (by simp [Act.eval, Array.replicate]) ?_
  simp only [Bool.false_eq_true, if_false]
  refine wpS_of_wp (wp_skip ?_)
  cases c₀
  simp_all [bodyPostS, results, Tryd.results20]
theorem bk_idle (p q r : Addr) (w : World) :
    CallsD Tryd.prog 25 #[.pointer (some p), .pointer (some q), .pointer (some r)] .returning w fun e u' w' => e = .returned (.tuple #[]) ∧ u' = .returning ∧ w = w' := by
  refine callsD_of_wpS Tryd.func25 rfl fun c₀ cs hu => ?_
  apply wpS_seq
  apply wpS_region
  simp [wpOpsS, go_sem, recoverD, hu, Tryd.ntmps25, Exit.thenS]
  refine wpS_cond (t := false) (by simp [Act.eval, Array.replicate]) ?_
  simp only [Bool.false_eq_true, if_false]
  refine wpS_of_wp (wp_skip ?_)
  cases c₀
  simp_all [bodyPostS, results, Tryd.results25]
/-- Where the kings stand. -/
theorem bs_door (p : List Int) (g : Nat) (w : World) (hg : w.heap[g]? = some (.cells (brd p) 64 (0, 0))) :
    Calls Tryd.prog 26 #[.pointer (some ⟨g, 0, none⟩)] w fun e' w' => e' = .returned (.tuple #[.int .i8 (lastK p 1 64), .int .i8 (lastK p 7 64)]) ∧ Below w.heap.size w w' := by
  have c15 : w.cell? ⟨g, 15, none⟩ = some (.int .i8 (lastK p 1 64)) := cell_of_row w g 15 _ _ _ hg
  have c16 : w.cell? ⟨g, 16, none⟩ = some (.int .i8 (lastK p 7 64)) := cell_of_row w g 16 _ _ _ hg
  clear hg
  generalize h1 : lastK p 1 64 = x at *
  generalize h7 : lastK p 7 64 = y at *
  go_enter Tryd.func26, Tryd.ntmps26
  go_wp2_with fail
  go_quiet (fail)
  go_wp2
  go_ret2
  exact ⟨rfl, drewN_below w _⟩
theorem lastK_ge (p : List Int) (k : Int) : ∀ n, -1 ≤ lastK p k n ∧ lastK p k n < n
  | 0 => by simp [lastK]
  | n + 1 => by
    have := lastK_ge p k n
    rw [lastK]
    split <;> omega
def aggD : TypeDesc → Bool
  | .struct _ | .array _ _ => true
  | _ => false
theorem load_one {P : Program} {w : World} {t : TypeId} {d : TypeDesc} (h1 : P.underlying t = some d) (h2 : aggD d = false) {a : Addr} {v : Value} (h3 : w.cell? a = some v) : (loadVar t a).run P w = .ok v w := by
  have hagg : (isAgg t).run P w = .ok false w := by
    unfold isAgg
    rw [Sem.run_bind, run_underlying h1 w]
    cases d <;> simp_all [aggD]
  simp [loadVar, hagg, run_load, h3]
/-- Three results: a variable of many cells, and two of one. -/
theorem results_cell3 {P : Program} {fn : Func} {p q r : Tmp} {ty tz tr : TypeId} (h : fn.results = #[.cell p ty, .cell q tz, .cell r tr]) (tmps : Array Value) (w : World) (g : Nat) (t : TypeId) (cs : Array Value) (fr : Nat × Nat) (d dz dr : TypeDesc)
    (hp : tmps.getD p undef = .pointer (some ⟨g, 0, none⟩)) (hg : w.heap[g]? = some (.cells cs t fr))
    (hu : P.underlying ty = some d) (hd : (match d with | .struct _ | .array _ _ => true | _ => false) = true) (hi : (P.info? ty).map (·.size) = some cs.size) (g2 : Nat) (v : Value)
    (hq : tmps.getD q undef = .pointer (some ⟨g2, 0, none⟩)) (hv : w.cell? ⟨g2, 0, none⟩ = some v) (hz : P.underlying tz = some dz) (hdz : aggD dz = false)
    (g3 : Nat) (u : Value) (hr : tmps.getD r undef = .pointer (some ⟨g3, 0, none⟩)) (hw : w.cell? ⟨g3, 0, none⟩ = some u) (hzr : P.underlying tr = some dr) (hdr : aggD dr = false) :
    (results fn tmps).run P w = .ok (.tuple #[.agg cs, v, u]) w := by
  have hp' : tmps[p]?.getD undef = .pointer (some ⟨g, 0, none⟩) := by simpa using hp
  have hq' : tmps[q]?.getD undef = .pointer (some ⟨g2, 0, none⟩) := by simpa using hq
  have hr' : tmps[r]?.getD undef = .pointer (some ⟨g3, 0, none⟩) := by simpa using hr
  simp [results, h, hp', hq', hr', asAddr, run_loadVar_row w g t ty cs fr d hg hu hd hi, load_one hz hdz hv, load_one hzr hdr hw]
theorem results_one3 {P : Program} {fn : Func} {p q r : Tmp} {ty tz tr : TypeId} (h : fn.results = #[.cell p ty, .cell q tz, .cell r tr]) (tmps : Array Value) (w : World) (d dz dr : TypeDesc)
    (g : Nat) (x : Value) (hp : tmps.getD p undef = .pointer (some ⟨g, 0, none⟩)) (hx : w.cell? ⟨g, 0, none⟩ = some x) (hu : P.underlying ty = some d) (hd : aggD d = false) (g2 : Nat) (v : Value)
    (hq : tmps.getD q undef = .pointer (some ⟨g2, 0, none⟩)) (hv : w.cell? ⟨g2, 0, none⟩ = some v) (hz : P.underlying tz = some dz) (hdz : aggD dz = false)
    (g3 : Nat) (u : Value) (hr : tmps.getD r undef = .pointer (some ⟨g3, 0, none⟩)) (hw : w.cell? ⟨g3, 0, none⟩ = some u) (hzr : P.underlying tr = some dr) (hdr : aggD dr = false) :
    (results fn tmps).run P w = .ok (.tuple #[x, v, u]) w := by
  have hp' : tmps[p]?.getD undef = .pointer (some ⟨g, 0, none⟩) := by simpa using hp
  have hq' : tmps[q]?.getD undef = .pointer (some ⟨g2, 0, none⟩) := by simpa using hq
  have hr' : tmps[r]?.getD undef = .pointer (some ⟨g3, 0, none⟩) := by simpa using hr
  simp [results, h, hp', hq', hr', asAddr, load_one hu hd hx, load_one hz hdz hv, load_one hzr hdr hw]
theorem heap_keep {w : World} {o o' : Obj} {g : Nat} (h : w.heap[g]? = some o) : (w.alloc o').heap[g]? = some o := (heap_alloc_old _ _ (Array.getElem?_eq_some_iff.1 h).1).trans h
/-- The call's own variables: the argument, and three results. -/
def sqW (w : World) (p : List Int) : World := (((w.alloc (.cells (ints p) 22)).alloc (.cells (ints (List.replicate 64 0)) 22)).alloc (.cells #[.int .i64 0] 3)).alloc (.cells #[.bool false] 4)
theorem heap_at (w : World) (o : Obj) (k : Nat) (hk : k = w.heap.size) : (w.alloc o).heap[k]? = some o := by subst hk; exact heap_alloc_new w o
theorem sqW_rows (w : World) (p : List Int) : (sqW w p).heap[w.heap.size]? = some (.cells (ints p) 22 (0, 0)) ∧ (sqW w p).heap[w.heap.size + 1]? = some (.cells (ints (List.replicate 64 0)) 22 (0, 0)) ∧
    (sqW w p).heap[w.heap.size + 1 + 1]? = some (.cells #[.int .i64 0] 3 (0, 0)) ∧ (sqW w p).heap[w.heap.size + 1 + 1 + 1]? = some (.cells #[.bool false] 4 (0, 0)) ∧ Below w.heap.size w (sqW w p) ∧ (sqW w p).heap.size = w.heap.size + 4 := by
  refine ⟨heap_keep (heap_keep (heap_alloc2_old w _ _)), heap_keep (heap_keep (heap_alloc2_new w _ _)), heap_keep (heap_at _ _ _ (by simp)), heap_at _ _ _ (by simp), ?_, by simp [sqW]⟩
  exact ((((Below.refl _ _).alloc (Nat.le_refl _) _).alloc (by simp) _).alloc (by simp; omega) _).alloc (by simp; omega) _
theorem bs_squares (p : List Int) (hp : Brd p) (w : World) (hA : IntSl w 1 .i8 allL) :
    Calls Tryd.prog 8 #[.agg (ints p)] w fun e' w' => e' = .returned (.tuple #[.agg (ints p), .int .i64 (men p 64 : Nat), .bool true]) ∧ Below w.heap.size w w' := by
  have hmf := makeFunc_run Tryd.prog
  obtain ⟨hr0, hr1, hr2, hr3, hBW, hsz⟩ := sqW_rows w p
  go_enter_defers Tryd.func8, Tryd.ntmps8
  go_wp2_with (refine at_load_row hr0 Tryd.underlying22 rfl ?_ rfl ?_; (rw [ints_size, hp.len]; kernel_rfl))
  change Calls _ _ _ (sqW w p) _
  generalize sqW w p = W at *
  refine (bp_board p hp W (hA.below hBW)).mono ?_
  rintro e1 w1 ⟨g, rfl, hge, hg1, hb1⟩
  have hA1 := (hA.below hBW).below hb1
  go_wp2_with (go_at_call 22; refine (bq_plain p hp g _ hA1 hg1).mono ?_; rintro e2 w2 ⟨rfl, hb2⟩)
  have hg2 := (hb2.block g (Array.getElem?_eq_some_iff.1 hg1).1).trans hg1
  refine (bq_map p hp g w2 (hA1.below hb2) hg2).mono ?_
  rintro e3 w3 ⟨b, rfl, hbb, him, hb3⟩
  have hln := fun t => imap_len (P := Tryd.prog) (T := 48) (K := 52) (E := 67) (by kernel_rfl) him t
  have hB3 : Below W.heap.size W w3 := (hb1.trans (hb2.mono hb1.size)).trans (hb3.mono (Nat.le_trans hb1.size hb2.size))
  have r1 := (hB3.block (w.heap.size + 1) (by omega)).trans hr1
  have r2 := (hB3.block (w.heap.size + 1 + 1) (by omega)).trans hr2
  have r3 := (hB3.block (w.heap.size + 1 + 1 + 1) (by omega)).trans hr3
  have hBw := hBW.trans (hB3.mono hBW.size)
  have c2 : (w3.setRow (w.heap.size + 1) (ints p)).cell? ⟨w.heap.size + 1 + 1, 0, none⟩ = some (.int .i64 0) := cell_of_row _ _ 0 _ _ _ ((setRow_other _ _ _ _ (by omega)).trans r2)
  have f2 := frozen_of_row (w3.setRow (w.heap.size + 1) (ints p)) (w.heap.size + 1 + 1) 0 _ _ ((setRow_other _ _ _ _ (by omega)).trans r2)
  have c3 : (w3.setRow (w.heap.size + 1) (ints p)).cell? ⟨w.heap.size + 1 + 1 + 1, 0, none⟩ = some (.bool false) := cell_of_row _ _ 0 _ _ _ ((setRow_other _ _ _ _ (by omega)).trans r3)
  have f3 := frozen_of_row (w3.setRow (w.heap.size + 1) (ints p)) (w.heap.size + 1 + 1 + 1) 0 _ _ ((setRow_other _ _ _ _ (by omega)).trans r3)
  have hhid := show Shut _ from And.intro r1 (And.intro r2 (And.intro r3 hBw))
  clear hr0 hr1 hr2 hr3 hb1 hb2 hb3 hg1 hg2 him r2 r3 hB3 hA1
  go_wp2_with (refine at_store_row (ints p) r1 ?_ ?_ ?_ ?_ ?_ ?_; (rw [ints_size, hp.len]; kernel_rfl); (rw [ints_size, ints_size, hp.len, List.length_replicate]); exact ints_one p; rfl; rfl)
  refine leaves_cons (f := 20) (args := #[.pointer (some ⟨w.heap.size + 1, 0, none⟩), .pointer (some ⟨w.heap.size + 1 + 1, 0, none⟩), .pointer (some ⟨w.heap.size + 1 + 1 + 1, 0, none⟩)]) (by simp) (by simp [go_sem]) ?_
  refine (bs_idle _ _ _ _).mono ?_
  rintro e u' w'' ⟨rfl, rfl, rfl⟩
  obtain ⟨r1, r2, r3, hBw⟩ := hhid.out
  have s2 := (setRow_other w3 (w.heap.size + 1) (w.heap.size + 1 + 1) (ints p) (by omega)).trans r2
  have s3 := (setRow_other w3 (w.heap.size + 1) (w.heap.size + 1 + 1 + 1) (ints p) (by omega)).trans r3
  have t2 := heap_setCell_same _ (w.heap.size + 1 + 1) 0 _ _ (.int .i64 (men p 64 : Nat)) s2
  have t3 := (heap_setCell_other (w3.setRow (w.heap.size + 1) (ints p)) ⟨w.heap.size + 1 + 1, 0, none⟩ (w.heap.size + 1 + 1 + 1) (.int .i64 (men p 64 : Nat)) (by simp)).trans s3
  have u1 := (heap_setCell_other ((w3.setRow (w.heap.size + 1) (ints p)).setCell ⟨w.heap.size + 1 + 1, 0, none⟩ (.int .i64 (men p 64 : Nat))) ⟨w.heap.size + 1 + 1 + 1, 0, none⟩ (w.heap.size + 1) (.bool true) (by first | (simp; done) | (simp; omega))).trans ((heap_setCell_other _ ⟨w.heap.size + 1 + 1, 0, none⟩ _ _ (by simp)).trans (setRow_heap w3 (w.heap.size + 1) (ints (List.replicate 64 0)) (ints p) _ _ r1))
  have u2 := (heap_setCell_other _ ⟨w.heap.size + 1 + 1 + 1, 0, none⟩ (w.heap.size + 1 + 1) (.bool true) (by simp)).trans t2
  have u3 := heap_setCell_same _ (w.heap.size + 1 + 1 + 1) 0 _ _ (.bool true) t3
  exact ⟨_, results_cell3 rfl _ _ (w.heap.size + 1) 22 (ints p) (0, 0) _ _ _ rfl u1 Tryd.underlying22 rfl (by rw [ints_size, hp.len]; kernel_rfl) (w.heap.size + 1 + 1) (.int .i64 (men p 64 : Nat)) rfl (cell_of_row _ _ 0 _ _ _ u2) Tryd.underlying3 rfl (w.heap.size + 1 + 1 + 1) (.bool true) rfl (cell_of_row _ _ 0 _ _ _ u3) Tryd.underlying4 rfl, rfl, ((below_setRow hBw (by omega) _).setCell (p := ⟨w.heap.size + 1 + 1, 0, none⟩) (by first | (simp; done) | (simp; omega)) _).setCell (p := ⟨w.heap.size + 1 + 1 + 1, 0, none⟩) (by first | (simp; done) | (simp; omega)) _⟩
/-- The call's own variables: the argument, and three results. -/
def kgW (w : World) (p : List Int) : World := (((w.alloc (.cells (ints p) 22)).alloc (.cells #[.int .i64 0] 3)).alloc (.cells #[.int .i64 0] 3)).alloc (.cells #[.bool false] 4)
theorem kgW_rows (w : World) (p : List Int) : (kgW w p).heap[w.heap.size]? = some (.cells (ints p) 22 (0, 0)) ∧ (kgW w p).heap[w.heap.size + 1]? = some (.cells #[.int .i64 0] 3 (0, 0)) ∧
    (kgW w p).heap[w.heap.size + 1 + 1]? = some (.cells #[.int .i64 0] 3 (0, 0)) ∧ (kgW w p).heap[w.heap.size + 1 + 1 + 1]? = some (.cells #[.bool false] 4 (0, 0)) ∧ Below w.heap.size w (kgW w p) ∧ (kgW w p).heap.size = w.heap.size + 4 := by
  refine ⟨heap_keep (heap_keep (heap_alloc2_old w _ _)), heap_keep (heap_keep (heap_alloc2_new w _ _)), heap_keep (heap_at _ _ _ (by simp)), heap_at _ _ _ (by simp), ?_, by simp [kgW]⟩
  exact ((((Below.refl _ _).alloc (Nat.le_refl _) _).alloc (by simp) _).alloc (by first | (simp; done) | (simp; omega)) _).alloc (by first | (simp; done) | (simp; omega)) _
theorem bs_kings (p : List Int) (hp : Brd p) (w : World) (hA : IntSl w 1 .i8 allL) :
    Calls Tryd.prog 11 #[.agg (ints p)] w fun e' w' => e' = .returned (.tuple #[.int .i64 (lastK p 1 64), .int .i64 (lastK p 7 64), .bool true]) ∧ Below w.heap.size w w' := by
  have hmf := makeFunc_run Tryd.prog
  obtain ⟨hr0, hr1, hr2, hr3, hBW, hsz⟩ := kgW_rows w p
  go_enter_defers Tryd.func11, Tryd.ntmps11
  go_wp2_with (refine at_load_row hr0 Tryd.underlying22 rfl ?_ rfl ?_; (rw [ints_size, hp.len]; kernel_rfl))
  change Calls _ _ _ (kgW w p) _
  generalize kgW w p = W at *
  refine (bp_board p hp W (hA.below hBW)).mono ?_
  rintro e1 w1 ⟨g, rfl, hge, hg1, hb1⟩
  go_wp2_with fail
  refine (bs_door p g w1 hg1).mono ?_
  rintro e2 w2 ⟨rfl, hb2⟩
  have hB2 : Below W.heap.size W w2 := hb1.trans (hb2.mono hb1.size)
  have r1 := (hB2.block (w.heap.size + 1) (by omega)).trans hr1
  have r2 := (hB2.block (w.heap.size + 1 + 1) (by omega)).trans hr2
  have r3 := (hB2.block (w.heap.size + 1 + 1 + 1) (by omega)).trans hr3
  have hBw := hBW.trans (hB2.mono hBW.size)
  obtain ⟨x0, x1⟩ := lastK_ge p 1 64
  obtain ⟨y0, y1⟩ := lastK_ge p 7 64
  generalize hx : lastK p 1 64 = x at *
  generalize hy : lastK p 7 64 = y at *
  have c1 := cell_of_row w2 (w.heap.size + 1) 0 _ _ _ r1
  have f1 := frozen_of_row w2 (w.heap.size + 1) 0 _ _ r1
  have c2 := cell_of_row w2 (w.heap.size + 1 + 1) 0 _ _ _ r2
  have f2 := frozen_of_row w2 (w.heap.size + 1 + 1) 0 _ _ r2
  have c3 := cell_of_row w2 (w.heap.size + 1 + 1 + 1) 0 _ _ _ r3
  have f3 := frozen_of_row w2 (w.heap.size + 1 + 1 + 1) 0 _ _ r3
  have hhid := show Shut _ from And.intro r1 (And.intro r2 (And.intro r3 hBw))
  clear hr0 hr1 hr2 hr3 hb1 hb2 hg1 r1 r2 r3 hB2
  simp at c1 c2 c3
  go_wp2_with fail
  refine leaves_cons (f := 25) (args := #[.pointer (some ⟨w.heap.size + 1, 0, none⟩), .pointer (some ⟨w.heap.size + 1 + 1, 0, none⟩), .pointer (some ⟨w.heap.size + 1 + 1 + 1, 0, none⟩)]) (by simp) (by simp [go_sem]) ?_
  refine (bk_idle _ _ _ _).mono ?_
  rintro e u' w'' ⟨rfl, rfl, rfl⟩
  obtain ⟨r1, r2, r3, hBw⟩ := hhid.out
  have s1 := heap_setCell_same w2 (w.heap.size + 1) 0 _ _ (.int .i64 x) r1
  have s2 := (heap_setCell_other w2 ⟨w.heap.size + 1, 0, none⟩ (w.heap.size + 1 + 1) (.int .i64 x) (by simp)).trans r2
  have s3 := (heap_setCell_other w2 ⟨w.heap.size + 1, 0, none⟩ (w.heap.size + 1 + 1 + 1) (.int .i64 x) (by first | (simp; done) | (simp; omega))).trans r3
  have t1 := (heap_setCell_other _ ⟨w.heap.size + 1 + 1, 0, none⟩ (w.heap.size + 1) (.int .i64 y) (by simp)).trans s1
  have t2 := heap_setCell_same _ (w.heap.size + 1 + 1) 0 _ _ (.int .i64 y) s2
  have t3 := (heap_setCell_other _ ⟨w.heap.size + 1 + 1, 0, none⟩ (w.heap.size + 1 + 1 + 1) (.int .i64 y) (by simp)).trans s3
  have u1 := (heap_setCell_other _ ⟨w.heap.size + 1 + 1 + 1, 0, none⟩ (w.heap.size + 1) (.bool true) (by first | (simp; done) | (simp; omega))).trans t1
  have u2 := (heap_setCell_other _ ⟨w.heap.size + 1 + 1 + 1, 0, none⟩ (w.heap.size + 1 + 1) (.bool true) (by simp)).trans t2
  have u3 := heap_setCell_same _ (w.heap.size + 1 + 1 + 1) 0 _ _ (.bool true) t3
  exact ⟨_, results_one3 rfl _ _ _ _ _ (w.heap.size + 1) (.int .i64 x) rfl (cell_of_row _ _ 0 _ _ _ u1) Tryd.underlying3 rfl (w.heap.size + 1 + 1) (.int .i64 y) rfl (cell_of_row _ _ 0 _ _ _ u2) Tryd.underlying3 rfl (w.heap.size + 1 + 1 + 1) (.bool true) rfl (cell_of_row _ _ 0 _ _ _ u3) Tryd.underlying4 rfl, by rw [hx, hy], ((hBw.setCell (p := ⟨w.heap.size + 1, 0, none⟩) (by simp) _).setCell (p := ⟨w.heap.size + 1 + 1, 0, none⟩) (by first | (simp; done) | (simp; omega)) _).setCell (p := ⟨w.heap.size + 1 + 1 + 1, 0, none⟩) (by first | (simp; done) | (simp; omega)) _⟩
end Go.Proofs.YtndnmepapmnnlaaDoor
