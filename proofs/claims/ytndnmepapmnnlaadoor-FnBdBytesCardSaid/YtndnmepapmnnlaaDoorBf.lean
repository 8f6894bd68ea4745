/- FnBdBytes: impl.BoardBytes. For every board of pieces from 0 to 12. -/
import Derived.Test.YtndnmepapmnnlaaDoorBe
namespace Go.Proofs.YtndnmepapmnnlaaDoor
open Go Go.RowKit
set_option maxHeartbeats 2000000
set_option linter.unusedSimpArgs false
set_option linter.unusedVariables false
set_option maxRecDepth 100000

theorem bf_idle (p q : Addr) (w : World) :
    CallsD Tryd.prog 32 #[.pointer (some p), .pointer (some q)] .returning w fun e u' w' => e = .returned (.tuple #[]) ∧ u' = .returning ∧ w = w' := by
  refine callsD_of_wpS Tryd.func32 rfl fun c₀ cs hu => ?_
  apply wpS_seq
  apply wpS_region
  simp [wpOpsS, go_sem, recoverD, hu, Tryd.ntmps32, Exit.thenS]
  refine wpS_cond (t := false) (by simp [Act.eval, Array.replicate]) ?_
  simp only [Bool.false_eq_true, if_false]
  refine wpS_of_wp (wp_skip ?_)
  cases c₀
  simp_all [bodyPostS, results, Tryd.results32]
theorem lt_of_get {w : World} {b : Nat} {o : Obj} (h : w.heap[b]? = some o) : b < w.heap.size := (Array.getElem?_eq_some_iff.1 h).1
theorem own_slice2 {w : World} {base : Nat} {e : TypeId} {v : Value} {n : Nat} {xs : List Value} (h : w.ownsRow base e 1 v n xs) :
    ∃ a c, v = .slice a n c ∧ ∀ i, i < n → ∃ g, a = some ⟨g, 0, none⟩ ∧ g < w.heap.size ∧ w.cell? ⟨g, i, none⟩ = xs[i]? := by
  have hf := h
  obtain ⟨hn, ⟨rfl, rfl⟩ | ⟨g, cap, cur, rfl, _, hg, _⟩⟩ := h
  · exact ⟨none, 0, rfl, fun i hi => by omega⟩
  · exact ⟨_, _, rfl, fun i hi => ⟨g, rfl, lt_of_get hg, hf.cellAt i (by omega)⟩⟩
theorem results_one2 {P : Program} {fn : Func} {p q : Tmp} {ty tz : TypeId} (h : fn.results = #[.cell p ty, .cell q tz]) (tmps : Array Value) (w : World) (d dz : TypeDesc)
    (g : Nat) (x : Value) (hp : tmps.getD p undef = .pointer (some ⟨g, 0, none⟩)) (hx : w.cell? ⟨g, 0, none⟩ = some x) (hu : P.underlying ty = some d) (hd : aggD d = false) (g2 : Nat) (v : Value)
    (hq : tmps.getD q undef = .pointer (some ⟨g2, 0, none⟩)) (hv : w.cell? ⟨g2, 0, none⟩ = some v) (hz : P.underlying tz = some dz) (hdz : aggD dz = false) :
    (results fn tmps).run P w = .ok (.tuple #[x, v]) w := by
  have hp' : tmps[p]?.getD undef = .pointer (some ⟨g, 0, none⟩) := by simpa using hp
  have hq' : tmps[q]?.getD undef = .pointer (some ⟨g2, 0, none⟩) := by simpa using hq
  simp [results, h, hp', hq', asAddr, load_one hu hd hx, load_one hz hdz hv]
theorem own_set2 {w : World} {base : Nat} {e : TypeId} {size : Nat} {v : Value} {n : Nat} {xs : List Value} (h : w.ownsRow base e size v n xs) (a : Addr) (ha : a.block < base) (u : Value) : (w.setCell a u).ownsRow base e size v n xs := by
  obtain ⟨h1, h2 | ⟨g, cap, cur, a1, b, c, d⟩⟩ := h
  · exact ⟨h1, Or.inl h2⟩
  · exact ⟨h1, Or.inr ⟨g, cap, cur, a1, b, (heap_setCell_other w a g u (by omega)).trans c, d⟩⟩
def bfW (w : World) (p : List Int) : World := ((w.alloc (.cells (ints p) 22)).alloc (.cells #[.slice none 0 0] 37)).alloc (.cells #[.bool false] 4)
theorem bfW_rows (w : World) (p : List Int) : (bfW w p).heap[w.heap.size]? = some (.cells (ints p) 22 (0, 0)) ∧ (bfW w p).heap[w.heap.size + 1]? = some (.cells #[.slice none 0 0] 37 (0, 0)) ∧
    (bfW w p).heap[w.heap.size + 1 + 1]? = some (.cells #[.bool false] 4 (0, 0)) ∧ Below w.heap.size w (bfW w p) ∧ (bfW w p).heap.size = w.heap.size + 3 := by
  refine ⟨heap_keep (heap_alloc2_old w _ _), heap_keep (heap_alloc2_new w _ _), heap_at _ _ _ (by simp), ?_, by simp [bfW]⟩
  exact (((Below.refl _ _).alloc (Nat.le_refl _) _).alloc (by simp) _).alloc (by simp; omega) _
theorem bf_impl (p : List Int) (hp : Brd p) (w : World) (hA : IntSl w 1 .i8 allL) :
    Calls Tryd.prog 15 #[.agg (ints p)] w fun e' w' => ∃ v, e' = .returned (.tuple #[v, .bool true]) ∧ w'.ownsRow w.heap.size 5 1 v 96 (bytesOf (bbF p) 12) ∧ Below w.heap.size w w' := by
  have hmf := makeFunc_run Tryd.prog
  obtain ⟨hr0, hr1, hr2, hBW, hsz⟩ := bfW_rows w p
  go_enter_defers Tryd.func15, Tryd.ntmps15
  go_wp2_with (refine at_load_row hr0 Tryd.underlying22 rfl ?_ rfl ?_; (rw [ints_size, hp.len]; kernel_rfl))
  change Calls _ _ _ (bfW w p) _
  generalize bfW w p = W at *
  refine (bp_board p hp W (hA.below hBW)).mono ?_
  rintro e1 w1 ⟨g, rfl, hge, hg1, hb1⟩
  go_wp2_with fail
  refine (be_marshal _ _ _ _ _ _ g w1 hg1).mono ?_
  rintro e2 w2 ⟨v, rfl, hown, hb2⟩
  have hB2 : Below W.heap.size W w2 := hb1.trans (hb2.mono hb1.size)
  have r1 := (hB2.block (w.heap.size + 1) (by omega)).trans hr1
  have r2 := (hB2.block (w.heap.size + 1 + 1) (by omega)).trans hr2
  have hBw := hBW.trans (hB2.mono hBW.size)
  have hs1 := hb1.size
  obtain ⟨a, c, rfl, _⟩ := own_slice2 hown
  have c1 : w2.cell? ⟨w.heap.size + 1, 0, none⟩ = some (.slice none 0 0) := cell_of_row w2 _ 0 _ _ _ r1
  have f1 := frozen_of_row w2 (w.heap.size + 1) 0 _ _ r1
  have c2 : w2.cell? ⟨w.heap.size + 1 + 1, 0, none⟩ = some (.bool false) := cell_of_row w2 _ 0 _ _ _ r2
  have f2 := frozen_of_row w2 (w.heap.size + 1 + 1) 0 _ _ r2
  have hhid := show Shut _ from And.intro r1 (And.intro r2 (And.intro hBw hown))
  clear hr0 hr1 hr2 hb1 hb2 hg1 r1 r2 hB2 hown hBw
  go_wp2_with fail
  refine wp_region_noPanic ?_
  go_region
  refine NoPanic.normal ?_
  go_wp2_with fail
  refine leaves_cons (f := 32) (args := #[.pointer (some ⟨w.heap.size + 1, 0, none⟩), .pointer (some ⟨w.heap.size + 1 + 1, 0, none⟩)]) (by simp) (by simp [go_sem]) ?_
  refine (bf_idle _ _ _).mono ?_
  rintro e u' w'' ⟨rfl, rfl, rfl⟩
  obtain ⟨r1, r2, hBw, hown⟩ := hhid.out
  have s1 := heap_setCell_same w2 (w.heap.size + 1) 0 _ _ (.slice a 96 c) r1
  have s2 := heap_setCell_same _ (w.heap.size + 1) 0 _ _ (.slice a 96 c) s1
  have t1 := (heap_setCell_other w2 ⟨w.heap.size + 1, 0, none⟩ (w.heap.size + 1 + 1) (.slice a 96 c) (by simp)).trans r2
  have t2 := (heap_setCell_other _ ⟨w.heap.size + 1, 0, none⟩ (w.heap.size + 1 + 1) (.slice a 96 c) (by simp)).trans t1
  have u1 := (heap_setCell_other _ ⟨w.heap.size + 1 + 1, 0, none⟩ (w.heap.size + 1) (.bool true) (by simp)).trans s2
  have u2 := heap_setCell_same _ (w.heap.size + 1 + 1) 0 _ _ (.bool true) t2
  have o1 := own_set2 hown ⟨w.heap.size + 1, 0, none⟩ (by show w.heap.size + 1 < w1.heap.size; omega) (.slice a 96 c)
  have o2 := own_set2 o1 ⟨w.heap.size + 1, 0, none⟩ (by show w.heap.size + 1 < w1.heap.size; omega) (.slice a 96 c)
  have o3 := own_set2 o2 ⟨w.heap.size + 1 + 1, 0, none⟩ (by show w.heap.size + 1 + 1 < w1.heap.size; omega) (.bool true)
  have z1 : ((((w2.setCell ⟨w.heap.size + 1, 0, none⟩ (.slice a 96 c)).setCell ⟨w.heap.size + 1, 0, none⟩ (.slice a 96 c)).setCell ⟨w.heap.size + 1 + 1, 0, none⟩ (.bool true)).drew).cell? ⟨w.heap.size + 1, 0, none⟩ = some (.slice a 96 c) := cell_of_row ((((w2.setCell ⟨w.heap.size + 1, 0, none⟩ (.slice a 96 c)).setCell ⟨w.heap.size + 1, 0, none⟩ (.slice a 96 c)).setCell ⟨w.heap.size + 1 + 1, 0, none⟩ (.bool true)).drew) _ 0 _ _ _ u1
  have z2 : ((((w2.setCell ⟨w.heap.size + 1, 0, none⟩ (.slice a 96 c)).setCell ⟨w.heap.size + 1, 0, none⟩ (.slice a 96 c)).setCell ⟨w.heap.size + 1 + 1, 0, none⟩ (.bool true)).drew).cell? ⟨w.heap.size + 1 + 1, 0, none⟩ = some (.bool true) := cell_of_row ((((w2.setCell ⟨w.heap.size + 1, 0, none⟩ (.slice a 96 c)).setCell ⟨w.heap.size + 1, 0, none⟩ (.slice a 96 c)).setCell ⟨w.heap.size + 1 + 1, 0, none⟩ (.bool true)).drew) _ 0 _ _ _ u2
  exact ⟨_, results_one2 rfl _ _ _ _ (w.heap.size + 1) (.slice a 96 c) rfl z1 Tryd.underlying37 rfl (w.heap.size + 1 + 1) (.bool true) rfl z2 Tryd.underlying4 rfl, _, rfl, own_mono o3 (by omega), (((hBw.setCell (p := ⟨w.heap.size + 1, 0, none⟩) (by simp) _).setCell (p := ⟨w.heap.size + 1, 0, none⟩) (by simp) _).setCell (p := ⟨w.heap.size + 1 + 1, 0, none⟩) (by first | (simp; done) | (simp; omega)) _).drew⟩
end Go.Proofs.YtndnmepapmnnlaaDoor
