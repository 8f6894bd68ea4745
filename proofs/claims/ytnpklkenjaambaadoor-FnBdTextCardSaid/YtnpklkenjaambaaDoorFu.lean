/- FnBdText: the package's MarshalText and UnmarshalText, impl.BoardText. For every board of pieces from 0 to 12. -/
import Derived.Test.YtnpklkenjaambaaDoorFc
import Derived.Test.YtnpklkenjaambaaDoorFv
import Derived.Test.YtnpklkenjaambaaDoorFn
import Derived.Test.YtnpklkenjaambaaDoorOw
import Derived.Laws.IdiomStrings
namespace Go.Proofs.YtnpklkenjaambaaDoor
open Go Go.RowKit
set_option maxHeartbeats 4000000
set_option linter.unusedSimpArgs false
set_option linter.unusedVariables false
set_option maxRecDepth 100000

/-- These bytes lie in block q from its beginning on. -/
def LiesT (T : List UInt8) (q : Nat) (w : World) : Prop := ∀ j (hj : j < T.length), w.cell? ((⟨q, 0, none⟩ : Addr).add j) = some (.int .u8 (T[j].toNat : Int))
theorem add_block (q j : Nat) : ((⟨q, 0, none⟩ : Addr).add j).block = q := by unfold Addr.add; split <;> rfl
theorem LiesT.below {T : List UInt8} {q : Nat} {w w' : World} (h : LiesT T q w) (hq : q < w.heap.size) (hb : Below w.heap.size w w') : LiesT T q w' := fun j hj =>
  (hb.cell (p := (⟨q, 0, none⟩ : Addr).add j) (by rw [add_block]; exact hq)).trans (h j hj)
theorem LiesT.set {T : List UInt8} {q : Nat} {w : World} (h : LiesT T q w) (a : Addr) (ha : q ≠ a.block) (v : Value) : LiesT T q (w.setCell a v) := fun j hj =>
  (World.cell?_of_block (heap_setCell_other w a _ v (by rw [add_block]; exact ha))).trans (h j hj)
theorem liesT_new (w : World) (l : List UInt8) (cap : Nat) (t : TypeId) (fr : Nat × Nat) : LiesT l w.heap.size (w.alloc (.cells (bytesRow (bs l) cap) t fr)) := by
  intro j hj
  have e : (⟨w.heap.size, 0, none⟩ : Addr).add j = ⟨w.heap.size, j, none⟩ := by unfold Addr.add; split <;> simp_all
  rw [e, cell_of_row _ _ _ _ _ _ (heap_alloc_new w _)]
  unfold bytesRow
  rw [Array.getElem?_append_left (by simp [bs]; exact hj)]
  simp [bs, hj]
theorem fu_back {T : List UInt8} {q : Nat} {w : World} (h : LiesT T q w) (cap : Nat) : (convert 49 9 (.slice (some ⟨q, 0, none⟩) T.length cap)).run Tryd.prog w = .ok (.string (bs T)) w :=
  run_convert_bytes_back (P := Tryd.prog) w 49 9 5 ⟨q, 0, none⟩ cap T Tryd.underlying49 Tryd.underlying5 Tryd.underlying9 h
theorem fu_string (p : List Int) (hp : ∀ i, i < 64 → 0 ≤ p.getD i 0 ∧ p.getD i 0 ≤ 12) (g : Nat) (w : World) (hg : w.heap[g]? = some (.cells (brd p) 59 (0, 0))) (hA : IntSl w 1 .i8 allL)
    (hw : IntTab w 2 .u8 wPieceL) (hb : IntTab w 3 .u8 bPieceL) :
    Calls Tryd.prog 41 #[.pointer (some ⟨g, 0, none⟩)] w fun e w' => e = .returned (.string (bs (txBoard p))) ∧ Below w.heap.size w w' := fs_string p hp g w hg hA hw hb
theorem fu_marshal (p : List Int) (hp : ∀ i, i < 64 → 0 ≤ p.getD i 0 ∧ p.getD i 0 ≤ 12) (g : Nat) (w : World) (hg : w.heap[g]? = some (.cells (brd p) 59 (0, 0))) (hA : IntSl w 1 .i8 allL)
    (hw : IntTab w 2 .u8 wPieceL) (hb : IntTab w 3 .u8 bPieceL) :
    Calls Tryd.prog 24 #[.pointer (some ⟨g, 0, none⟩)] w fun e w' => ∃ q cap, e = .returned (.tuple #[.slice (some ⟨q, 0, none⟩) (txBoard p).length cap, .nilIface]) ∧ LiesT (txBoard p) q w' ∧ w.heap.size ≤ q ∧ q < w'.heap.size ∧ Below w.heap.size w w' := by
  have hS := lay (fu_string p hp g w hg hA hw hb)
  have hcv := fun W => run_bytes_of_string (P := Tryd.prog) W 9 49 5 (bs (txBoard p)) Tryd.underlying9 Tryd.underlying49 Tryd.underlying5
  rw [bs_size] at hcv
  clear hg hA hw hb hp
  generalize txBoard p = T at *
  go_enter Tryd.func24, Tryd.ntmps24
  go_wp2_with fail
  refine hS.out.mono ?_
  rintro e w1 ⟨rfl, q1⟩
  go_wp2
  go_ret2
  exact ⟨w1.heap.size, _, rfl, liesT_new w1 T _ _ _, q1.size, by simp, (q1.alloc q1.size _).trans ⟨rfl, rfl, rfl, Nat.le_refl _, fun _ _ => rfl⟩⟩
theorem fu_idle (p q : Addr) (w : World) :
    CallsD Tryd.prog 22 #[.pointer (some p), .pointer (some q)] .returning w fun e u' w' => e = .returned (.tuple #[]) ∧ u' = .returning ∧ w = w' := by
  refine callsD_of_wpS Tryd.func22 rfl fun c₀ cs hu => ?_
  apply wpS_seq
  apply wpS_region
  simp [wpOpsS, go_sem, recoverD, hu, Tryd.ntmps22, Exit.thenS]
  refine wpS_cond (t := false) (by simp [Act.eval, Array.replicate]) ?_
  simp only [Bool.false_eq_true, if_false]
  refine wpS_of_wp (wp_skip ?_)
  cases c₀
  simp_all [bodyPostS, results, Tryd.results22]
def fuW (w : World) (p : List Int) : World := ((w.alloc (.cells (ints p) 30)).alloc (.cells #[.string ⟨#[]⟩] 9)).alloc (.cells #[.bool false] 4)
theorem fuW_rows (w : World) (p : List Int) : (fuW w p).heap[w.heap.size]? = some (.cells (ints p) 30 (0, 0)) ∧ (fuW w p).heap[w.heap.size + 1]? = some (.cells #[.string ⟨#[]⟩] 9 (0, 0)) ∧
    (fuW w p).heap[w.heap.size + 1 + 1]? = some (.cells #[.bool false] 4 (0, 0)) ∧ Below w.heap.size w (fuW w p) ∧ (fuW w p).heap.size = w.heap.size + 3 := by
  refine ⟨heap_keep (heap_alloc2_old w _ _), heap_keep (heap_alloc2_new w _ _), heap_at _ _ _ (by simp), ?_, by simp [fuW]⟩
  exact (((Below.refl _ _).alloc (Nat.le_refl _) _).alloc (by simp) _).alloc (by simp; omega) _
theorem brd_range {p : List Int} (hp : Brd p) : ∀ i, i < 64 → 0 ≤ p.getD i 0 ∧ p.getD i 0 ≤ 12 := fun i _ => ⟨hp.lo i, hp.hi i⟩
theorem fu_text (p : List Int) (hp : Brd p) (w : World) (hA : IntSl w 1 .i8 allL)
    (hw : IntTab w 2 .u8 wPieceL) (hb : IntTab w 3 .u8 bPieceL) :
    Calls Tryd.prog 10 #[.agg (ints p)] w fun e' w' => e' = .returned (.tuple #[.string (bs (txBoard p)), .bool true]) ∧ Below w.heap.size w w' := by
  have hmf := makeFunc_run Tryd.prog
  obtain ⟨hr0, hr1, hr2, hBW, hsz⟩ := fuW_rows w p
  go_enter_defers Tryd.func10, Tryd.ntmps10
  go_wp2_with (refine at_load_row hr0 Tryd.underlying30 rfl ?_ rfl ?_; (rw [ints_size, hp.len]; kernel_rfl))
  change Calls _ _ _ (fuW w p) _
  generalize fuW w p = W at *
  refine (bp_board p hp W (hA.below hBW)).mono ?_
  rintro e1 w1 ⟨g, rfl, hge, hg1, hb1⟩
  go_wp2_with fail
  refine (fu_marshal p (brd_range hp) g w1 hg1 ((hA.below hBW).below hb1) ((hw.below hBW).below hb1) ((hb.below hBW).below hb1)).mono ?_
  rintro e2 w2 ⟨q, cap, rfl, hli, hq1, hq2, hb2⟩
  have hB2 : Below W.heap.size W w2 := hb1.trans (hb2.mono hb1.size)
  have r1 := (hB2.block (w.heap.size + 1) (by omega)).trans hr1
  have r2 := (hB2.block (w.heap.size + 1 + 1) (by omega)).trans hr2
  have hBw := hBW.trans (hB2.mono hBW.size)
  have hs1 := hb1.size
  have c1 : w2.cell? ⟨w.heap.size + 1, 0, none⟩ = some (.string ⟨#[]⟩) := cell_of_row w2 _ 0 _ _ _ r1
  have f1 := frozen_of_row w2 (w.heap.size + 1) 0 _ _ r1
  have c2 : w2.cell? ⟨w.heap.size + 1 + 1, 0, none⟩ = some (.bool false) := cell_of_row w2 _ 0 _ _ _ r2
  have f2 := frozen_of_row w2 (w.heap.size + 1 + 1) 0 _ _ r2
  have hcv0 := fu_back (w := w2.drew) hli cap
  have hcv1 := fu_back (hli.set ⟨w.heap.size + 1 + 1, 0, none⟩ (by simp; omega) (.bool true)) cap
  have hhid := show Shut _ from And.intro r1 (And.intro r2 hBw)
  clear hr0 hr1 hr2 hb1 hb2 hg1 r1 r2 hB2 hBw hli hw hb hA
  go_wp2_with fail
  refine wp_region_noPanic ?_
  go_region
  refine NoPanic.normal ?_
  go_wp2_with fail
  refine leaves_cons (f := 22) (args := #[.pointer (some ⟨w.heap.size + 1, 0, none⟩), .pointer (some ⟨w.heap.size + 1 + 1, 0, none⟩)]) (by simp) (by simp [go_sem]) ?_
  refine (fu_idle _ _ _).mono ?_
  rintro e u' w'' ⟨rfl, rfl, rfl⟩
  obtain ⟨r1, r2, hBw⟩ := hhid.out
  have s1 := heap_setCell_same w2 (w.heap.size + 1) 0 _ _ (.string (bs (txBoard p))) r1
  have s2 := (heap_setCell_other w2 ⟨w.heap.size + 1, 0, none⟩ (w.heap.size + 1 + 1) (.string (bs (txBoard p))) (by simp)).trans r2
  have t1 := (heap_setCell_other (w2.setCell ⟨w.heap.size + 1, 0, none⟩ (.string (bs (txBoard p)))) ⟨w.heap.size + 1 + 1, 0, none⟩ (w.heap.size + 1) (.bool true) (by simp)).trans s1
  have t2 := heap_setCell_same (w2.setCell ⟨w.heap.size + 1, 0, none⟩ (.string (bs (txBoard p)))) (w.heap.size + 1 + 1) 0 _ _ (.bool true) s2
  have z1 : (((w2.setCell ⟨w.heap.size + 1, 0, none⟩ (.string (bs (txBoard p)))).setCell ⟨w.heap.size + 1 + 1, 0, none⟩ (.bool true)).drew).cell? ⟨w.heap.size + 1, 0, none⟩ = some (.string (bs (txBoard p))) := cell_of_row ((w2.setCell ⟨w.heap.size + 1, 0, none⟩ (.string (bs (txBoard p)))).setCell ⟨w.heap.size + 1 + 1, 0, none⟩ (.bool true)) _ 0 _ _ _ t1
  have z2 : (((w2.setCell ⟨w.heap.size + 1, 0, none⟩ (.string (bs (txBoard p)))).setCell ⟨w.heap.size + 1 + 1, 0, none⟩ (.bool true)).drew).cell? ⟨w.heap.size + 1 + 1, 0, none⟩ = some (.bool true) := cell_of_row ((w2.setCell ⟨w.heap.size + 1, 0, none⟩ (.string (bs (txBoard p)))).setCell ⟨w.heap.size + 1 + 1, 0, none⟩ (.bool true)) _ 0 _ _ _ t2
  exact ⟨_, results_one2 rfl _ _ _ _ (w.heap.size + 1) (.string (bs (txBoard p))) rfl z1 Tryd.underlying9 rfl (w.heap.size + 1 + 1) (.bool true) rfl z2 Tryd.underlying4 rfl, rfl, ((hBw.setCell (p := ⟨w.heap.size + 1, 0, none⟩) (by simp) _).setCell (p := ⟨w.heap.size + 1 + 1, 0, none⟩) (by first | (simp; done) | (simp; omega)) _).trans ⟨rfl, rfl, rfl, Nat.le_refl _, fun _ _ => rfl⟩⟩
theorem brd_info (p : List Int) : (Tryd.prog.info? 59).map (·.size) = some (brd p).size := by kernel_rfl
theorem brd_one (p : List Int) : (brd p).all (·.oneCell') = true := by
  simp [brd, brdF, bbv, Value.oneCell']
theorem fu_unmarshal (p : List Int) (hp : ∀ i, i < 64 → 0 ≤ p.getD i 0 ∧ p.getD i 0 ≤ 12) (g q cap : Nat) (old : Array Value) (ho : old.size = 17) (w : World) (hg : w.heap[g]? = some (.cells old 59 (0, 0))) (hq : q < w.heap.size) (hli : LiesT (txBoard p) q w)
    (hA : IntSl w 1 .i8 allL) (hc : IntTab w 4 .i8 fcL) :
    Calls Tryd.prog 26 #[.pointer (some ⟨g, 0, none⟩), .slice (some ⟨q, 0, none⟩) (txBoard p).length cap] w fun e w' => e = .returned .nilIface ∧ ∃ w1, Below w.heap.size w w1 ∧ w' = w1.setRow g (brd p) := by
  have hcv := fu_back hli cap
  have hF := lay (fc_board p hp w hA hc)
  clear hli hA hc hp
  generalize txBoard p = T at *
  go_enter Tryd.func26, Tryd.ntmps26
  go_wp2_with fail
  refine hF.out.mono ?_
  rintro e w1 ⟨h, rfl, hh, hgh, hb⟩
  have hg1 := (hb.block g (Array.getElem?_eq_some_iff.1 hg).1).trans hg
  have hbs := lay hb
  clear hF hcv hb hg
  go_wp2_with (first
    | ((with_reducible refine at_load_row hh Tryd.underlying59 rfl ?_ ?_ ?_); rfl; rfl)
    | ((with_reducible refine at_store_row (brd p) hg1 ?_ ?_ ?_ ?_ ?_ ?_); exact brd_info p; exact ho; exact brd_one p; rfl; rfl))
  go_ret
  exact ⟨rfl, w1, hbs.out, rfl⟩
end Go.Proofs.YtnpklkenjaambaaDoor
