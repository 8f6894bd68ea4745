/- The first move that leaves the own king out of check (standardMoves with first = true). -/
import Derived.Test.YtnjdgooljnbebaaGreatDoorGk
import Derived.Test.YtnjdgooljnbebaaGreatDoorGe
namespace Go.Proofs.YtnjdgooljnbebaaGreatDoor
open Go Go.RowKit
set_option maxHeartbeats 8000000
set_option linter.unusedSimpArgs false
set_option linter.unusedVariables false
set_option maxRecDepth 100000

theorem and_sq (x : BitVec 64) (s : Nat) (hs : s < 64) : (x &&& sqBit s == 0#64) = !occ x s := by
  cases ho : occ x s with
  | true =>
    have h : x &&& sqBit s ≠ 0#64 := (and_ne _ _).2 ⟨s, hs, ho, by rw [occ_sq _ _ hs hs]; simp⟩
    simpa using h
  | false =>
    have h : ¬ x &&& sqBit s ≠ 0#64 := fun hh => by
      obtain ⟨j, hj, h1, h2⟩ := (and_ne _ _).1 hh
      rw [occ_sq _ _ hs hj] at h2
      have : j = s := by simpa using h2
      rw [this, ho] at h1
      cases h1
    simpa using h
theorem zero_sq (x : BitVec 64) (h : x = 0#64) (s : Nat) : occ x s = false := by
  rw [h]
  simp [occ]
theorem below_cells {B b : Nat} : ∀ (vs : List Value) (o : Nat) (w0 w : World), Below B w0 w → B ≤ b → Below B w0 (w.setCells b o vs)
  | [], _, _, _, h, _ => h
  | v :: r, o, w0, w, h, hb => below_cells r (o + 1) w0 _ (h.setCell (p := ⟨b, o, none⟩) hb v) hb
theorem size_cells {b : Nat} : ∀ (vs : List Value) (o : Nat) (w : World), (w.setCells b o vs).heap.size = w.heap.size
  | [], _, _ => rfl
  | v :: r, o, w => (size_cells r (o + 1) _).trans (by simp)
theorem heap_cells {b g : Nat} (hg : g ≠ b) : ∀ (vs : List Value) (o : Nat) (w : World), (w.setCells b o vs).heap[g]? = w.heap[g]?
  | [], _, _ => rfl
  | v :: r, o, w => (heap_cells hg r (o + 1) _).trans (heap_setCell_other _ _ _ _ (by simpa using hg))
/-- Many cells are stored at a place of a block: behind it the world is a letter. -/
theorem at_store_mid {P : Program} {ops : Array Oper} {rest : List Oper} {a : Act} {w : World} {Q : Exit → Act → World → Prop} {d : Option Tmp} {x y : Operand} {ty tt : TypeId} {ps : String} {af : Array Edge} (b o : Nat) (cs : Array Value)
    (ht : w.there b o cs.size) (hi : (P.info? tt).map (·.size) = some cs.size) (h1 : cs.all (·.oneCell') = true) (hx : a.eval x = .pointer (some ⟨b, o, none⟩)) (hy : a.eval y = .agg cs)
    (h : ∀ W : World, Shut (W.rangeAt b o cs.toList) → Shut (W.heap.size = w.heap.size) → Shut (∀ B w0, B ≤ b → Below B w0 w → Below B w0 W) → Shut (∀ g, g ≠ b → W.heap[g]? = w.heap[g]?) → Shut (∀ o' n, w.there b o' n → W.there b o' n) → Shut (∀ o' cs', o' + cs'.length ≤ o ∨ o + cs.size ≤ o' → w.rangeAt b o' cs' → W.rangeAt b o' cs') → wpList P ops Q rest (a.put d undef) W) :
    wpList P ops Q ({ dst := d, op := .store tt x y, type := ty, pos := ps, after := af, guard := none } :: rest) a w :=
  wpList_store_mid rfl tt x y rfl b o cs hx hy ht hi h1 (h _ (World.rangeAt_setCells_same _ _ _ _ (by simpa using ht)) (size_cells _ _ _) (fun B w0 hB hb => below_cells _ _ _ _ hb hB) (fun g hg => heap_cells hg _ _ _) (fun o' n h => World.there_setCells h _ _ _) (fun o' cs' hh h => World.rangeAt_setCells_apart h _ _ _ (Or.inr (by simpa using hh))))
theorem at_load_mid {P : Program} {ops : Array Oper} {rest : List Oper} {a : Act} {w : World} {Q : Exit → Act → World → Prop} {d : Option Tmp} {x : Operand} {ty tt : TypeId} {ps : String} {af : Array Edge} {g o : Nat} (cs : Array Value) {de : TypeDesc}
    (hc : w.rangeAt g o cs.toList) (hu : P.underlying tt = some de) (hd : de.isRow = true) (hi : (P.info? tt).map (·.size) = some cs.size) (hx : a.eval x = .pointer (some ⟨g, o, none⟩))
    (h : wpList P ops Q rest (a.put d (.agg cs)) w) : wpList P ops Q ({ dst := d, op := .load tt x, type := ty, pos := ps, after := af, guard := none } :: rest) a w :=
  wpList_load_mid rfl tt x rfl g o hx cs.toList de hc hu hd (by simpa using hi) (by simpa using h)
theorem there_row {w : World} {g : Nat} {cs : Array Value} {t : TypeId} (h : w.heap[g]? = some (.cells cs t (0, 0))) : w.there g 0 cs.size := by
  intro j hj
  refine ⟨?_, frozen_of_row _ _ _ _ _ h⟩
  rw [Nat.zero_add, cell_of_row _ _ _ _ _ _ h, Array.getElem?_eq_getElem hj]
  rfl
theorem there_rowN {w : World} {g n : Nat} {cs : Array Value} {t : TypeId} (hn : cs.size = n) (h : w.heap[g]? = some (.cells cs t (0, 0))) : w.there g 0 n := by
  subst hn
  exact there_row h
theorem run_copy_zero {P : Program} (w : World) (dT sT ty elem : TypeId) (d a : Addr) (dLen dCap sLen sCap : Nat) (hu : P.underlying dT = some (.slice elem)) (hs : ((P.info? elem).map (·.size)).isSome = true) (hn : Nat.min sLen dLen = 0) :
    (Builtin.copy_ #[dT, sT] ty #[.slice (some d) dLen dCap, .slice (some a) sLen sCap]).run P w = .ok (goInt 0) w := by
  cases hq : P.info? elem with
  | none => simp [hq] at hs
  | some i =>
    have hl : ∀ (x : Addr), (loadCells x 0).run P w = .ok #[] w := fun x => by simpa using run_loadCells_list (P := P) w x [] (by simp)
    simp [Builtin.copy_, run_underlying hu, Builtin.lenOf, Builtin.firstCells, sizeOf, typeInfo, hq, hn, storeCells, hl]
theorem at_copy_zero {P : Program} {w : World} {ops : Array Oper} {rest : List Oper} {a : Act} {Q : Exit → Act → World → Prop} {d : Option Tmp} {x y : Operand} {ty dT sT : TypeId} {ps : String} {af : Array Edge} (elem : TypeId)
    (hu : P.underlying dT = some (.slice elem)) (hs : ((P.info? elem).map (·.size)).isSome = true) (dp sp : Addr) (dCap sLen sCap : Nat) (hx : a.eval x = .slice (some dp) 0 dCap) (hy : a.eval y = .slice (some sp) sLen sCap)
    (h : wpList P ops Q rest (a.put d (goInt 0)) w) : wpList P ops Q ({ dst := d, op := .call { callee := .builtin .copy, args := #[x, y], argTypes := #[dT, sT] }, type := ty, pos := ps, after := af, guard := none } :: rest) a w := by
  refine wpList_plain rfl fun K hK => ?_
  have hrun := run_copy_zero (P := P) w dT sT ty elem dp sp 0 dCap sLen sCap hu hs (Nat.min_zero _)
  unfold Oper.wp
  simp [execOp, resolve, invoke, builtin, hx, hy, hrun, Result.andThen]
  exact hK _ _ h
theorem madeCells_zero (cs : Array Value) : madeCells cs 0 = #[] := Array.eq_empty_of_size_eq_zero (by simp [madeCells])
theorem mvK_one (t a b pr : Int) : (mvK t a b pr).all (·.oneCell') = true := by simp [mvK, Value.oneCell']
theorem mvS_info (t : Int) (a b pr : Int) : (Tryz.prog.info? 73).map (·.size) = some (mvK t a b pr).size := show _ = some 11 by kernel_rfl
/-- The pieces of a promotion, in every later world. -/
theorem pr_cells {w0 : World} (hP : IntSl w0 1 .i8 [2, 3, 4, 5]) : ∃ q : Addr, q.spot = none ∧ ∀ V, Below w0.heap.size w0 V → V.cell? ⟨1, 0, none⟩ = some (.slice (some q) 4 4) ∧ ∀ k, k < 4 → V.cell? (q.add k) = some (.int .i8 ((k : Int) + 2)) := by
  obtain ⟨⟨q, hq, hqb, hc0, hci⟩, hlt⟩ := hP
  refine ⟨q, hq, fun V hV => ⟨?_, fun k hk => ?_⟩⟩
  · exact (hV.cell (p := ⟨1, 0, none⟩) hlt).trans hc0
  · have hck := hci k hk
    have e : [(2 : Int), 3, 4, 5].getD k 0 = (k : Int) + 2 := by
      rcases (show k = 0 ∨ k = 1 ∨ k = 2 ∨ k = 3 by omega) with rfl | rfl | rfl | rfl <;> rfl
    rw [e] at hck
    rw [add_at hq]
    exact (hV.cell (p := ⟨q.block, q.off + k, none⟩) hqb).trans hck
/-- The blocks of the walk: the array of moves, the move. -/
structure SmSt (w wr : World) : Prop where
  mv : ∃ z a b pr, MvAt (w.heap.size + 1) (tgN z) a b pr wr
  arr : wr.there w.heap.size 0 11
  bel : Below w.heap.size w wr
theorem SmSt.drewN {w wr : World} (h : SmSt w wr) (n : Nat) : SmSt w (wr.drewN n) := ⟨h.mv, h.arr, below_drewN h.bel n⟩
/-- One move is tried: its tags. -/
theorem sm_try (p : List Int) (tn : Nat) (hs : Sound p tn) (hL : MvLaw p tn) (k a b : Nat) (hk : k < 12) (hkt : k / 6 = tn) (ha : a < 64) (hb : b < 64) (hgo : goSq p tn k a b) (pg bg : Nat) (cas : ByteArray) (v : Value) (half full : Int) (chk : Bool) (w wr : World) (hpl : pg < w.heap.size) (hbl : bg < w.heap.size)
    (hpg : wr.heap[pg]? = some (.cells (posW bg cas v half full tn (p.getD 66 0) chk) 103 (0, 0))) (hbg : wr.heap[bg]? = some (.cells (brd p) 144 (0, 0))) (hT : Tabs w) (hA : IntSl w 0 .i8 allL) (z : Tg) (pr : Int) (h1 : isProm k b = false → pr = 0) (h2 : isProm k b = true → 2 ≤ pr ∧ pr ≤ 5) (hz1 : z.ks = false) (hz2 : z.qs = false) (hz3 : z.ep = true → passM p (mvAt a b pr) = true) (hm : MvAt (w.heap.size + 1) (tgN z) a b pr wr) (hS : SmSt w wr) :
    Calls Tryz.prog 125 #[.pointer (some ⟨w.heap.size + 1, 0, none⟩), .pointer (some ⟨pg, 0, none⟩)] wr fun e w' => e = .returned (.tuple #[]) ∧ SmSt w w' ∧ MvAt (w.heap.size + 1) (tgN (tagsOf p tn (mvAt a b pr) z)) a b pr w' := by
  obtain ⟨g1, g2, g3⟩ := hL.good k a b pr hk hkt ha hb hgo h1 h2
  refine (vt_tags p tn hs (mvAt a b pr) g1 g2 z (g3 z hz1 hz2 hz3) pg bg (w.heap.size + 1) cas v half full chk w wr hpg hbg hm (by omega) (by omega) hS.bel (by omega) hT hA).mono ?_
  rintro e w' ⟨rfl, hm', hK⟩
  have hlt : w.heap.size + 1 < wr.heap.size := (Array.getElem?_eq_some_iff.1 hm).1
  refine ⟨rfl, ⟨⟨_, _, _, _, hm'⟩, ?_, hK.2.2 _ _ (by omega) hS.bel.size hS.bel⟩, hm'⟩
  intro j hj
  have e1 : w'.heap[w.heap.size]? = wr.heap[w.heap.size]? := hK.1 _ (by omega) (by omega)
  have h := hS.arr j hj
  unfold World.cell? World.frozen? at h ⊢
  rw [e1]
  exact h
theorem SmSt.put {w wr : World} (h : SmSt w wr) {z : Tg} {a b pr : Int} (hm : MvAt (w.heap.size + 1) (tgN z) a b pr wr) (a' b' : Int) : MvAt (w.heap.size + 1) (tgN ⟨false, false, false, false, false, false⟩) a' b' pr (((wr.setCell ⟨w.heap.size + 1, 8, none⟩ (.int .i8 a')).setCell ⟨w.heap.size + 1, 9, none⟩ (.int .i8 b')).setCell ⟨w.heap.size + 1, 7, none⟩ (.int .u16 0)) ∧ SmSt w (((wr.setCell ⟨w.heap.size + 1, 8, none⟩ (.int .i8 a')).setCell ⟨w.heap.size + 1, 9, none⟩ (.int .i8 b')).setCell ⟨w.heap.size + 1, 7, none⟩ (.int .u16 0)) := by
  have h1 := heap_setCell_same wr (w.heap.size + 1) 8 _ _ (.int .i8 a') hm
  have h2 := heap_setCell_same _ (w.heap.size + 1) 9 _ _ (.int .i8 b') h1
  have h3 := heap_setCell_same _ (w.heap.size + 1) 7 _ _ (.int .u16 0) h2
  have hM : MvAt (w.heap.size + 1) (tgN ⟨false, false, false, false, false, false⟩) a' b' pr (((wr.setCell ⟨w.heap.size + 1, 8, none⟩ (.int .i8 a')).setCell ⟨w.heap.size + 1, 9, none⟩ (.int .i8 b')).setCell ⟨w.heap.size + 1, 7, none⟩ (.int .u16 0)) := h3
  refine ⟨hM, ⟨_, _, _, _, hM⟩, ?_, ((h.bel.setCell (p := ⟨w.heap.size + 1, 8, none⟩) (by simp) _).setCell (p := ⟨w.heap.size + 1, 9, none⟩) (by simp) _).setCell (p := ⟨w.heap.size + 1, 7, none⟩) (by simp) _⟩
  intro j hj
  have e1 : (((wr.setCell ⟨w.heap.size + 1, 8, none⟩ (.int .i8 a')).setCell ⟨w.heap.size + 1, 9, none⟩ (.int .i8 b')).setCell ⟨w.heap.size + 1, 7, none⟩ (.int .u16 0)).heap[w.heap.size]? = wr.heap[w.heap.size]? := (heap_setCell_other _ _ _ _ (by simp)).trans ((heap_setCell_other _ _ _ _ (by simp)).trans (heap_setCell_other _ _ _ _ (by simp)))
  have h := h.arr j hj
  unfold World.cell? World.frozen? at h ⊢
  rw [e1]
  exact h
theorem SmSt.prom {w wr : World} (h : SmSt w wr) {z : Tg} {a b pr : Int} (hm : MvAt (w.heap.size + 1) (tgN z) a b pr wr) (pr' : Int) : MvAt (w.heap.size + 1) (tgN z) a b pr' (wr.setCell ⟨w.heap.size + 1, 10, none⟩ (.int .i8 pr')) ∧ SmSt w (wr.setCell ⟨w.heap.size + 1, 10, none⟩ (.int .i8 pr')) := by
  have hM : MvAt (w.heap.size + 1) (tgN z) a b pr' (wr.setCell ⟨w.heap.size + 1, 10, none⟩ (.int .i8 pr')) := heap_setCell_same wr (w.heap.size + 1) 10 _ _ (.int .i8 pr') hm
  refine ⟨hM, ⟨_, _, _, _, hM⟩, ?_, h.bel.setCell (p := ⟨w.heap.size + 1, 10, none⟩) (by simp) _⟩
  intro j hj
  have e1 := heap_setCell_other wr ⟨w.heap.size + 1, 10, none⟩ w.heap.size (.int .i8 pr') (by simp)
  have h := h.arr j hj
  unfold World.cell? World.frozen? at h ⊢
  rw [e1]
  exact h
theorem sm_std (p : List Int) (tn : Nat) (hs : Sound p tn) (hE : EpOk p tn) (hL : MvLaw p tn) (pg bg : Nat) (cas : ByteArray) (v : Value) (half full : Int) (chk : Bool) (w : World)
    (hpg : w.heap[pg]? = some (.cells (posW bg cas v half full tn (p.getD 66 0) chk) 103 (0, 0))) (hbg : w.heap[bg]? = some (.cells (brd p) 144 (0, 0))) (hT : Tabs w) (hA : IntSl w 0 .i8 allL) (hP : IntSl w 1 .i8 [2, 3, 4, 5]) :
    Calls Tryz.prog 100 #[.pointer (some ⟨pg, 0, none⟩), .bool true] w fun e w' => Below w.heap.size w w' ∧ ∃ g n, e = .returned (.slice (some ⟨g, 0, none⟩) n n) ∧ ((n = 1 ∧ ∃ q s1 s2, q < 12 ∧ q / 6 = tn ∧ s1 < 64 ∧ s2 < 64 ∧ goSq p tn q s1 s2 ∧ keepM p (mvAt s1 s2 (pr0 q s2)) = true ∧ ∃ t a b pr, w'.rangeAt g 0 (mvK t a b pr).toList) ∨ (n = 0 ∧ ∀ q s1 s2, q < 12 → q / 6 = tn → s1 < 64 → s2 < 64 → goSq p tn q s1 s2 → keepM p (mvAt s1 s2 (pr0 q s2)) = false)) := by
  have htn := hs.one
  have hpl : pg < w.heap.size := (Array.getElem?_eq_some_iff.1 hpg).1
  have hbl : bg < w.heap.size := (Array.getElem?_eq_some_iff.1 hbg).1
  have hLs := lay hL
  obtain ⟨qa, hqsp, hqa⟩ := al_cells hA
  have hqas := lay hqa
  obtain ⟨qp, hprsp, hpr⟩ := pr_cells hP
  have hprs := lay hpr
  have hst : Shut (SmSt w ((w.alloc (.cells Tryz.zeroCells163 163)).alloc (.cells (mvK 0 0 0 0) 73))) := by
    refine ⟨⟨⟨false, false, false, false, false, false⟩, 0, 0, 0, heap_alloc2_new w _ _⟩, ?_, ((Below.refl _ _).alloc (Nat.le_refl _) _).alloc (by simp) _⟩
    have hz : (Tryz.zeroCells163).size = 2398 := by kernel_rfl
    intro j hj
    have hr := heap_alloc2_old w (.cells Tryz.zeroCells163 163) (.cells (mvK 0 0 0 0) 73)
    rw [Nat.zero_add]
    refine ⟨?_, frozen_of_row _ _ _ _ _ hr⟩
    rw [cell_of_row _ _ _ _ _ _ hr, Array.getElem?_eq_getElem (by omega)]
    rfl
  -- what each later world holds
  have hpos : Shut (∀ wr, Below w.heap.size w wr → PgAt p tn pg bg wr ∧ wr.heap[pg]? = some (.cells (posW bg cas v half full tn (p.getD 66 0) chk) 103 (0, 0)) ∧ wr.heap[bg]? = some (.cells (brd p) 144 (0, 0))) := fun wr hb => by
    have r1 := (hb.block pg hpl).trans hpg
    have r2 := (hb.block bg hbl).trans hbg
    exact ⟨⟨cell_of_row wr pg 0 _ _ _ r1, cell_of_row wr pg 5 _ _ _ r1, cell_of_row wr pg 6 _ _ _ r1, r2, hT.below hb (Nat.le_refl _)⟩, r1, r2⟩
  have hep : p.getD 66 0 = -1 ∨ 0 ≤ p.getD 66 0 ∧ p.getD 66 0 ≤ 63 := by
    rcases hE.ep with h | ⟨e, h, h2, _⟩
    · exact Or.inl h
    · right; omega
  have hturn : Shut (∀ wr, Below w.heap.size w wr → Calls Tryz.prog 77 #[.pointer (some ⟨pg, 0, none⟩)] wr fun e w' => e = .returned (.int .i8 ((tn : Int) + 1)) ∧ wr = w') := fun wr hb => da_turn pg _ wr (hpos.out wr hb).1.c5
  have hbits : Shut (∀ (s : Nat) (W : World), s < 64 → Calls Tryz.prog 107 #[.int .i8 (s : Int)] W fun e w' => e = .returned (bbv (sqBit s)) ∧ W = w') := fun s W h => by
    have hh := sq_bit (s : Int) W (by omega) (by omega)
    rw [Int.toNat_natCast] at hh
    exact hh
  go_enter Tryz.func100, Tryz.ntmps100
  go_upto_region 4 with fail
  change Code.wp _ _ _ _ ((w.alloc (.cells Tryz.zeroCells163 163)).alloc (.cells (mvK 0 0 0 0) 73))
  generalize (w.alloc (.cells Tryz.zeroCells163 163)).alloc (.cells (mvK 0 0 0 0) 73) = W0 at *
  have hb0 := hst.out.bel
  have c0 : W0.cell? ⟨pg, 0, none⟩ = some (.pointer (some ⟨bg, 0, none⟩)) := (hpos.out W0 hb0).1.c0
  have c12 := (cell_of_row W0 bg 12 _ _ _ (hpos.out W0 hb0).2.2).trans (brd_white p)
  have c13 := (cell_of_row W0 bg 13 _ _ _ (hpos.out W0 hb0).2.2).trans (brd_black p)
  have cal := (hqas.out W0 hb0).1
  have hal : Shut (ownB p tn = if tn = 1 then blackB p else whiteB p) := rfl
  clear hpg hbg
  go_upto_if 30 with (go_at_call 77; refine (hturn.out _ hb0).mono ?_; rintro e1 w1 ⟨rfl, rfl⟩)
  go_cut [8] (fun s8 wx => s8 = bbv (~~~(ownB p tn)) ∧ SmSt w wx)
  case first =>
    rcases (show tn = 0 ∨ tn = 1 by omega) with rfl | rfl
    · go_wp2_with fail
      go_meet
      exact ⟨by rw [hal.out]; rfl, hst.out⟩
    · go_wp2_with fail
      go_meet
      exact ⟨by rw [hal.out]; rfl, hst.out⟩
  case rest =>
  clear c0 c12 c13 cal hb0 hst hal
  obtain ⟨rfl, st0⟩ := hcut
  have cal := (hqas.out wc st0.bel).1
  have st0 := lay st0
  go_wp2_with fail
  clear cal
  go_loopw [6, 41] (fun c i wr => c = .int .i64 0 ∧ ∃ k : Nat, k ≤ 12 ∧ i = .int .i64 (k : Int) ∧ SmSt w wr ∧ ∀ q s1 s2, q < k → q / 6 = tn → s1 < 64 → s2 < 64 → goSq p tn q s1 s2 → keepM p (mvAt s1 s2 (pr0 q s2)) = false) (fun _ i _ => (12 - intOf i).toNat)
  case atStart => exact ⟨rfl, 0, by omega, rfl, st0.out, fun q s1 s2 h => by omega⟩
  case round =>
    obtain ⟨rfl, k, hk, rfl, st1, hno⟩ := hrel
    have hno1 := lay hno
    have st1 := lay st1
    clear hno st0
    by_cases hlt : k < 12
    · have ck := (hqas.out wr st1.out.bel).2 k hlt
      have c0 := (hpos.out wr st1.out.bel).1.c0
      have hcol : Shut (∀ W : World, Calls Tryz.prog 110 #[.int .i8 ((k : Int) + 1)] W fun e w' => e = .returned (.int .i8 (((k / 6 : Nat) : Int) + 1)) ∧ W = w') := fun W => da_color k hlt W
      have hget : Shut (Calls Tryz.prog 105 #[.pointer (some ⟨bg, 0, none⟩), .int .i8 ((k : Int) + 1)] wr fun e w' => e = .returned (bbv (bbF p k)) ∧ wr = w') := bo_get _ _ _ _ _ _ _ k _ (hpos.out wr st1.out.bel).2.2 hlt
      by_cases hkt : k / 6 = tn
      · rw [hkt] at hcol
        have hktS := lay hkt
        clear hkt
        by_cases hz : bbF p k = 0#64
        · have bz : (bbF p k == 0#64) = true := by simpa using hz
          have hno2 : Shut (∀ q s1 s2, q < k + 1 → q / 6 = tn → s1 < 64 → s2 < 64 → goSq p tn q s1 s2 → keepM p (mvAt s1 s2 (pr0 q s2)) = false) := fun q s1 s2 h1 h2 h3 h4 h5 => by
            by_cases e : q = k
            · subst e
              have := h5.1
              rw [zero_sq _ hz] at this
              cases this
            · exact hno1.out q s1 s2 (by omega) h2 h3 h4 h5
          clear hz
          go_wp2_with (first
            | (go_at_call 77; refine (hturn.out _ st1.out.bel).mono ?_; rintro e1 w1 ⟨rfl, rfl⟩)
            | (go_at_call 110; refine (hcol.out _).mono ?_; rintro e1 w1 ⟨rfl, rfl⟩)
            | (go_at_call 105; refine hget.out.mono ?_; rintro e1 w1 ⟨rfl, rfl⟩))
          go_roundw
          case rel => exact ⟨rfl, k + 1, by omega, by go_num, st1.out, hno2.out⟩
          case measure => simp [intOf]; omega
        · have bz : (bbF p k == 0#64) = false := by simpa using hz
          clear hz
          go_wp2_with (first
            | (go_at_call 77; refine (hturn.out _ st1.out.bel).mono ?_; rintro e1 w1 ⟨rfl, rfl⟩)
            | (go_at_call 110; refine (hcol.out _).mono ?_; rintro e1 w1 ⟨rfl, rfl⟩)
            | (go_at_call 105; refine hget.out.mono ?_; rintro e1 w1 ⟨rfl, rfl⟩))
          go_loopw [6, 58] (fun c i wx => c = .int .i64 0 ∧ ∃ a : Nat, a ≤ 64 ∧ i = .int .i64 (a : Int) ∧ SmSt w wx ∧ ∀ s1 s2, s1 < a → s2 < 64 → goSq p tn k s1 s2 → keepM p (mvAt s1 s2 (pr0 k s2)) = false) (fun _ i _ => (64 - intOf i).toNat)
          case atStart => exact ⟨rfl, 0, by omega, rfl, st1.out, fun s1 s2 h => by omega⟩
          case round =>
            clear ck c0
            obtain ⟨rfl, a, ha, rfl, st2, hnoA⟩ := hrel
            have hnoA := lay hnoA
            have st2 := lay st2
            by_cases hla : a < 64
            · have c0 := (hpos.out wr st2.out.bel).1.c0
              have wa : IntKind.i8.wrap (a : Int) = (a : Int) := wrap_i8 _ (by omega) (by omega)
              have hza := and_sq (bbF p k) a hla
              have hlaz : (a : Int) < 64 := by omega
              have hbe : Shut (Below w.heap.size w wr) := st2.out.bel
              cases hoa : occ (bbF p k) a with
              | false =>
                rw [hoa] at hza
                have hz1 : (bbF p k &&& sqBit a == 0#64) = true := hza
                have hno3 : Shut (∀ s1 s2, s1 < a + 1 → s2 < 64 → goSq p tn k s1 s2 → keepM p (mvAt s1 s2 (pr0 k s2)) = false) := fun s1 s2 h1 h2 h3 => by
                  by_cases e : s1 = a
                  · subst e
                    have := h3.1
                    rw [hoa] at this
                    cases this
                  · exact hnoA.out s1 s2 (by omega) h2 h3
                clear hza hoa
                go_wp2_with (go_at_call 107; with_reducible refine (hbits.out a _ hla).mono ?_; rintro e1 w1 ⟨rfl, rfl⟩)
                go_roundw
                case rel => exact ⟨rfl, a + 1, by omega, by go_num, st2.out, hno3.out⟩
                case measure => simp [intOf]; omega
              | true =>
                rw [hoa] at hza
                have hz1 : (bbF p k &&& sqBit a == 0#64) = false := hza
                have hoaS := lay hoa
                clear hza hoa
                have hty : Shut (∀ W : World, Calls Tryz.prog 84 #[.int .i8 ((k : Int) + 1)] W fun e w' => e = .returned (.int .i8 (((k % 6 : Nat) : Int) + 1)) ∧ W = w') := fun W => da_type k hlt W
                have hps : Shut (Calls Tryz.prog 123 #[.pointer (some ⟨pg, 0, none⟩), .int .i8 (((k % 6 : Nat) : Int) + 1), .int .i8 (a : Int)] wr fun e w' => e = .returned (bbv (possB p tn (k % 6) a)) ∧ ∃ n, w' = wr.drewN n) := vp_poss p tn pg bg (k % 6) a htn (Nat.mod_lt _ (by decide)) hla hep wr (hpos.out wr st2.out.bel).1
                generalize hpo : possB p tn (k % 6) a = po at *
                by_cases hzg : po &&& ~~~(ownB p tn) = 0#64
                · have bzg : (po &&& ~~~(ownB p tn) == 0#64) = true := by simpa using hzg
                  have hno3 : Shut (∀ s1 s2, s1 < a + 1 → s2 < 64 → goSq p tn k s1 s2 → keepM p (mvAt s1 s2 (pr0 k s2)) = false) := fun s1 s2 h1 h2 h3 => by
                    by_cases e : s1 = a
                    · subst e
                      have := h3.2
                      unfold goesB at this
                      rw [hpo, zero_sq _ hzg] at this
                      cases this
                    · exact hnoA.out s1 s2 (by omega) h2 h3
                  clear hzg
                  go_wp2_with (first
                    | (go_at_call 107; with_reducible refine (hbits.out a _ hla).mono ?_; rintro e1 w1 ⟨rfl, rfl⟩)
                    | (go_at_call 84; refine (hty.out _).mono ?_; rintro e1 w1 ⟨rfl, rfl⟩)
                    | (go_at_call 123; refine hps.out.mono ?_; rintro e1 w1 ⟨rfl, n1, rfl⟩))
                  go_roundw
                  case rel => exact ⟨rfl, a + 1, by omega, by go_num, st2.out.drewN _, hno3.out⟩
                  case measure => simp [intOf]; omega
                · have bzg : (po &&& ~~~(ownB p tn) == 0#64) = false := by simpa using hzg
                  clear hzg
                  go_wp2_with (first
                    | (go_at_call 107; with_reducible refine (hbits.out a _ hla).mono ?_; rintro e1 w1 ⟨rfl, rfl⟩)
                    | (go_at_call 84; refine (hty.out _).mono ?_; rintro e1 w1 ⟨rfl, rfl⟩)
                    | (go_at_call 123; refine hps.out.mono ?_; rintro e1 w1 ⟨rfl, n1, rfl⟩))
                  go_loopw [6, 77] (fun c i wx => c = .int .i64 0 ∧ ∃ b : Nat, b ≤ 64 ∧ i = .int .i64 (b : Int) ∧ SmSt w wx ∧ ∀ s2, s2 < b → goSq p tn k a s2 → keepM p (mvAt a s2 (pr0 k s2)) = false) (fun _ i _ => (64 - intOf i).toNat)
                  case atStart => exact ⟨rfl, 0, by omega, rfl, st2.out.drewN _, fun s2 h => by omega⟩
                  case round =>
                    clear c0 hps hbe
                    obtain ⟨rfl, b, hb, rfl, st3, hnoB⟩ := hrel
                    have hnoB := lay hnoB
                    have st3 := lay st3
                    by_cases hlb : b < 64
                    · have wb : IntKind.i8.wrap (b : Int) = (b : Int) := wrap_i8 _ (by omega) (by omega)
                      have hlbz : (b : Int) < 64 := by omega
                      have hzb := and_sq (po &&& ~~~(ownB p tn)) b hlb
                      cases hob : occ (po &&& ~~~(ownB p tn)) b with
                      | false =>
                        rw [hob] at hzb
                        have hz2 : (po &&& ~~~(ownB p tn) &&& sqBit b == 0#64) = true := hzb
                        have hno4 : Shut (∀ s2, s2 < b + 1 → goSq p tn k a s2 → keepM p (mvAt a s2 (pr0 k s2)) = false) := fun s2 h1 h2 => by
                          by_cases e : s2 = b
                          · subst e
                            have := h2.2
                            unfold goesB at this
                            rw [hpo, hob] at this
                            cases this
                          · exact hnoB.out s2 (by omega) h2
                        clear hzb hob
                        go_wp2_with (go_at_call 107; with_reducible refine (hbits.out b _ hlb).mono ?_; rintro e1 w1 ⟨rfl, rfl⟩)
                        go_roundw
                        case rel => exact ⟨rfl, b + 1, by omega, by go_num, st3.out, hno4.out⟩
                        case measure => simp [intOf]; omega
                      | true =>
                        rw [hob] at hzb
                        have hz2 : (po &&& ~~~(ownB p tn) &&& sqBit b == 0#64) = false := hzb
                        have hgo : Shut (goSq p tn k a b) := ⟨hoaS.out, by unfold goesB; rw [hpo]; exact hob⟩
                        clear hzb hob
                        obtain ⟨z0, a0, b0, p0, hm0⟩ := st3.out.mv
                        have n7 := hm0.c7
                        have n8 := hm0.c8
                        have n9 := hm0.c9
                        have f7 := frozen_of_row _ _ 7 _ _ hm0
                        have f8 := frozen_of_row _ _ 8 _ _ hm0
                        have f9 := frozen_of_row _ _ 9 _ _ hm0
                        have hm0 := lay hm0
                        go_upto_region 26 with (go_at_call 107; with_reducible refine (hbits.out b _ hlb).mono ?_; rintro e1 w1 ⟨rfl, rfl⟩)
                        obtain ⟨hm3, st4⟩ := st3.out.put hm0.out (a : Int) (b : Int)
                        clear n7 n8 n9 f7 f8 f9 hm0 st3
                        generalize ((wr.setCell ⟨w.heap.size + 1, 8, none⟩ (.int .i8 (a : Int))).setCell ⟨w.heap.size + 1, 9, none⟩ (.int .i8 (b : Int))).setCell ⟨w.heap.size + 1, 7, none⟩ (.int .u16 0) = W3 at *
                        have hm3 := lay hm3
                        have st4 := lay st4
                        have hrk : Shut (∀ W : World, Calls Tryz.prog 124 #[.int .i8 (b : Int)] W fun e w' => e = .returned (.int .i8 ((b : Int) / 8)) ∧ W = w') := fun W => da_rank (b : Int) W (by omega) (by omega)
                        go_cut [110] (fun s110 wx => s110 = .bool (isProm k b) ∧ wx = W3)
                        case first =>
                          have hip : Shut (isProm k b = ((decide (k = 5) && decide (b / 8 = 7)) || (decide (k = 11) && decide (b / 8 = 0)))) := rfl
                          by_cases e5 : k = 5
                          · have b6 : ((k : Int) + 1 == 6) = true := by simp; omega
                            have b12 : ((k : Int) + 1 == 12) = false := by simp; omega
                            by_cases e7 : b / 8 = 7
                            · have b7 : ((b : Int) / 8 == 7) = true := by simp; omega
                              have hh : Shut (isProm k b = true) := by show _ = _; rw [hip.out]; simp [e5, e7]
                              clear e5 e7
                              go_wp2_with (go_at_call 124; refine (hrk.out _).mono ?_; rintro e1 w1 ⟨rfl, rfl⟩)
                              go_meet
                              exact ⟨by rw [hh.out], rfl⟩
                            · have b7 : ((b : Int) / 8 == 7) = false := by simp; omega
                              have hh : Shut (isProm k b = false) := by show _ = _; rw [hip.out]; simp [e5, e7]
                              clear e5 e7
                              go_wp2_with (go_at_call 124; refine (hrk.out _).mono ?_; rintro e1 w1 ⟨rfl, rfl⟩)
                              go_meet
                              exact ⟨by rw [hh.out], rfl⟩
                          · have b6 : ((k : Int) + 1 == 6) = false := by simp; omega
                            by_cases e11 : k = 11
                            · have b12 : ((k : Int) + 1 == 12) = true := by simp; omega
                              by_cases e0 : b / 8 = 0
                              · have b7 : ((b : Int) / 8 == 0) = true := by simp; omega
                                have hh : Shut (isProm k b = true) := by show _ = _; rw [hip.out]; simp [e11, e0]
                                clear e5 e11 e0
                                go_wp2_with (go_at_call 124; refine (hrk.out _).mono ?_; rintro e1 w1 ⟨rfl, rfl⟩)
                                go_meet
                                exact ⟨by rw [hh.out], rfl⟩
                              · have b7 : ((b : Int) / 8 == 0) = false := by simp; omega
                                have hh : Shut (isProm k b = false) := by show _ = _; rw [hip.out]; simp [e11, e0]
                                clear e5 e11 e0
                                go_wp2_with (go_at_call 124; refine (hrk.out _).mono ?_; rintro e1 w1 ⟨rfl, rfl⟩)
                                go_meet
                                exact ⟨by rw [hh.out], rfl⟩
                            · have b12 : ((k : Int) + 1 == 12) = false := by simp; omega
                              have hh : Shut (isProm k b = false) := by show _ = _; rw [hip.out]; simp [e5, e11]
                              clear e5 e11
                              go_wp2_with fail
                              go_meet
                              exact ⟨by rw [hh.out], rfl⟩
                        case rest =>
                        obtain ⟨rfl, rfl⟩ := hcut
                        cases hip : isProm k b with
                        | false =>
                          obtain ⟨hm4, st5⟩ := st4.out.prom hm3.out 0
                          have c10 := hm3.out.c10
                          have f10 := frozen_of_row _ _ 10 _ _ hm3.out
                          have htr := lay (sm_try p tn hs hLs.out k a b hlt hktS.out hla hlb hgo.out pg bg cas v half full chk w _ hpl hbl (hpos.out _ st5.bel).2.1 (hpos.out _ st5.bel).2.2 hT hA ⟨false, false, false, false, false, false⟩ 0 (fun _ => rfl) (fun h => by rw [hip] at h; cases h) rfl rfl (fun h => by cases h) hm4 st5)
                          obtain ⟨kp, hkp⟩ : ∃ kp : Bool, keepM p (mvAt a b 0) = kp := ⟨_, rfl⟩
                          have how : Shut ((tagsOf p tn (mvAt a b 0) ⟨false, false, false, false, false, false⟩).own = !kp) := by show (false || !keepM p (mvAt a b 0)) = _; rw [hkp]; rfl
                          have hp0 : Shut (pr0 k b = 0) := by show _ = _; unfold pr0; rw [hip]; rfl
                          have hkpS := lay hkp
                          clear hm4 st5 hkp
                          generalize tagsOf p tn (mvAt a b 0) ⟨false, false, false, false, false, false⟩ = tz at *
                          go_upto_if 138 with (first
                            | (go_at_call 125; refine htr.out.mono ?_; rintro e5 w5 ⟨rfl, st6, hm6⟩; have st6 := lay st6; have hm6 := lay hm6)
                            | (go_at_call 85; refine (vc_has _ _ _ _ _ 32 _ hm6.out (!kp) ((tg_and32 tz).trans how.out)).mono ?_; rintro e6 w6 ⟨rfl, rfl⟩))
                          cases kp with
                          | false =>
                            have hno4 : Shut (∀ s2, s2 < b + 1 → goSq p tn k a s2 → keepM p (mvAt a s2 (pr0 k s2)) = false) := fun s2 h1 h2 => by
                              by_cases e : s2 = b
                              · subst e
                                rw [hp0.out]
                                exact hkpS.out
                              · exact hnoB.out s2 (by omega) h2
                            go_wp2_with fail
                            go_roundw
                            case rel => exact ⟨rfl, b + 1, by omega, by go_num, st6.out, hno4.out⟩
                            case measure => simp [intOf]; omega
                          | true =>
                            have hrow6 : Shut (w5.heap[w.heap.size + 1]? = some (.cells (mvK (tgN tz) (a : Int) (b : Int) 0) 73 (0, 0))) := hm6.out
                            go_upto_region 46 with (first
                              | ((with_reducible refine at_load_row hrow6.out Tryz.underlying73 rfl ?_ ?_ ?_); kernel_rfl; rfl)
                              | ((with_reducible refine at_store_mid w.heap.size 0 (mvK (tgN tz) (a : Int) (b : Int) 0) ?_ ?_ ?_ ?_ ?_ ?_); exact st6.out.arr; exact mvS_info _ _ _ _; exact mvK_one _ _ _ _; rfl; rfl; intro W6 r6 z6 b6 _ _ _))
                            have bel6 := b6.out w.heap.size w (Nat.le_refl _) st6.out.bel
                            have bel6 := lay bel6
                            go_upto_region 47 with fail
                            have r7 : Shut ((W6.alloc (.cells (mvK 0 0 0 0) 169)).rangeAt w.heap.size 0 (mvK (tgN tz) (a : Int) (b : Int) 0).toList) := World.rangeAt_alloc r6.out _
                            have row7 : Shut ((W6.alloc (.cells (mvK 0 0 0 0) 169)).heap[W6.heap.size]? = some (.cells (mvK 0 0 0 0) 169 (0, 0))) := heap_alloc_new W6 _
                            have bel7 : Shut (Below w.heap.size w (W6.alloc (.cells (mvK 0 0 0 0) 169))) := bel6.out.alloc bel6.out.size _
                            have hsz7 := lay bel6.out.size
                            change Code.wp _ _ _ _ (W6.alloc (.cells (mvK 0 0 0 0) 169))
                            have th7 : Shut ((W6.alloc (.cells (mvK 0 0 0 0) 169)).there W6.heap.size 0 (mvK (tgN tz) (a : Int) (b : Int) 0).size) := there_rowN (cs := mvK 0 0 0 0) rfl row7.out
                            clear r6 z6 b6 bel6
                            generalize W6.alloc (.cells (mvK 0 0 0 0) 169) = W7 at *
                            go_wp2_with (first
                              | ((with_reducible refine at_load_mid (mvK (tgN tz) (a : Int) (b : Int) 0) r7.out Tryz.underlying73 rfl ?_ ?_ ?_); exact mvS_info _ _ _ _; rfl)
                              | ((with_reducible refine at_store_mid W6.heap.size 0 (mvK (tgN tz) (a : Int) (b : Int) 0) th7.out ?_ ?_ ?_ ?_ ?_); exact mvS_info _ _ _ _; exact mvK_one _ _ _ _; rfl; rfl; intro W8 r8 z8 b8 _ _ _; have bel8 := lay (b8.out w.heap.size w hsz7.out bel7.out); clear z8 b8))
                            go_ret
                            exact ⟨bel8.out, W6.heap.size, 1, rfl, Or.inl ⟨rfl, k, a, b, hlt, hktS.out, hla, hlb, hgo.out, by rw [hp0.out]; exact hkpS.out, _, _, _, _, r8.out⟩⟩
                        | true =>
                          have hp2 : Shut (pr0 k b = 2) := by show _ = _; unfold pr0; rw [hip]; rfl
                          obtain ⟨kp, hkp⟩ : ∃ kp : Bool, keepM p (mvAt a b 2) = kp := ⟨_, rfl⟩
                          have hsame : Shut (∀ pr : Int, 2 ≤ pr → pr ≤ 5 → keepM p (mvAt a b pr) = kp) := fun pr h0 h1 => (hLs.out.same k a b pr hlt hktS.out hla hlb hgo.out hip h0 h1).trans hkp
                          have hkpS := lay hkp
                          have hcst : Shut (∀ pr : Int, castM p (mvAt a b pr) = false) := fun pr => hLs.out.cast k a b pr hlt hktS.out hla hlb hgo.out
                          have hpas : Shut (∀ pr : Int, passM p (mvAt a b pr) = false) := fun pr => hLs.out.pass k a b pr hlt hktS.out hla hlb hgo.out hip
                          have cpr := (hprs.out _ st4.out.bel).1
                          have hipS := lay hip
                          clear hkp hip
                          go_wp2_with fail
                          go_loopw [6, 113] (fun c i wx => c = .int .i64 0 ∧ ∃ n : Nat, n ≤ 4 ∧ i = .int .i64 (n : Int) ∧ SmSt w wx ∧ (0 < n → kp = false) ∧ ∃ z pr, MvAt (w.heap.size + 1) (tgN z) a b pr wx ∧ z.ks = false ∧ z.qs = false ∧ z.ep = false ∧ (z.own = true → 0 < n)) (fun _ i _ => (4 - intOf i).toNat)
                          case atStart => exact ⟨rfl, 0, by omega, rfl, st4.out, fun h => absurd h (by omega), _, _, hm3.out, rfl, rfl, rfl, fun h => by cases h⟩
                          case round =>
                            clear cpr
                            obtain ⟨rfl, n, hn, rfl, st5, hnk, z, pr1, hm5, z1, z2, z3, z4⟩ := hrel
                            have st5 := lay st5
                            have hnk := lay hnk
                            have z4 := lay z4
                            by_cases hln : n < 4
                            · have cpk := (hprs.out _ st5.out.bel).2 n hln
                              have n10 := hm5.c10
                              have f10 := frozen_of_row _ _ 10 _ _ hm5
                              have hm5 := lay hm5
                              have hlnz : (n : Int) < 4 := by omega
                              go_upto_region 31 with fail
                              obtain ⟨hm6, st6⟩ := st5.out.prom hm5.out ((n : Int) + 2)
                              have htr := lay (sm_try p tn hs hLs.out k a b hlt hktS.out hla hlb hgo.out pg bg cas v half full chk w _ hpl hbl (hpos.out _ st6.bel).2.1 (hpos.out _ st6.bel).2.2 hT hA z ((n : Int) + 2) (fun h => by rw [hipS.out] at h; cases h) (fun _ => ⟨by omega, by omega⟩) z1 z2 (fun h => by rw [z3] at h; cases h) hm6 st6)
                              have how : Shut ((tagsOf p tn (mvAt a b ((n : Int) + 2)) z).own = !kp) := by
                                show (z.own || !keepM p (mvAt a b ((n : Int) + 2))) = !kp
                                rw [hsame.out _ (by omega) (by omega)]
                                cases hkc : kp with
                                | false => simp
                                | true =>
                                  cases ho : z.own with
                                  | false => rfl
                                  | true =>
                                    have := hnk.out (z4.out ho)
                                    rw [hkc] at this
                                    cases this
                              have t1 : Shut ((tagsOf p tn (mvAt a b ((n : Int) + 2)) z).ks = false) := by show (castM p _ && _) = false; rw [hcst.out]; rfl
                              have t2 : Shut ((tagsOf p tn (mvAt a b ((n : Int) + 2)) z).qs = false) := by show (castM p _ && _) = false; rw [hcst.out]; rfl
                              have t3 : Shut ((tagsOf p tn (mvAt a b ((n : Int) + 2)) z).ep = false) := by show passM p _ = false; exact hpas.out _
                              clear hm6 st6 z1 z2 z3 n10 f10 cpk
                              generalize tagsOf p tn (mvAt a b ((n : Int) + 2)) z = tz at *
                              go_upto_if 122 with (first
                                | (go_at_call 125; refine htr.out.mono ?_; rintro e5 w5 ⟨rfl, st7, hm7⟩; have st7 := lay st7; have hm7 := lay hm7)
                                | (go_at_call 85; refine (vc_has _ _ _ _ _ 32 _ hm7.out (!kp) ((tg_and32 tz).trans how.out)).mono ?_; rintro e6 w6 ⟨rfl, rfl⟩))
                              cases kp with
                              | false =>
                                go_wp2_with fail
                                go_roundw
                                case rel => exact ⟨rfl, n + 1, by omega, by go_num, st7.out, by simp, tz, _, hm7.out, t1.out, t2.out, t3.out, fun _ => by omega⟩
                                case measure => simp [intOf]; omega
                              | true =>
                                have hrow6 : Shut (w5.heap[w.heap.size + 1]? = some (.cells (mvK (tgN tz) (a : Int) (b : Int) ((n : Int) + 2)) 73 (0, 0))) := hm7.out
                                go_upto_region 36 with (first
                                  | ((with_reducible refine at_load_row hrow6.out Tryz.underlying73 rfl ?_ ?_ ?_); kernel_rfl; rfl)
                                  | ((with_reducible refine at_store_mid w.heap.size 0 (mvK (tgN tz) (a : Int) (b : Int) ((n : Int) + 2)) ?_ ?_ ?_ ?_ ?_ ?_); exact st7.out.arr; exact mvS_info _ _ _ _; exact mvK_one _ _ _ _; rfl; rfl; intro W6 r6 z6 b6 _ _ _))
                                have bel6 := b6.out w.heap.size w (Nat.le_refl _) st7.out.bel
                                have bel6 := lay bel6
                                go_upto_region 37 with fail
                                have r7 : Shut ((W6.alloc (.cells (mvK 0 0 0 0) 169)).rangeAt w.heap.size 0 (mvK (tgN tz) (a : Int) (b : Int) ((n : Int) + 2)).toList) := World.rangeAt_alloc r6.out _
                                have row7 : Shut ((W6.alloc (.cells (mvK 0 0 0 0) 169)).heap[W6.heap.size]? = some (.cells (mvK 0 0 0 0) 169 (0, 0))) := heap_alloc_new W6 _
                                have bel7 : Shut (Below w.heap.size w (W6.alloc (.cells (mvK 0 0 0 0) 169))) := bel6.out.alloc bel6.out.size _
                                have hsz7 := lay bel6.out.size
                                change Code.wp _ _ _ _ (W6.alloc (.cells (mvK 0 0 0 0) 169))
                                have th7 : Shut ((W6.alloc (.cells (mvK 0 0 0 0) 169)).there W6.heap.size 0 (mvK (tgN tz) (a : Int) (b : Int) ((n : Int) + 2)).size) := there_rowN (cs := mvK 0 0 0 0) rfl row7.out
                                clear r6 z6 b6 bel6
                                generalize W6.alloc (.cells (mvK 0 0 0 0) 169) = W7 at *
                                go_wp2_with (first
                                  | ((with_reducible refine at_load_mid (mvK (tgN tz) (a : Int) (b : Int) ((n : Int) + 2)) r7.out Tryz.underlying73 rfl ?_ ?_ ?_); exact mvS_info _ _ _ _; rfl)
                                  | ((with_reducible refine at_store_mid W6.heap.size 0 (mvK (tgN tz) (a : Int) (b : Int) ((n : Int) + 2)) th7.out ?_ ?_ ?_ ?_ ?_); exact mvS_info _ _ _ _; exact mvK_one _ _ _ _; rfl; rfl; intro W8 r8 z8 b8 _ _ _; have bel8 := lay (b8.out w.heap.size w hsz7.out bel7.out); clear z8 b8))
                                go_ret
                                exact ⟨bel8.out, W6.heap.size, 1, rfl, Or.inl ⟨rfl, k, a, b, hlt, hktS.out, hla, hlb, hgo.out, by rw [hp2.out]; exact hkpS.out, _, _, _, _, r8.out⟩⟩
                            · obtain rfl : n = 4 := by omega
                              have hkf : kp = false := hnk.out (by omega)
                              have hno4 : Shut (∀ s2, s2 < b + 1 → goSq p tn k a s2 → keepM p (mvAt a s2 (pr0 k s2)) = false) := fun s2 h1 h2 => by
                                by_cases e : s2 = b
                                · subst e
                                  rw [hp2.out]
                                  exact hkpS.out.trans hkf
                                · exact hnoB.out s2 (by omega) h2
                              clear hkf hm5 z1 z2 z3
                              go_wp2_with fail
                              go_roundw
                              case rel => exact ⟨rfl, b + 1, by omega, by go_num, st5.out, hno4.out⟩
                              case measure => simp [intOf]; omega
                    · obtain rfl : b = 64 := by omega
                      have hno3 : Shut (∀ s1 s2, s1 < a + 1 → s2 < 64 → goSq p tn k s1 s2 → keepM p (mvAt s1 s2 (pr0 k s2)) = false) := fun s1 s2 h1 h2 h3 => by
                        by_cases e : s1 = a
                        · subst e
                          exact hnoB.out s2 h2 h3
                        · exact hnoA.out s1 s2 (by omega) h2 h3
                      go_wp2_with fail
                      go_roundw
                      case rel => exact ⟨rfl, a + 1, by omega, by go_num, st3.out, hno3.out⟩
                      case measure => simp [intOf]; omega
            · obtain rfl : a = 64 := by omega
              have hno2 : Shut (∀ q s1 s2, q < k + 1 → q / 6 = tn → s1 < 64 → s2 < 64 → goSq p tn q s1 s2 → keepM p (mvAt s1 s2 (pr0 q s2)) = false) := fun q s1 s2 h1 h2 h3 h4 h5 => by
                by_cases e : q = k
                · subst e
                  exact hnoA.out s1 s2 h3 h4 h5
                · exact hno1.out q s1 s2 (by omega) h2 h3 h4 h5
              go_wp2_with fail
              go_roundw
              case rel => exact ⟨rfl, k + 1, by omega, by go_num, st2.out, hno2.out⟩
              case measure => simp [intOf]; omega
      · have bn : ((tn : Int) + 1 != ((k / 6 : Nat) : Int) + 1) = true := by simp; omega
        have hno2 : Shut (∀ q s1 s2, q < k + 1 → q / 6 = tn → s1 < 64 → s2 < 64 → goSq p tn q s1 s2 → keepM p (mvAt s1 s2 (pr0 q s2)) = false) := fun q s1 s2 h1 h2 h3 h4 h5 => by
          have hne : q ≠ k := fun e => hkt (by rw [← e]; exact h2)
          exact hno1.out q s1 s2 (by omega) h2 h3 h4 h5
        clear hkt
        go_wp2_with (first
          | (go_at_call 77; refine (hturn.out _ st1.out.bel).mono ?_; rintro e1 w1 ⟨rfl, rfl⟩)
          | (go_at_call 110; refine (hcol.out _).mono ?_; rintro e1 w1 ⟨rfl, rfl⟩))
        go_roundw
        case rel => exact ⟨rfl, k + 1, by omega, by go_num, st1.out, hno2.out⟩
        case measure => simp [intOf]; omega
    · obtain rfl : k = 12 := by omega
      have hno : Shut (∀ q s1 s2, q < 12 → q / 6 = tn → s1 < 64 → s2 < 64 → goSq p tn q s1 s2 → keepM p (mvAt s1 s2 (pr0 q s2)) = false) := hno1.out
      obtain ⟨i0, hi, hz0, hz1, hz2⟩ := info_parts (show (Tryz.prog.info? 73).map (fun i => (i.zero, i.size, i.bytes)) = some (some (.agg (mvK 0 0 0 0)), 11, 96) by kernel_rfl)
      have hmk : (Instr.makeSlice 61 (.int .i64 0) (.int .i64 0)).run Tryz.prog wr = .ok (.slice (some ⟨wr.heap.size, 0, none⟩) 0 0) (wr.alloc (.cells #[] 73)) := by
        have h := run_make (P := Tryz.prog) wr 61 73 i0 (.agg (mvK 0 0 0 0)) Tryz.underlying61 hi hz0 .i64 .i64 0 0 (by decide) (by decide) (by rw [hz2]; decide) (by decide)
        rw [h, hz1, show Int.toNat 0 * 11 = 0 from rfl, madeCells_zero]
        rfl
      have b9 : Shut (Below w.heap.size w (wr.alloc (.cells #[] 73))) := st1.out.bel.alloc st1.out.bel.size _
      have hcs : Shut (((Tryz.prog.info? 73).map (·.size)).isSome = true) := show _ = true by kernel_rfl
      go_wp2_with ((with_reducible refine at_copy_zero 73 Tryz.underlying61 hcs.out ⟨wr.heap.size, 0, none⟩ ⟨w.heap.size, 0, none⟩ 0 0 218 ?_ ?_ ?_); rfl; rfl)
      go_ret
      exact ⟨b9.out, wr.heap.size, 0, rfl, Or.inr ⟨rfl, hno.out⟩⟩
end Go.Proofs.YtnjdgooljnbebaaGreatDoor
