/- All the moves that leave the own king out of check, with their tags (standardMoves with first = false). (Printed by gen_vw.py out of XVs.) -/
import Derived.Test.YtnjdgooljnbebaaGreatDoorG7
namespace Go.Proofs.YtnjdgooljnbebaaGreatDoor
open Go Go.RowKit
set_option maxHeartbeats 8000000
set_option linter.unusedSimpArgs false
set_option linter.unusedVariables false
set_option maxRecDepth 100000

/-- The array of moves holds a list. -/
def SmA (L : List (Array Value)) (w wr : World) : Prop := wr.there w.heap.size 0 2398 ∧ wr.rangeAt w.heap.size 0 (flat L)
theorem SmA.same {L : List (Array Value)} {w wr W : World} (h : SmA L w wr) (e : W.heap[w.heap.size]? = wr.heap[w.heap.size]?) : SmA L w W := by
  constructor
  · intro j hj
    have h := h.1 j hj
    unfold World.cell? World.frozen? at h ⊢
    rw [e]
    exact h
  · intro j v hj
    have h := h.2 j v hj
    unfold World.cell? at h ⊢
    rw [e]
    exact h
/-- One more move lies in the array. -/
theorem sm_store {L : List (Array Value)} {w wr W : World} {o : Nat} {cs : Array Value} (h : SmSt w wr) (hA : SmA L w wr) (hL : (flat L).length = o) (r : W.rangeAt w.heap.size o cs.toList) (bb : ∀ B w0, B ≤ w.heap.size → Below B w0 wr → Below B w0 W) (oth : ∀ g, g ≠ w.heap.size → W.heap[g]? = wr.heap[g]?)
    (th : ∀ o' n, wr.there w.heap.size o' n → W.there w.heap.size o' n) (ap : ∀ o' cs', o' + cs'.length ≤ o ∨ o + cs.size ≤ o' → wr.rangeAt w.heap.size o' cs' → W.rangeAt w.heap.size o' cs') : SmSt w W ∧ SmA (L ++ [cs]) w W ∧ W.heap[w.heap.size + 1]? = wr.heap[w.heap.size + 1]? := by
  obtain ⟨z, a, b, pr, hm⟩ := h.mv
  have e1 := oth (w.heap.size + 1) (by omega)
  refine ⟨⟨⟨z, a, b, pr, e1.trans hm⟩, th _ _ h.arr, bb _ _ (Nat.le_refl _) h.bel⟩, ⟨th _ _ hA.1, ?_⟩, e1⟩
  rw [flat_app]
  refine range_app (ap 0 _ (Or.inl (by omega)) hA.2) ?_
  rw [hL, Nat.zero_add]
  exact r
/-- One move is tried: its tags; the array stays. -/
theorem sm_tryA (p : List Int) (tn : Nat) (hs : Sound p tn) (hL : MvLaw p tn) (k a b : Nat) (hk : k < 12) (hkt : k / 6 = tn) (ha : a < 64) (hb : b < 64) (hgo : goSq p tn k a b) (pg bg : Nat) (cas : ByteArray) (v : Value) (half full : Int) (chk : Bool) (w wr : World) (hpl : pg < w.heap.size) (hbl : bg < w.heap.size)
    (hpg : wr.heap[pg]? = some (.cells (posW bg cas v half full tn (p.getD 66 0) chk) 103 (0, 0))) (hbg : wr.heap[bg]? = some (.cells (brd p) 144 (0, 0))) (hT : Tabs w) (hA : IntSl w 0 .i8 allL) (z : Tg) (pr : Int) (h1 : isProm k b = false → pr = 0) (h2 : isProm k b = true → 2 ≤ pr ∧ pr ≤ 5) (hz1 : z.ks = false) (hz2 : z.qs = false) (hz3 : z.ep = true → passM p (mvAt a b pr) = true) (hm : MvAt (w.heap.size + 1) (tgN z) a b pr wr) (hS : SmSt w wr) :
    Calls Tryz.prog 125 #[.pointer (some ⟨w.heap.size + 1, 0, none⟩), .pointer (some ⟨pg, 0, none⟩)] wr fun e w' => e = .returned (.tuple #[]) ∧ SmSt w w' ∧ MvAt (w.heap.size + 1) (tgN (tagsOf p tn (mvAt a b pr) z)) a b pr w' ∧ w'.heap[w.heap.size]? = wr.heap[w.heap.size]? := by
  obtain ⟨g1, g2, g3⟩ := hL.good k a b pr hk hkt ha hb hgo h1 h2
  refine (vt_tags p tn hs (mvAt a b pr) g1 g2 z (g3 z hz1 hz2 hz3) pg bg (w.heap.size + 1) cas v half full chk w wr hpg hbg hm (by omega) (by omega) hS.bel (by omega) hT hA).mono ?_
  rintro e w' ⟨rfl, hm', hK⟩
  have hlt : w.heap.size + 1 < wr.heap.size := (Array.getElem?_eq_some_iff.1 hm).1
  have e1 : w'.heap[w.heap.size]? = wr.heap[w.heap.size]? := hK.1 _ (by omega) (by omega)
  refine ⟨rfl, ⟨⟨_, _, _, _, hm'⟩, ?_, hK.2.2 _ _ (by omega) hS.bel.size hS.bel⟩, hm', e1⟩
  intro j hj
  have h := hS.arr j hj
  unfold World.cell? World.frozen? at h ⊢
  rw [e1]
  exact h
theorem upTo_next (p : List Int) (tn k a b : Nat) : upTo p tn k a (b + 1) = upTo p tn k a b ++ goE p tn k a b := by
  unfold upTo
  rw [lB, List.append_assoc, List.append_assoc, List.append_assoc]
theorem upTo_zero (p : List Int) (tn k a : Nat) : upTo p tn k a 0 = lQ p tn k ++ lA p tn k a := by
  unfold upTo
  rw [lB, List.append_nil]
theorem upTo_end (p : List Int) (tn k a : Nat) : lQ p tn k ++ lA p tn k (a + 1) = upTo p tn k a 64 := by
  unfold upTo
  rw [lA, List.append_assoc]
theorem lQ_end (p : List Int) (tn k : Nat) (h : k / 6 = tn) : lQ p tn (k + 1) = lQ p tn k ++ lA p tn k 64 := by
  rw [lQ]
  unfold qE
  rw [if_pos h]
theorem lQ_no (p : List Int) (tn k : Nat) (h : k / 6 ≠ tn) : lQ p tn (k + 1) = lQ p tn k := by
  rw [lQ]
  unfold qE
  rw [if_neg h, List.append_nil]
theorem goE_no (p : List Int) (tn k a b : Nat) (h : goB p tn k a b = false) : goE p tn k a b = [] := by
  unfold goE
  rw [h]
  rfl
theorem lB_no (p : List Int) (tn k a : Nat) : ∀ n, (∀ b, b < n → goB p tn k a b = false) → lB p tn k a n = []
  | 0, _ => rfl
  | n + 1, h => by
    rw [lB, lB_no p tn k a n fun b hb => h b (by omega), goE_no p tn k a n (h n (by omega))]
    rfl
theorem lA_no (p : List Int) (tn k : Nat) : ∀ n, (∀ a b, a < n → b < 64 → goB p tn k a b = false) → lA p tn k n = []
  | 0, _ => rfl
  | n + 1, h => by
    rw [lA, lA_no p tn k n fun a b ha hb => h a b (by omega) hb, lB_no p tn k n 64 fun b hb => h n b (by omega) hb]
    rfl
theorem goB_from (p : List Int) (tn k a b : Nat) (h : occ (bbF p k) a = false) : goB p tn k a b = false := by
  unfold goB
  rw [h, Bool.false_and]
theorem goB_to (p : List Int) (tn k a b : Nat) (h : occ (goesB p tn k a) b = false) : goB p tn k a b = false := by
  unfold goB
  rw [h, Bool.and_false]
theorem oneE_no {p : List Int} {m : Mv} {t : Tg} (h : keepM p m = false) : oneE p m t = [] := by unfold oneE; rw [h]; rfl
theorem oneE_yes {p : List Int} {m : Mv} {t : Tg} (h : keepM p m = true) : oneE p m t = [(m, t)] := by unfold oneE; rw [h]; rfl
theorem tgP_off (p : List Int) (tn a b : Nat) (hc : ∀ pr : Int, castM p (mvAt a b pr) = false) (hp : ∀ pr : Int, passM p (mvAt a b pr) = false) : ∀ n, (tgP p tn a b n).ks = false ∧ (tgP p tn a b n).qs = false ∧ (tgP p tn a b n).ep = false
  | 0 => ⟨rfl, rfl, rfl⟩
  | n + 1 => by
    refine ⟨?_, ?_, ?_⟩
    · show (castM p _ && _) = false
      rw [hc]
      rfl
    · show (castM p _ && _) = false
      rw [hc]
      rfl
    · show passM p _ = false
      exact hp _
theorem tgP_own (p : List Int) (tn a b : Nat) (kp : Bool) (hs : ∀ pr : Int, 2 ≤ pr → pr ≤ 5 → keepM p (mvAt a b pr) = kp) : ∀ n, n ≤ 4 → (tgP p tn a b n).own = (decide (0 < n) && !kp)
  | 0, _ => rfl
  | n + 1, h => by
    show ((tgP p tn a b n).own || !keepM p (mvAt a b ((n : Int) + 2))) = _
    rw [tgP_own p tn a b kp hs n (by omega), hs _ (by omega) (by omega)]
    have e : decide (0 < n + 1) = true := decide_eq_true (by omega)
    rw [e]
    cases kp <;> cases decide (0 < n) <;> rfl
/-- A copy of elements of many cells. -/
theorem run_copy_wide {P : Program} (w : World) (dT sT ty elem : TypeId) (i : TypeInfo) (b o dLen dCap : Nat) (a : Addr) (sLen sCap : Nat) (cs : List Value) (n : Nat)
    (hu : P.underlying dT = some (.slice elem)) (hi : P.info? elem = some i) (hn : n = Nat.min sLen dLen) (hl : cs.length = n * i.size)
    (hsrc : ∀ j v, cs[j]? = some v → w.cell? (a.add j) = some v) (hc : ∀ j, j < cs.length → (w.cell? ⟨b, o + j, none⟩).isSome = true) (hf : ∀ j, j < cs.length → w.frozen? ⟨b, o + j, none⟩ = false) (h1 : ∀ v ∈ cs, v.oneCell' = true) :
    (Builtin.copy_ #[dT, sT] ty #[.slice (some ⟨b, o, none⟩) dLen dCap, .slice (some a) sLen sCap]).run P w = .ok (goInt n) (w.setCells b o cs) := by
  have hfc := run_firstCells_some (P := P) w i.size n a sLen sCap cs hl hsrc
  have hst := run_storeCells_cells (P := P) b o cs 0 w (by simpa using hc) (by simpa using hf) h1
  simp [Builtin.copy_, run_underlying hu, Builtin.lenOf, sizeOf, typeInfo, hi, ← hn, hfc, hst]
theorem at_copy_wide {P : Program} {w : World} {ops : Array Oper} {rest : List Oper} {a : Act} {Q : Exit → Act → World → Prop} {d : Option Tmp} {x y : Operand} {ty dT sT : TypeId} {ps : String} {af : Array Edge} (elem : TypeId) (i : TypeInfo)
    (hu : P.underlying dT = some (.slice elem)) (hi : P.info? elem = some i) (b dLen dCap : Nat) (sp : Addr) (sLen sCap : Nat) (cs : List Value) (n : Nat) (hn : n = Nat.min sLen dLen) (hl : cs.length = n * i.size)
    (hsrc : ∀ j v, cs[j]? = some v → w.cell? (sp.add j) = some v) (hth : w.there b 0 cs.length) (h1 : ∀ v ∈ cs, v.oneCell' = true) (hx : a.eval x = .slice (some ⟨b, 0, none⟩) dLen dCap) (hy : a.eval y = .slice (some sp) sLen sCap)
    (h : ∀ W : World, Shut (W.rangeAt b 0 cs) → Shut (∀ B w0, B ≤ b → Below B w0 w → Below B w0 W) → wpList P ops Q rest (a.put d (goInt n)) W) : wpList P ops Q ({ dst := d, op := .call { callee := .builtin .copy, args := #[x, y], argTypes := #[dT, sT] }, type := ty, pos := ps, after := af, guard := none } :: rest) a w := by
  refine wpList_plain rfl fun K hK => ?_
  have hrun := run_copy_wide (P := P) w dT sT ty elem i b 0 dLen dCap sp sLen sCap cs n hu hi hn hl hsrc (fun j hj => (hth j hj).1) (fun j hj => (hth j hj).2) h1
  unfold Oper.wp
  simp [execOp, resolve, invoke, builtin, hx, hy, hrun, Result.andThen]
  exact hK _ _ (h _ (World.rangeAt_setCells_same _ _ _ _ hth) (fun B w0 hB hb => below_cells _ _ _ _ hb hB))
theorem madeCells_size (cs : Array Value) (n : Nat) : (madeCells cs n).size = n := by simp [madeCells]
theorem sm_all (p : List Int) (tn : Nat) (hs : Sound p tn) (hE : EpOk p tn) (hL : MvLaw p tn) (pg bg : Nat) (cas : ByteArray) (v : Value) (half full : Int) (chk : Bool) (w : World)
    (hpg : w.heap[pg]? = some (.cells (posW bg cas v half full tn (p.getD 66 0) chk) 103 (0, 0))) (hbg : w.heap[bg]? = some (.cells (brd p) 144 (0, 0))) (hT : Tabs w) (hA : IntSl w 0 .i8 allL) (hP : IntSl w 1 .i8 [2, 3, 4, 5]) (hcap : (lQ p tn 12).length ≤ 218) :
    Calls Tryz.prog 100 #[.pointer (some ⟨pg, 0, none⟩), .bool false] w fun e w' => Below w.heap.size w w' ∧ ∃ g, e = .returned (.slice (some ⟨g, 0, none⟩) (lQ p tn 12).length (lQ p tn 12).length) ∧ w'.rangeAt g 0 (flat (ents (lQ p tn 12))) := by
  have htn := hs.one
  have hcapS := lay hcap
  clear hcap
  have hpl : pg < w.heap.size := (Array.getElem?_eq_some_iff.1 hpg).1
  have hbl : bg < w.heap.size := (Array.getElem?_eq_some_iff.1 hbg).1
  have hLs := lay hL
  obtain ⟨qa, hqsp, hqa⟩ := al_cells hA
  have hqas := lay hqa
  obtain ⟨qp, hprsp, hpr⟩ := pr_cells hP
  have hprs := lay hpr
  have hst : Shut (SmSt w ((w.alloc (.cells Tryz.zeroCells163 163)).alloc (.cells (mvK 0 0 0 0) 73)) ∧ SmA [] w ((w.alloc (.cells Tryz.zeroCells163 163)).alloc (.cells (mvK 0 0 0 0) 73))) := by
    have hz : (Tryz.zeroCells163).size = 2398 := by kernel_rfl
    have hr := heap_alloc2_old w (.cells Tryz.zeroCells163 163) (.cells (mvK 0 0 0 0) 73)
    have th := there_rowN hz hr
    refine ⟨⟨⟨⟨false, false, false, false, false, false⟩, 0, 0, 0, heap_alloc2_new w _ _⟩, there_sub th (by decide), ((Below.refl _ _).alloc (Nat.le_refl _) _).alloc (by simp) _⟩, th, ?_⟩
    intro j u hj
    simp [flat] at hj
  -- what each later world holds
  have hpos : Shut (∀ wr, Below w.heap.size w wr → PgAt p tn pg bg wr ∧ wr.heap[pg]? = some (.cells (posW bg cas v half full tn (p.getD 66 0) chk) 103 (0, 0)) ∧ wr.heap[bg]? = some (.cells (brd p) 144 (0, 0))) := fun wr hb => by
    have r1 := (hb.block pg hpl).trans hpg
    have r2 := (hb.block bg hbl).trans hbg
    exact ⟨⟨cell_of_row wr pg 0 _ _ _ r1, cell_of_row wr pg 5 _ _ _ r1, cell_of_row wr pg 6 _ _ _ r1, r2, hT.below hb (Nat.le_refl _)⟩, r1, r2⟩
  have hep : p.getD 66 0 = -1 ∨ 0 ≤ p.getD 66 0 ∧ p.getD 66 0 ≤ 63 := by
    rcases hE.ep with h | ⟨e, h, h2, _⟩
    · exact Or.inl h
    · right; omega
  have hturn : Shut (∀ wr, Below w.heap.size w wr → Calls Tryz.prog 77 #[.pointer (some ⟨pg, 0, none⟩)] wr fun e w' => e = .returned (.int .i8 ((tn : Int) + 1)) ∧ wr = w') := fun wr hb => da_turn pg _ wr (hpos.out wr hb).1.c5
  have hbits : Shut (∀ (s : Nat) (W : World), s < 64 → Calls Tryz.prog 107 #[.int .i8 (s : Int)] W fun e w' => e = .returned (bbv (sqBit s)) ∧ W = w') := fun s W h => by
    have hh := sq_bit (s : Int) W (by omega) (by omega)
    rw [Int.toNat_natCast] at hh
    exact hh
  go_enter Tryz.func100, Tryz.ntmps100
  go_upto_region 4 with fail
  change Code.wp _ _ _ _ ((w.alloc (.cells Tryz.zeroCells163 163)).alloc (.cells (mvK 0 0 0 0) 73))
  generalize (w.alloc (.cells Tryz.zeroCells163 163)).alloc (.cells (mvK 0 0 0 0) 73) = W0 at *
  have hb0 := hst.out.1.bel
  have c0 : W0.cell? ⟨pg, 0, none⟩ = some (.pointer (some ⟨bg, 0, none⟩)) := (hpos.out W0 hb0).1.c0
  have c12 := (cell_of_row W0 bg 12 _ _ _ (hpos.out W0 hb0).2.2).trans (brd_white p)
  have c13 := (cell_of_row W0 bg 13 _ _ _ (hpos.out W0 hb0).2.2).trans (brd_black p)
  have cal := (hqas.out W0 hb0).1
  have hal : Shut (ownB p tn = if tn = 1 then blackB p else whiteB p) := rfl
  clear hpg hbg
  go_upto_if 30 with (go_at_call 77; refine (hturn.out _ hb0).mono ?_; rintro e1 w1 ⟨rfl, rfl⟩)
  go_cut [8] (fun s8 wx => s8 = bbv (~~~(ownB p tn)) ∧ SmSt w wx ∧ SmA [] w wx)
  case first =>
    clear hcapS
    rcases (show tn = 0 ∨ tn = 1 by omega) with rfl | rfl
    · go_wp2_with fail
      go_meet
      exact ⟨by rw [hal.out]; rfl, hst.out⟩
    · go_wp2_with fail
      go_meet
      exact ⟨by rw [hal.out]; rfl, hst.out⟩
  case rest =>
  clear c0 c12 c13 cal hb0 hst hal
  obtain ⟨rfl, st0, sa0⟩ := hcut
  have cal := (hqas.out wc st0.bel).1
  have st0 := lay st0
  have sa0 := lay sa0
  go_wp2_with fail
  clear cal
  go_loopw [6, 41] (fun c i wr => ∃ k m : Nat, k ≤ 12 ∧ c = .int .i64 (m : Int) ∧ i = .int .i64 (k : Int) ∧ m = (lQ p tn k).length ∧ SmSt w wr ∧ SmA (ents (lQ p tn k)) w wr) (fun _ i _ => (12 - intOf i).toNat)
  case atStart => exact ⟨0, 0, by omega, rfl, rfl, rfl, st0.out, sa0.out⟩
  case round =>
    obtain ⟨k, m1, hk, rfl, rfl, hm1r, st1, sa1⟩ := hrel
    have hm1 := lay hm1r
    clear hm1r
    have st1 := lay st1
    have sa1 := lay sa1
    clear st0 sa0
    by_cases hlt : k < 12
    · have ck := (hqas.out wr st1.out.bel).2 k hlt
      have c0 := (hpos.out wr st1.out.bel).1.c0
      have hcol : Shut (∀ W : World, Calls Tryz.prog 110 #[.int .i8 ((k : Int) + 1)] W fun e w' => e = .returned (.int .i8 (((k / 6 : Nat) : Int) + 1)) ∧ W = w') := fun W => da_color k hlt W
      have hget : Shut (Calls Tryz.prog 105 #[.pointer (some ⟨bg, 0, none⟩), .int .i8 ((k : Int) + 1)] wr fun e w' => e = .returned (bbv (bbF p k)) ∧ wr = w') := bo_get _ _ _ _ _ _ _ k _ (hpos.out wr st1.out.bel).2.2 hlt
      by_cases hkt : k / 6 = tn
      · rw [hkt] at hcol
        have hktS := lay hkt
        clear hkt
        by_cases hz : bbF p k = 0#64
        · have bz : (bbF p k == 0#64) = true := by simpa using hz
          have hE : Shut (lQ p tn (k + 1) = lQ p tn k) := by
            show _ = _
            rw [lQ_end p tn k hktS.out, lA_no p tn k 64 fun a b _ _ => goB_from p tn k a b (zero_sq _ hz a), List.append_nil]
          clear hz
          go_wp2_with (first
            | (go_at_call 77; refine (hturn.out _ st1.out.bel).mono ?_; rintro e1 w1 ⟨rfl, rfl⟩)
            | (go_at_call 110; refine (hcol.out _).mono ?_; rintro e1 w1 ⟨rfl, rfl⟩)
            | (go_at_call 105; refine hget.out.mono ?_; rintro e1 w1 ⟨rfl, rfl⟩))
          go_roundw
          case rel => exact ⟨k + 1, m1, by omega, rfl, by go_num, by rw [hE.out]; exact hm1.out, st1.out, by rw [hE.out]; exact sa1.out⟩
          case measure => simp [intOf]; omega
        · have bz : (bbF p k == 0#64) = false := by simpa using hz
          clear hz
          go_wp2_with (first
            | (go_at_call 77; refine (hturn.out _ st1.out.bel).mono ?_; rintro e1 w1 ⟨rfl, rfl⟩)
            | (go_at_call 110; refine (hcol.out _).mono ?_; rintro e1 w1 ⟨rfl, rfl⟩)
            | (go_at_call 105; refine hget.out.mono ?_; rintro e1 w1 ⟨rfl, rfl⟩))
          go_loopw [6, 58] (fun c i wx => ∃ a m : Nat, a ≤ 64 ∧ c = .int .i64 (m : Int) ∧ i = .int .i64 (a : Int) ∧ m = (lQ p tn k ++ lA p tn k a).length ∧ SmSt w wx ∧ SmA (ents (lQ p tn k ++ lA p tn k a)) w wx) (fun _ i _ => (64 - intOf i).toNat)
          case atStart => exact ⟨0, m1, by omega, rfl, rfl, by rw [lA, List.append_nil]; exact hm1.out, st1.out, by rw [lA, List.append_nil]; exact sa1.out⟩
          case round =>
            clear ck c0
            obtain ⟨a, m2, ha, rfl, rfl, hm2r, st2, sa2⟩ := hrel
            have hm2 := lay hm2r
            clear hm2r
            have st2 := lay st2
            have sa2 := lay sa2
            by_cases hla : a < 64
            · have c0 := (hpos.out wr st2.out.bel).1.c0
              have wa : IntKind.i8.wrap (a : Int) = (a : Int) := wrap_i8 _ (by omega) (by omega)
              have hza := and_sq (bbF p k) a hla
              have hlaz : (a : Int) < 64 := by omega
              have hbe : Shut (Below w.heap.size w wr) := st2.out.bel
              cases hoa : occ (bbF p k) a with
              | false =>
                rw [hoa] at hza
                have hz1 : (bbF p k &&& sqBit a == 0#64) = true := hza
                have hE : Shut (lQ p tn k ++ lA p tn k (a + 1) = lQ p tn k ++ lA p tn k a) := by
                  show _ = _
                  rw [lA, lB_no p tn k a 64 fun b _ => goB_from p tn k a b hoa, List.append_nil]
                clear hza hoa
                go_wp2_with (go_at_call 107; with_reducible refine (hbits.out a _ hla).mono ?_; rintro e1 w1 ⟨rfl, rfl⟩)
                go_roundw
                case rel => exact ⟨a + 1, m2, by omega, rfl, by go_num, by rw [hE.out]; exact hm2.out, st2.out, by rw [hE.out]; exact sa2.out⟩
                case measure => simp [intOf]; omega
              | true =>
                rw [hoa] at hza
                have hz1 : (bbF p k &&& sqBit a == 0#64) = false := hza
                have hoaS := lay hoa
                clear hza hoa
                have hty : Shut (∀ W : World, Calls Tryz.prog 84 #[.int .i8 ((k : Int) + 1)] W fun e w' => e = .returned (.int .i8 (((k % 6 : Nat) : Int) + 1)) ∧ W = w') := fun W => da_type k hlt W
                have hps : Shut (Calls Tryz.prog 123 #[.pointer (some ⟨pg, 0, none⟩), .int .i8 (((k % 6 : Nat) : Int) + 1), .int .i8 (a : Int)] wr fun e w' => e = .returned (bbv (possB p tn (k % 6) a)) ∧ ∃ n, w' = wr.drewN n) := vp_poss p tn pg bg (k % 6) a htn (Nat.mod_lt _ (by decide)) hla hep wr (hpos.out wr st2.out.bel).1
                generalize hpo : possB p tn (k % 6) a = po at *
                by_cases hzg : po &&& ~~~(ownB p tn) = 0#64
                · have bzg : (po &&& ~~~(ownB p tn) == 0#64) = true := by simpa using hzg
                  have hE : Shut (lQ p tn k ++ lA p tn k (a + 1) = lQ p tn k ++ lA p tn k a) := by
                    show _ = _
                    rw [lA, lB_no p tn k a 64 fun b _ => goB_to p tn k a b (by unfold goesB; rw [hpo, zero_sq _ hzg]), List.append_nil]
                  clear hzg
                  go_wp2_with (first
                    | (go_at_call 107; with_reducible refine (hbits.out a _ hla).mono ?_; rintro e1 w1 ⟨rfl, rfl⟩)
                    | (go_at_call 84; refine (hty.out _).mono ?_; rintro e1 w1 ⟨rfl, rfl⟩)
                    | (go_at_call 123; refine hps.out.mono ?_; rintro e1 w1 ⟨rfl, n1, rfl⟩))
                  go_roundw
                  case rel => exact ⟨a + 1, m2, by omega, rfl, by go_num, by rw [hE.out]; exact hm2.out, st2.out.drewN _, by rw [hE.out]; exact sa2.out.same rfl⟩
                  case measure => simp [intOf]; omega
                · have bzg : (po &&& ~~~(ownB p tn) == 0#64) = false := by simpa using hzg
                  clear hzg
                  go_wp2_with (first
                    | (go_at_call 107; with_reducible refine (hbits.out a _ hla).mono ?_; rintro e1 w1 ⟨rfl, rfl⟩)
                    | (go_at_call 84; refine (hty.out _).mono ?_; rintro e1 w1 ⟨rfl, rfl⟩)
                    | (go_at_call 123; refine hps.out.mono ?_; rintro e1 w1 ⟨rfl, n1, rfl⟩))
                  go_loopw [6, 77] (fun c i wx => ∃ b m : Nat, b ≤ 64 ∧ c = .int .i64 (m : Int) ∧ i = .int .i64 (b : Int) ∧ m = (upTo p tn k a b).length ∧ SmSt w wx ∧ SmA (ents (upTo p tn k a b)) w wx) (fun _ i _ => (64 - intOf i).toNat)
                  case atStart => exact ⟨0, m2, by omega, rfl, rfl, by rw [upTo_zero]; exact hm2.out, st2.out.drewN _, by rw [upTo_zero]; exact sa2.out.same rfl⟩
                  case round =>
                    clear c0 hps hbe
                    obtain ⟨b, m3, hb, rfl, rfl, hm3Lr, st3, sa3⟩ := hrel
                    have hm3L := lay hm3Lr
                    clear hm3Lr
                    have st3 := lay st3
                    have sa3 := lay sa3
                    by_cases hlb : b < 64
                    · have wb : IntKind.i8.wrap (b : Int) = (b : Int) := wrap_i8 _ (by omega) (by omega)
                      have hlbz : (b : Int) < 64 := by omega
                      have hzb := and_sq (po &&& ~~~(ownB p tn)) b hlb
                      cases hob : occ (po &&& ~~~(ownB p tn)) b with
                      | false =>
                        rw [hob] at hzb
                        have hz2 : (po &&& ~~~(ownB p tn) &&& sqBit b == 0#64) = true := hzb
                        have hE : Shut (upTo p tn k a (b + 1) = upTo p tn k a b) := by
                          show _ = _
                          rw [upTo_next, goE_no p tn k a b (goB_to p tn k a b (by unfold goesB; rw [hpo]; exact hob)), List.append_nil]
                        clear hzb hob
                        go_wp2_with (go_at_call 107; with_reducible refine (hbits.out b _ hlb).mono ?_; rintro e1 w1 ⟨rfl, rfl⟩)
                        go_roundw
                        case rel => exact ⟨b + 1, m3, by omega, rfl, by go_num, by rw [hE.out]; exact hm3L.out, st3.out, by rw [hE.out]; exact sa3.out⟩
                        case measure => simp [intOf]; omega
                      | true =>
                        rw [hob] at hzb
                        have hz2 : (po &&& ~~~(ownB p tn) &&& sqBit b == 0#64) = false := hzb
                        have hgo : Shut (goSq p tn k a b) := ⟨hoaS.out, by unfold goesB; rw [hpo]; exact hob⟩
                        clear hzb hob
                        obtain ⟨z0, a0, b0, p0, hm0⟩ := st3.out.mv
                        have n7 := hm0.c7
                        have n8 := hm0.c8
                        have n9 := hm0.c9
                        have f7 := frozen_of_row _ _ 7 _ _ hm0
                        have f8 := frozen_of_row _ _ 8 _ _ hm0
                        have f9 := frozen_of_row _ _ 9 _ _ hm0
                        have hm0 := lay hm0
                        go_upto_region 26 with (go_at_call 107; with_reducible refine (hbits.out b _ hlb).mono ?_; rintro e1 w1 ⟨rfl, rfl⟩)
                        obtain ⟨hm3, st4⟩ := st3.out.put hm0.out (a : Int) (b : Int)
                        have sa4 : SmA (ents (upTo p tn k a b)) w (((wr.setCell ⟨w.heap.size + 1, 8, none⟩ (.int .i8 (a : Int))).setCell ⟨w.heap.size + 1, 9, none⟩ (.int .i8 (b : Int))).setCell ⟨w.heap.size + 1, 7, none⟩ (.int .u16 0)) := sa3.out.same ((heap_setCell_other _ _ _ _ (by simp)).trans ((heap_setCell_other _ _ _ _ (by simp)).trans (heap_setCell_other _ _ _ _ (by simp))))
                        have hgoB : Shut (goB p tn k a b = true) := (goB_iff p tn k a b).2 hgo.out
                        have hroom := lay (room_go p tn k a b hlt hktS.out hla hlb)
                        clear n7 n8 n9 f7 f8 f9 hm0 st3
                        generalize ((wr.setCell ⟨w.heap.size + 1, 8, none⟩ (.int .i8 (a : Int))).setCell ⟨w.heap.size + 1, 9, none⟩ (.int .i8 (b : Int))).setCell ⟨w.heap.size + 1, 7, none⟩ (.int .u16 0) = W3 at *
                        have hm3 := lay hm3
                        have st4 := lay st4
                        have sa4 := lay sa4
                        have hrk : Shut (∀ W : World, Calls Tryz.prog 124 #[.int .i8 (b : Int)] W fun e w' => e = .returned (.int .i8 ((b : Int) / 8)) ∧ W = w') := fun W => da_rank (b : Int) W (by omega) (by omega)
                        go_cut [110] (fun s110 wx => s110 = .bool (isProm k b) ∧ wx = W3)
                        case first =>
                          have hip : Shut (isProm k b = ((decide (k = 5) && decide (b / 8 = 7)) || (decide (k = 11) && decide (b / 8 = 0)))) := rfl
                          by_cases e5 : k = 5
                          · have b6 : ((k : Int) + 1 == 6) = true := by simp; omega
                            have b12 : ((k : Int) + 1 == 12) = false := by simp; omega
                            by_cases e7 : b / 8 = 7
                            · have b7 : ((b : Int) / 8 == 7) = true := by simp; omega
                              have hh : Shut (isProm k b = true) := by show _ = _; rw [hip.out]; simp [e5, e7]
                              clear e5 e7
                              go_wp2_with (go_at_call 124; refine (hrk.out _).mono ?_; rintro e1 w1 ⟨rfl, rfl⟩)
                              go_meet
                              exact ⟨by rw [hh.out], rfl⟩
                            · have b7 : ((b : Int) / 8 == 7) = false := by simp; omega
                              have hh : Shut (isProm k b = false) := by show _ = _; rw [hip.out]; simp [e5, e7]
                              clear e5 e7
                              go_wp2_with (go_at_call 124; refine (hrk.out _).mono ?_; rintro e1 w1 ⟨rfl, rfl⟩)
                              go_meet
                              exact ⟨by rw [hh.out], rfl⟩
                          · have b6 : ((k : Int) + 1 == 6) = false := by simp; omega
                            by_cases e11 : k = 11
                            · have b12 : ((k : Int) + 1 == 12) = true := by simp; omega
                              by_cases e0 : b / 8 = 0
                              · have b7 : ((b : Int) / 8 == 0) = true := by simp; omega
                                have hh : Shut (isProm k b = true) := by show _ = _; rw [hip.out]; simp [e11, e0]
                                clear e5 e11 e0
                                go_wp2_with (go_at_call 124; refine (hrk.out _).mono ?_; rintro e1 w1 ⟨rfl, rfl⟩)
                                go_meet
                                exact ⟨by rw [hh.out], rfl⟩
                              · have b7 : ((b : Int) / 8 == 0) = false := by simp; omega
                                have hh : Shut (isProm k b = false) := by show _ = _; rw [hip.out]; simp [e11, e0]
                                clear e5 e11 e0
                                go_wp2_with (go_at_call 124; refine (hrk.out _).mono ?_; rintro e1 w1 ⟨rfl, rfl⟩)
                                go_meet
                                exact ⟨by rw [hh.out], rfl⟩
                            · have b12 : ((k : Int) + 1 == 12) = false := by simp; omega
                              have hh : Shut (isProm k b = false) := by show _ = _; rw [hip.out]; simp [e5, e11]
                              clear e5 e11
                              go_wp2_with fail
                              go_meet
                              exact ⟨by rw [hh.out], rfl⟩
                        case rest =>
                        obtain ⟨rfl, rfl⟩ := hcut
                        cases hip : isProm k b with
                        | false =>
                          obtain ⟨hm4, st5⟩ := st4.out.prom hm3.out 0
                          have sa5 : Shut (SmA (ents (upTo p tn k a b)) w (wc.setCell ⟨w.heap.size + 1, 10, none⟩ (.int .i8 0))) := sa4.out.same (heap_setCell_other _ _ _ _ (by simp))
                          have c10 := hm3.out.c10
                          have f10 := frozen_of_row _ _ 10 _ _ hm3.out
                          have htr := lay (sm_tryA p tn hs hLs.out k a b hlt hktS.out hla hlb hgo.out pg bg cas v half full chk w _ hpl hbl (hpos.out _ st5.bel).2.1 (hpos.out _ st5.bel).2.2 hT hA tg0 0 (fun _ => rfl) (fun h => by rw [hip] at h; cases h) rfl rfl (fun h => by cases h) hm4 st5)
                          obtain ⟨kp, hkp⟩ : ∃ kp : Bool, keepM p (mvAt a b 0) = kp := ⟨_, rfl⟩
                          have how : Shut ((tagsOf p tn (mvAt a b 0) tg0).own = !kp) := by show (false || !keepM p (mvAt a b 0)) = _; rw [hkp]; rfl
                          have hG : Shut (goE p tn k a b = oneE p (mvAt a b 0) (tagsOf p tn (mvAt a b 0) tg0)) := by
                            show _ = _
                            unfold goE
                            rw [hgoB.out, hip]
                            rfl
                          have hkpS := lay hkp
                          clear hm4 st5 hkp
                          generalize tagsOf p tn (mvAt a b 0) tg0 = tz at *
                          go_upto_if 138 with (first
                            | (go_at_call 125; refine htr.out.mono ?_; rintro e5 w5 ⟨rfl, st6, hm6, e6A⟩; have st6 := lay st6; have hm6 := lay hm6; have sa6 := lay (sa5.out.same e6A); clear e6A)
                            | (go_at_call 85; refine (vc_has _ _ _ _ _ 32 _ hm6.out (!kp) ((tg_and32 tz).trans how.out)).mono ?_; rintro e6 w6 ⟨rfl, rfl⟩))
                          cases kp with
                          | false =>
                            have hE : Shut (upTo p tn k a (b + 1) = upTo p tn k a b) := by
                              show _ = _
                              rw [upTo_next, hG.out, oneE_no hkpS.out, List.append_nil]
                            go_wp2_with fail
                            go_roundw
                            case rel => exact ⟨b + 1, m3, by omega, rfl, by go_num, by rw [hE.out]; exact hm3L.out, st6.out, by rw [hE.out]; exact sa6.out⟩
                            case measure => simp [intOf]; omega
                          | true =>
                            have hrow6 : Shut (w5.heap[w.heap.size + 1]? = some (.cells (mvK (tgN tz) (a : Int) (b : Int) 0) 73 (0, 0))) := hm6.out
                            have hE : Shut (upTo p tn k a (b + 1) = upTo p tn k a b ++ [(mvAt a b 0, tz)]) := by
                              show _ = _
                              rw [upTo_next, hG.out, oneE_yes hkpS.out]
                            have h218 : m3 < 218 := by
                              have h0 := hcapS.out
                              have h1 := hroom.out
                              rw [hG.out, oneE_yes hkpS.out] at h1
                              have h2 := hm3L.out
                              simp at h1
                              omega
                            have h218z : (m3 : Int) < 218 := by omega
                            have hoff : Shut ((flat (ents (upTo p tn k a b))).length = (m3 * 11)) := by show _ = _; rw [ents_len, ← hm3L.out, Nat.mul_comm]
                            have th6 : Shut (w5.there w.heap.size (m3 * 11) (mvK (tgN tz) (a : Int) (b : Int) 0).size) := there_sub sa6.out.1 (by show (m3 * 11) + 11 ≤ 2398; omega)
                            clear h218
                            go_wp2_with (first
                              | ((with_reducible refine at_load_row hrow6.out Tryz.underlying73 rfl ?_ ?_ ?_); kernel_rfl; rfl)
                              | ((with_reducible refine at_store_mid w.heap.size (m3 * 11) (mvK (tgN tz) (a : Int) (b : Int) 0) th6.out ?_ ?_ ?_ ?_ ?_); exact mvS_info _ _ _ _; exact mvK_one _ _ _ _; rfl; rfl; intro W6 r6 z6 b6 o6 t6 a6; obtain ⟨st7, sa7, _⟩ := sm_store st6.out sa6.out hoff.out r6.out b6.out o6.out t6.out a6.out; have st7 := lay st7; have sa7 := lay sa7; clear r6 z6 b6 o6 t6 a6))
                            skip
                            go_roundw
                            case rel => exact ⟨b + 1, m3 + 1, by omega, by go_num, by go_num, by rw [hE.out, List.length_append, ← hm3L.out]; rfl, st7.out, by rw [hE.out, ents_app]; exact sa7.out⟩
                            case measure => simp [intOf]; omega
                        | true =>
                          obtain ⟨kp, hkp⟩ : ∃ kp : Bool, keepM p (mvAt a b 2) = kp := ⟨_, rfl⟩
                          have hsame : Shut (∀ pr : Int, 2 ≤ pr → pr ≤ 5 → keepM p (mvAt a b pr) = kp) := fun pr h0 h1 => (hLs.out.same k a b pr hlt hktS.out hla hlb hgo.out hip h0 h1).trans hkp
                          have hkpS := lay hkp
                          have hcst : Shut (∀ pr : Int, castM p (mvAt a b pr) = false) := fun pr => hLs.out.cast k a b pr hlt hktS.out hla hlb hgo.out
                          have hpas : Shut (∀ pr : Int, passM p (mvAt a b pr) = false) := fun pr => hLs.out.pass k a b pr hlt hktS.out hla hlb hgo.out hip
                          have cpr := (hprs.out _ st4.out.bel).1
                          have hoffs := lay (tgP_off p tn a b hcst.out hpas.out)
                          have howns := lay (tgP_own p tn a b kp hsame.out)
                          have hG : Shut (goE p tn k a b = lP p tn a b 4) := by
                            show _ = _
                            unfold goE
                            rw [hgoB.out, hip]
                            rfl
                          have hipS := lay hip
                          clear hkp hip
                          go_wp2_with fail
                          go_loopw [6, 113] (fun c i wx => ∃ n m : Nat, n ≤ 4 ∧ c = .int .i64 (m : Int) ∧ i = .int .i64 (n : Int) ∧ m = (upTo p tn k a b ++ lP p tn a b n).length ∧ SmSt w wx ∧ SmA (ents (upTo p tn k a b ++ lP p tn a b n)) w wx ∧ ∃ pr, MvAt (w.heap.size + 1) (tgN (tgP p tn a b n)) a b pr wx) (fun _ i _ => (4 - intOf i).toNat)
                          case atStart => exact ⟨0, m3, by omega, rfl, rfl, by rw [lP, List.append_nil]; exact hm3L.out, st4.out, by rw [lP, List.append_nil]; exact sa4.out, _, hm3.out⟩
                          case round =>
                            clear cpr
                            obtain ⟨n, m4, hn, rfl, rfl, hm4Lr, st5, sa5, pr1, hm5⟩ := hrel
                            have hm4L := lay hm4Lr
                            clear hm4Lr
                            have st5 := lay st5
                            have sa5 := lay sa5
                            by_cases hln : n < 4
                            · have cpk := (hprs.out _ st5.out.bel).2 n hln
                              have n10 := hm5.c10
                              have f10 := frozen_of_row _ _ 10 _ _ hm5
                              have hm5 := lay hm5
                              have hlnz : (n : Int) < 4 := by omega
                              go_upto_region 31 with fail
                              obtain ⟨hm6, st6⟩ := st5.out.prom hm5.out ((n : Int) + 2)
                              have sa6 : Shut (SmA (ents (upTo p tn k a b ++ lP p tn a b n)) w (wr.setCell ⟨w.heap.size + 1, 10, none⟩ (.int .i8 ((n : Int) + 2)))) := sa5.out.same (heap_setCell_other _ _ _ _ (by simp))
                              obtain ⟨z1, z2, z3⟩ := hoffs.out n
                              have htr := lay (sm_tryA p tn hs hLs.out k a b hlt hktS.out hla hlb hgo.out pg bg cas v half full chk w _ hpl hbl (hpos.out _ st6.bel).2.1 (hpos.out _ st6.bel).2.2 hT hA (tgP p tn a b n) ((n : Int) + 2) (fun h => by rw [hipS.out] at h; cases h) (fun _ => ⟨by omega, by omega⟩) z1 z2 (fun h => by rw [z3] at h; cases h) hm6 st6)
                              have how : Shut ((tgP p tn a b (n + 1)).own = !kp) := by
                                show _ = _
                                rw [howns.out (n + 1) (by omega), decide_eq_true (show 0 < n + 1 by omega), Bool.true_and]
                              have hlP : Shut (lP p tn a b (n + 1) = lP p tn a b n ++ oneE p (mvAt a b ((n : Int) + 2)) (tgP p tn a b (n + 1))) := rfl
                              have hkn : Shut (keepM p (mvAt a b ((n : Int) + 2)) = kp) := hsame.out _ (by omega) (by omega)
                              have htz : tagsOf p tn (mvAt a b ((n : Int) + 2)) (tgP p tn a b n) = tgP p tn a b (n + 1) := rfl
                              rw [htz] at htr
                              clear hm6 st6 z1 z2 z3 n10 f10 cpk htz
                              generalize htq : tgP p tn a b (n + 1) = tz at *
                              have htq := lay htq
                              go_upto_if 122 with (first
                                | (go_at_call 125; refine htr.out.mono ?_; rintro e5 w5 ⟨rfl, st7, hm7, e7A⟩; have st7 := lay st7; have hm7 := lay hm7; have sa7 := lay (sa6.out.same e7A); clear e7A)
                                | (go_at_call 85; refine (vc_has _ _ _ _ _ 32 _ hm7.out (!kp) ((tg_and32 tz).trans how.out)).mono ?_; rintro e6 w6 ⟨rfl, rfl⟩))
                              cases kp with
                              | false =>
                                go_wp2_with fail
                                go_roundw
                                case rel => exact ⟨n + 1, m4, by omega, rfl, by go_num, by rw [hlP.out, oneE_no hkn.out, List.append_nil]; exact hm4L.out, st7.out, by rw [hlP.out, oneE_no hkn.out, List.append_nil]; exact sa7.out, _, by rw [htq.out]; exact hm7.out⟩
                                case measure => simp [intOf]; omega
                              | true =>
                                have hrow6 : Shut (w5.heap[w.heap.size + 1]? = some (.cells (mvK (tgN tz) (a : Int) (b : Int) ((n : Int) + 2)) 73 (0, 0))) := hm7.out
                                have h218 : m4 < 218 := by
                                  have h0 := hcapS.out
                                  have h1 := hroom.out
                                  have h2 := room_prom p tn k a b n hgoB.out hipS.out hln hkn.out
                                  have h3 := hm4L.out
                                  rw [List.length_append] at h3
                                  omega
                                have h218z : (m4 : Int) < 218 := by omega
                                have hoff : Shut ((flat (ents (upTo p tn k a b ++ lP p tn a b n))).length = (m4 * 11)) := by show _ = _; rw [ents_len, ← hm4L.out, Nat.mul_comm]
                                have th7 : Shut (w5.there w.heap.size (m4 * 11) (mvK (tgN tz) (a : Int) (b : Int) ((n : Int) + 2)).size) := there_sub sa7.out.1 (by show (m4 * 11) + 11 ≤ 2398; omega)
                                clear h218
                                go_wp2_with (first
                                  | ((with_reducible refine at_load_row hrow6.out Tryz.underlying73 rfl ?_ ?_ ?_); kernel_rfl; rfl)
                                  | ((with_reducible refine at_store_mid w.heap.size (m4 * 11) (mvK (tgN tz) (a : Int) (b : Int) ((n : Int) + 2)) th7.out ?_ ?_ ?_ ?_ ?_); exact mvS_info _ _ _ _; exact mvK_one _ _ _ _; rfl; rfl; intro W6 r6 z6 b6 o6 t6 a6; obtain ⟨st8, sa8, e8⟩ := sm_store st7.out sa7.out hoff.out r6.out b6.out o6.out t6.out a6.out; have st8 := lay st8; have sa8 := lay sa8; have hm8 := lay (e8.trans hm7.out); clear r6 z6 b6 o6 t6 a6 e8))
                                skip
                                go_roundw
                                case rel => exact ⟨n + 1, m4 + 1, by omega, by go_num, by go_num, by rw [hlP.out, oneE_yes hkn.out, ← List.append_assoc, List.length_append, ← hm4L.out]; rfl, st8.out, by rw [hlP.out, oneE_yes hkn.out, ← List.append_assoc, ents_app]; exact sa8.out, _, by rw [htq.out]; exact hm8.out⟩
                                case measure => simp [intOf]; omega
                            · obtain rfl : n = 4 := by omega
                              have hE : Shut (upTo p tn k a (b + 1) = upTo p tn k a b ++ lP p tn a b 4) := by
                                show _ = _
                                rw [upTo_next, hG.out]
                              clear hm5
                              go_wp2_with fail
                              go_roundw
                              case rel => exact ⟨b + 1, m4, by omega, rfl, by go_num, by rw [hE.out]; exact hm4L.out, st5.out, by rw [hE.out]; exact sa5.out⟩
                              case measure => simp [intOf]; omega
                    · obtain rfl : b = 64 := by omega
                      go_wp2_with fail
                      go_roundw
                      case rel => exact ⟨a + 1, m3, by omega, rfl, by go_num, by rw [upTo_end]; exact hm3L.out, st3.out, by rw [upTo_end]; exact sa3.out⟩
                      case measure => simp [intOf]; omega
            · obtain rfl : a = 64 := by omega
              go_wp2_with fail
              go_roundw
              case rel => exact ⟨k + 1, m2, by omega, rfl, by go_num, by rw [lQ_end p tn k hktS.out]; exact hm2.out, st2.out, by rw [lQ_end p tn k hktS.out]; exact sa2.out⟩
              case measure => simp [intOf]; omega
      · have bn : ((tn : Int) + 1 != ((k / 6 : Nat) : Int) + 1) = true := by simp; omega
        have hE := lay (lQ_no p tn k hkt)
        clear hkt
        go_wp2_with (first
          | (go_at_call 77; refine (hturn.out _ st1.out.bel).mono ?_; rintro e1 w1 ⟨rfl, rfl⟩)
          | (go_at_call 110; refine (hcol.out _).mono ?_; rintro e1 w1 ⟨rfl, rfl⟩))
        go_roundw
        case rel => exact ⟨k + 1, m1, by omega, rfl, by go_num, by rw [hE.out]; exact hm1.out, st1.out, by rw [hE.out]; exact sa1.out⟩
        case measure => simp [intOf]; omega
    · obtain rfl : k = 12 := by omega
      obtain ⟨i0, hi, hz0, hz1, hz2⟩ := info_parts (show (Tryz.prog.info? 73).map (fun i => (i.zero, i.size, i.bytes)) = some (some (.agg (mvK 0 0 0 0)), 11, 96) by kernel_rfl)
      have hle : m1 ≤ 218 := by rw [hm1.out]; exact hcapS.out
      have hlez : (m1 : Int) ≤ 218 := by omega
      have hmk : (Instr.makeSlice 61 (.int .i64 (m1 : Int)) (.int .i64 (m1 : Int))).run Tryz.prog wr = .ok (.slice (some ⟨wr.heap.size, 0, none⟩) m1 m1) (wr.alloc (.cells (madeCells (mvK 0 0 0 0) (m1 * 11)) 73)) := by
        have h := run_make (P := Tryz.prog) wr 61 73 i0 (.agg (mvK 0 0 0 0)) Tryz.underlying61 hi hz0 .i64 .i64 (m1 : Int) (m1 : Int) (by omega) (by omega) (by rw [hz2]; omega) (by omega)
        rw [hz1, Int.toNat_natCast] at h
        exact h
      have b9 : Shut (Below w.heap.size w (wr.alloc (.cells (madeCells (mvK 0 0 0 0) (m1 * 11)) 73))) := st1.out.bel.alloc st1.out.bel.size _
      have hlen9 : Shut ((flat (ents (lQ p tn 12))).length = m1 * 11) := by show _ = _; rw [ents_len, ← hm1.out, Nat.mul_comm]
      have t9 : Shut ((wr.alloc (.cells (madeCells (mvK 0 0 0 0) (m1 * 11)) 73)).there wr.heap.size 0 (flat (ents (lQ p tn 12))).length) := there_rowN (by rw [madeCells_size, hlen9.out]) (heap_alloc_new wr _)
      have r9 : Shut ((wr.alloc (.cells (madeCells (mvK 0 0 0 0) (m1 * 11)) 73)).rangeAt w.heap.size 0 (flat (ents (lQ p tn 12)))) := World.rangeAt_alloc sa1.out.2 _
      have o9 : Shut (∀ u ∈ flat (ents (lQ p tn 12)), u.oneCell' = true) := by
        intro u hu
        obtain ⟨c, hc, huc⟩ := List.mem_flatMap.1 hu
        have hall := ents_one _ c hc
        rw [← Array.all_toList, List.all_eq_true] at hall
        exact hall u huc
      have hge := lay st1.out.bel.size
      go_upto_region 53 with fail
      change Code.wp _ _ _ _ (wr.alloc (.cells (madeCells (mvK 0 0 0 0) (m1 * 11)) 73))
      clear hmk
      generalize wr.alloc (.cells (madeCells (mvK 0 0 0 0) (m1 * 11)) 73) = W9 at *
      skip
      go_wp2_with ((with_reducible refine at_copy_wide 73 i0 Tryz.underlying61 hi wr.heap.size m1 m1 ⟨w.heap.size, 0, none⟩ m1 218 (flat (ents (lQ p tn 12))) m1 ?_ ?_ ?_ t9.out o9.out ?_ ?_ ?_); exact (Nat.min_self _).symm; (rw [hz1]; exact hlen9.out); (intro j u hj; rw [Addr.add_mid]; exact r9.out j u hj); rfl; rfl; intro W10 r10 b10; have b10 := lay (b10.out w.heap.size w hge.out b9.out))
      go_ret
      exact ⟨b10.out, wr.heap.size, by rw [← hm1.out] <;> rfl, r10.out⟩
end Go.Proofs.YtnjdgooljnbebaaGreatDoor
