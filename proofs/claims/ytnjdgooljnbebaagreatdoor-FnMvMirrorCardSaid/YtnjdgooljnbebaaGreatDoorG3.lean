/- A board behind a move: Board.update. For every board of a sound position and every move that a pseudo-legal one can be. -/
import Derived.Test.YtnjdgooljnbebaaGreatDoorG0
import Derived.Deep.DeepCutAuto
import Derived.Test.YtnjdgooljnbebaaGreatDoorG2
import Derived.Test.YtnjdgooljnbebaaGreatDoorGe
namespace Go.Proofs.YtnjdgooljnbebaaGreatDoor
open Go Go.RowKit
open List renaming getElem_toArray → zA, getElem_cons_zero → zB, getElem_cons_succ → zC, setIfInBounds_toArray → zD, set_cons_zero → zE, set_cons_succ → zF
set_option maxHeartbeats 8000000
set_option linter.unusedSimpArgs false
set_option linter.unusedVariables false
set_option maxRecDepth 100000

theorem cell_else (W : World) (g mg i j : Nat) (v : Value) (h : mg ≠ g) : (W.setCell ⟨g, i, none⟩ v).cell? ⟨mg, j, none⟩ = W.cell? ⟨mg, j, none⟩ := by
 unfold World.cell?
 rw [heap_setCell_other _ _ _ _ h]
theorem upon_ok {P : Program} {o : Oper} {a : Act} {K : Act → World → Prop} {Q : Exit → Act → World → Prop} {r : Result Next} {W : World} (hr : r = .ok .skip W) (h : K (a.put o.dst undef) W) : Oper.upon P o a K Q r := by
 subst hr
 exact h
theorem store_bb_ok {P : Program} (W : World) (a : Addr) (x : BitVec 64) (y : Value) (s : String) (hc : W.cell? a = some y) (hf : W.frozen? a = false) : (if (bbv x).cells.size = 1 then (Sem.run P (storeCells a (bbv x).cells.toList) W).andThen (fun _ w' => Result.ok Next.skip w') else Result.halt (Halt.stuck s) W) = .ok .skip (W.setCell a (bbv x)) := by
 rw [cells_bbv]
 have e : (#[bbv x] : Array Value).toList = [bbv x] := rfl
 rw [if_pos (show (#[bbv x] : Array Value).size = 1 from rfl), e, run_storeBB]
 simp [stored, hc, hf]
/-- The list of all pieces, in every later world. -/
theorem al_cells {w0 : World} (hA : IntSl w0 0 .i8 allL) : ∃ q : Addr, q.spot = none ∧ ∀ V, Below w0.heap.size w0 V → V.cell? ⟨0, 0, none⟩ = some (.slice (some q) 12 12) ∧ ∀ k, k < 12 → V.cell? (q.add k) = some (.int .i8 ((k : Int) + 1)) := by
 obtain ⟨⟨q, hq, hqb, hc0, hci⟩, hlt⟩ := hA
 refine ⟨q, hq, fun V hV => ⟨?_, fun k hk => ?_⟩⟩
 ·exact (hV.cell (p := ⟨0, 0, none⟩) hlt).trans hc0
 ·have hck := hci k hk
  rw [allL_get k hk] at hck
  rw [add_at hq]
  exact (hV.cell (p := ⟨q.block, q.off + k, none⟩) hqb).trans hck
/-- The board under way: its twelve numbers, and what stays. -/
structure UpSt (F : Nat → BitVec 64) (A B C D E : Value) (t a b pr : Int) (g mg : Nat) (w0 w wr : World) : Prop where
 row : wr.heap[g]? = some (.cells (brdF F A B C D E) 144 (0, 0))
 mv : MvAt mg t a b pr wr
 only : Only g w wr
 bel : Below w0.heap.size w0 wr
theorem UpSt.set {F : Nat → BitVec 64} {A B C D E : Value} {t a b pr : Int} {g mg : Nat} {w0 w wr : World} (h : UpSt F A B C D E t a b pr g mg w0 w wr) (hne : mg ≠ g) (hB : Below w0.heap.size w0 w) (hg : w0.heap.size ≤ g) (k : Nat) (hk : k < 12) (x : BitVec 64) : UpSt (fun j => if j = k then x else F j) A B C D E t a b pr g mg w0 w (wr.setCell ⟨g, k, none⟩ (bbv x)) :=
 ⟨by rw [heap_setCell_same _ _ k _ _ (bbv x) h.row, brdF_set F A B C D E k hk], (heap_setCell_other _ _ _ _ hne).trans h.mv, h.only.setCell _ _, (h.only.setCell k (bbv x)).2 _ _ hg hB⟩
theorem UpSt.put {F : Nat → BitVec 64} {A B C D E : Value} {t a b pr : Int} {g mg : Nat} {w0 w wr w1 : World} (h : UpSt F A B C D E t a b pr g mg w0 w wr) (hne : mg ≠ g) (hB : Below w0.heap.size w0 w) (hg : w0.heap.size ≤ g) (k : Nat) (hk : k < 12) {x : BitVec 64} (hw : w1 = wr.setCell ⟨g, k, none⟩ (bbv x)) : UpSt (fun j => if j = k then x else F j) A B C D E t a b pr g mg w0 w w1 := by
 subst hw
 exact h.set hne hB hg k hk x
theorem UpSt.drewN {F : Nat → BitVec 64} {A B C D E : Value} {t a b pr : Int} {g mg : Nat} {w0 w wr : World} (h : UpSt F A B C D E t a b pr g mg w0 w wr) (hB : Below w0.heap.size w0 w) (hg : w0.heap.size ≤ g) (n : Nat) : UpSt F A B C D E t a b pr g mg w0 w (wr.drewN n) :=
 ⟨h.row, h.mv, h.only.drewN n, (h.only.drewN n).2 _ _ hg hB⟩
theorem UpSt.drew {F : Nat → BitVec 64} {A B C D E : Value} {t a b pr : Int} {g mg : Nat} {w0 w wr : World} (h : UpSt F A B C D E t a b pr g mg w0 w wr) : UpSt F A B C D E t a b pr g mg w0 w wr.drew :=
 ⟨h.row, h.mv, ⟨h.only.1, fun B a hB hb => (h.only.2 B a hB hb).drew⟩, h.bel.drew⟩
theorem UpSt.same {F G : Nat → BitVec 64} {A B C D E : Value} {t a b pr : Int} {g mg : Nat} {w0 w wr : World} (h : UpSt F A B C D E t a b pr g mg w0 w wr) (hFG : ∀ k, k < 12 → F k = G k) : UpSt G A B C D E t a b pr g mg w0 w wr := by
 have e : brdF F A B C D E = brdF G A B C D E := by
  unfold brdF
  rw [hFG 0 (by omega), hFG 1 (by omega), hFG 2 (by omega), hFG 3 (by omega), hFG 4 (by omega), hFG 5 (by omega), hFG 6 (by omega), hFG 7 (by omega), hFG 8 (by omega), hFG 9 (by omega), hFG 10 (by omega), hFG 11 (by omega)]
 exact ⟨by rw [← e]; exact h.row, h.mv, h.only, h.bel⟩
theorem vu_update (p : List Int) (tn : Nat) (hs : Sound p tn) (m : Mv) (h : GoodM p tn m) (hkt : kindOf (pcAt p m.to) ≠ 1) (t : Tg) (hep : t.ep = passM p m) (hks : t.ks = (castM p m && decide (m.to = m.fr + 2))) (hqs : t.qs = (castM p m && decide (m.to = m.fr - 2))) (g mg : Nat) (w0 w : World)
  (hg : w.heap[g]? = some (.cells (brd p) 144 (0, 0))) (hm : MvAt mg (tgN t) m.fr m.to m.pr w) (hne : mg ≠ g) (hB : Below w0.heap.size w0 w) (hg0 : w0.heap.size ≤ g) (hA : IntSl w0 0 .i8 allL) :
  Calls Tryz.prog 86 #[.pointer (some ⟨g, 0, none⟩), .pointer (some ⟨mg, 0, none⟩)] w fun e' w' => e' = .returned (.tuple #[]) ∧ w'.heap[g]? = some (.cells (brd (madeB p m)) 144 (0, 0)) ∧ Only g w w' := by
 obtain ⟨f0, f1, t0, t1, r0, r1⟩ := h.ok
 have x0 := h.x0
 have x1 := h.x1
 have htn := hs.one
 obtain ⟨x, hx⟩ : ∃ x : Nat, pcAt p m.fr = (x : Int) + 1 := ⟨(pcAt p m.fr - 1).toNat, by omega⟩
 have hx12 : x < 12 := by omega
 have hxc : x / 6 = tn := by omega
 have hst : Shut (UpSt (bbF p) (bbv (whiteB p)) (bbv (blackB p)) (bbv (~~~(whiteB p ||| blackB p))) (.int .i8 (lastK p 1 64)) (.int .i8 (lastK p 7 64)) (tgN t) m.fr m.to m.pr g mg w0 w w) := ⟨hg, hm, Only.refl g w, hB⟩
 have hpc : Shut (Calls Tryz.prog 83 #[.pointer (some ⟨g, 0, none⟩), .int .i8 m.fr] w fun e' w' => e' = .returned (.int .i8 ((x : Int) + 1)) ∧ w = w') := by
  have hh := bo_piece p _ _ _ _ _ g m.fr w (hA.below hB) hg f0 f1 (hs.pos.lo _ (by omega)) (hs.pos.hi _ (by omega))
  have e : p.getD m.fr.toNat 0 = (x : Int) + 1 := hx
  rw [e] at hh
  exact hh
 have hsq : Shut (∀ (s : Int) (W : World), 0 ≤ s → s ≤ 63 → Calls Tryz.prog 107 #[.int .i8 s] W fun e w' => e = .returned (bbv (sqBit s.toNat)) ∧ W = w') := fun s W h0 h1 => sq_bit s W h0 h1
 have m8 := hm.c8
 have m9 := hm.c9
 have hgood := lay h
 have hflags := lay (And.intro hep (And.intro hks hqs))
 clear h hg hm hep hks hqs
 go_enter Tryz.func86, Tryz.ntmps86
 go_upto_region 3 with (first
  | (go_at_call 83; refine hpc.out.mono ?_; rintro e1 w1 ⟨rfl, rfl⟩)
  | (go_at_call 107; refine (hsq.out _ _ (by omega) (by omega)).mono ?_; rintro e1 w1 ⟨rfl, rfl⟩))
 clear m8 m9 hpc
 obtain ⟨qa, hqsp, hqa⟩ := al_cells hA
 have hqa := lay hqa
 have c0 := (hqa.out w hB).1
 obtain ⟨a, ha⟩ : ∃ a : Nat, m.fr = (a : Int) := ⟨m.fr.toNat, by omega⟩
 obtain ⟨b, hb⟩ : ∃ b : Nat, m.to = (b : Int) := ⟨m.to.toNat, by omega⟩
 have ha64 : a < 64 := by omega
 have hb64 : b < 64 := by omega
 rw [ha, hb] at hst
 rw [ha, hb]
 rw [Int.toNat_natCast, Int.toNat_natCast]
 go_wp2_with fail
 clear c0
 go_loopw [31] (fun i wr => ∃ (k : Nat) (F : Nat → BitVec 64), k ≤ 12 ∧ i = .int .i64 (k : Int) ∧ (∀ j, F j = if j < k then loopF (bbF p) a b j else bbF p j) ∧ UpSt F (bbv (whiteB p)) (bbv (blackB p)) (bbv (~~~(whiteB p ||| blackB p))) (.int .i8 (lastK p 1 64)) (.int .i8 (lastK p 7 64)) (tgN t) (a : Int) (b : Int) m.pr g mg w0 w wr) (fun i _ => (12 - intOf i).toNat)
 case atStart => exact ⟨0, _, by omega, rfl, fun j => by rw [if_neg (by omega)], hst.out⟩
 case round =>
  obtain ⟨k, F, hk, rfl, hF, st0⟩ := hrel
  have st := lay st0
  have hFs := lay hF
  by_cases hlt : k < 12
  ·have hFk : F k = bbF p k := by rw [hF k, if_neg (by omega)]
   have hocc : occ (F k) a = occ (bbF p k) a := by rw [hFk]
   have ck := (hqa.out wr st0.bel).2 k hlt
   have mv8 := st0.mv.c8
   clear st0 hF hst
   cases ho : occ (bbF p k) a with
   | true =>
    rw [ho] at hocc
    go_wp2_with (first
     | (go_at_call 105; with_reducible refine (bo_get _ _ _ _ _ _ _ k _ st.out.row hlt).mono ?_; rintro e1 w1 ⟨rfl, rfl⟩)
     | (go_at_call 108; with_reducible refine (bo_set _ _ _ _ _ _ _ k _ _ st.out.row hlt).mono ?_; rintro e1 w1 ⟨rfl, hw1⟩; have st := lay (st.out.put hne hB hg0 k hlt hw1); have mv8 := st.out.mv.c8; clear hw1)
     | (go_at_call 106; with_reducible refine (sq_occupied _ (a : Int) _ (by omega) (by omega)).mono ?_; rw [Int.toNat_natCast, ho]; rintro e1 w1 ⟨rfl, rfl⟩))
    go_roundw
    case rel =>
     refine ⟨k + 1, _, by omega, by go_num, fun j => ?_, st.out⟩
     by_cases hj : j = k
     ·subst hj
      rw [if_pos (Nat.lt_succ_self _), loop_yes _ _ _ _ ho]
      simp
     ·simp only [if_neg hj]
      rw [hFs.out j]
      by_cases hjk : j < k
      ·rw [if_pos hjk, if_pos (by omega)]
      ·rw [if_neg hjk, if_neg (by omega)]
    case measure => simp [intOf]; omega
   | false =>
    rw [ho] at hocc
    go_wp2_with (first
     | (go_at_call 105; with_reducible refine (bo_get _ _ _ _ _ _ _ k _ st.out.row hlt).mono ?_; rintro e1 w1 ⟨rfl, rfl⟩)
     | (go_at_call 108; with_reducible refine (bo_set _ _ _ _ _ _ _ k _ _ st.out.row hlt).mono ?_; rintro e1 w1 ⟨rfl, hw1⟩; have st := lay (st.out.put hne hB hg0 k hlt hw1); have mv8 := st.out.mv.c8; clear hw1)
     | (go_at_call 106; with_reducible refine (sq_occupied _ (a : Int) _ (by omega) (by omega)).mono ?_; rw [Int.toNat_natCast, ho]; rintro e1 w1 ⟨rfl, rfl⟩))
    go_roundw
    case rel =>
     refine ⟨k + 1, _, by omega, by go_num, fun j => ?_, st.out⟩
     by_cases hj : j = k
     ·subst hj
      rw [if_pos (Nat.lt_succ_self _), loop_no _ _ _ _ ho]
      simp
     ·simp only [if_neg hj]
      rw [hFs.out j]
      by_cases hjk : j < k
      ·rw [if_pos hjk, if_pos (by omega)]
      ·rw [if_neg hjk, if_neg (by omega)]
    case measure => simp [intOf]; omega
  ·obtain rfl : k = 12 := by omega
   have st1 := lay (st0.same (G := loopF (bbF p) a b) (fun j hj => by rw [hF j, if_pos hj]))
   clear st st0 hF hFs hst
   have m10 := st1.out.mv.c10
   clear hqa
   have hcol : Shut (∀ W : World, Calls Tryz.prog 110 #[.int .i8 ((x : Int) + 1)] W fun e w' => e = .returned (.int .i8 ((tn : Int) + 1)) ∧ W = w') := fun W => by
    have hh := da_color x hx12 W
    rw [show ((x : Int) / 6 + 1) = (tn : Int) + 1 by omega] at hh
    exact hh
   go_upto_if 68 with fail
   go_cut [] (fun wx => ∃ F, (∀ j, j < 12 → F j = (if m.pr = 0 then loopF (bbF p) a b else promF (loopF (bbF p) a b) (5 + 6 * tn) ((m.pr - 1).toNat + 6 * tn) b) j) ∧ UpSt F (bbv (whiteB p)) (bbv (blackB p)) (bbv (~~~(whiteB p ||| blackB p))) (.int .i8 (lastK p 1 64)) (.int .i8 (lastK p 7 64)) (tgN t) (a : Int) (b : Int) m.pr g mg w0 w wx)
   case first =>
    by_cases hp0 : m.pr = 0
    ·have h68 : (m.pr != 0) = false := by simp [hp0]
     have hp0s := lay hp0
     clear hp0
     go_wp2_with fail
     go_meet
     exact ⟨_, fun j hj => by rw [if_pos hp0s.out], st1.out⟩
    ·have h68 : (m.pr != 0) = true := by simp [hp0]
     obtain ⟨hxp, p2, p5⟩ := hgood.out.pr hp0
     have hx5 : x = 5 + 6 * tn := by omega
     obtain ⟨y, hy⟩ : ∃ y : Nat, y = (m.pr - 1).toNat + 6 * tn := ⟨_, rfl⟩
     have hy12 : y < 12 := by omega
     have hyx : y ≠ x := by omega
     have hnp : Shut (∀ n, Calls Tryz.prog 109 #[.int .i8 m.pr, .int .i8 ((tn : Int) + 1)] (wr.drewN n) fun e w' => e = .returned (.int .i8 ((y : Int) + 1)) ∧ wr.drewN n = w') := fun n => by
      have hh := da_piece (m.pr - 1).toNat tn (by omega) (by omega) (wr.drewN n) (hA.below ((st1.out.drewN hB hg0 n).bel))
      rw [show (((m.pr - 1).toNat : Int) + 1) = m.pr by omega, show ((((m.pr - 1).toNat : Nat) : Int) + 6 * (tn : Int) + 1) = (y : Int) + 1 by omega] at hh
      exact hh
     have hp0s := lay hp0
     have hys := lay (And.intro hx5 (And.intro hy hyx))
     clear hp0 hx5 hy hxp
     go_wp2_with fail
     go_quiet (first | (go_at_call 110; refine va_quiet (hcol.out _)) | (go_at_call 109; refine va_quiet (hnp.out _)))
     have st := lay (st1.out.drewN hB hg0 nq)
     go_wp2_with (first
      | (go_at_call 105; with_reducible refine (bo_get _ _ _ _ _ _ _ x _ st.out.row hx12).mono ?_; rintro e1 w1 ⟨rfl, rfl⟩)
      | (go_at_call 105; with_reducible refine (bo_get _ _ _ _ _ _ _ y _ st.out.row hy12).mono ?_; rintro e1 w1 ⟨rfl, rfl⟩)
      | (go_at_call 108; with_reducible refine (bo_set _ _ _ _ _ _ _ x _ _ st.out.row hx12).mono ?_; rintro e1 w1 ⟨rfl, hw1⟩; have st := lay (st.out.put hne hB hg0 x hx12 hw1); clear hw1)
      | (go_at_call 108; with_reducible refine (bo_set _ _ _ _ _ _ _ y _ _ st.out.row hy12).mono ?_; rintro e1 w1 ⟨rfl, hw1⟩; have st := lay (st.out.put hne hB hg0 y hy12 hw1); clear hw1))
     go_meet
     refine ⟨_, fun j hj => ?_, st.out⟩
     rw [if_neg hp0s.out, ← hys.out.1, ← hys.out.2.1]
     rfl
   case rest =>
   obtain ⟨F2, hF2, st2⟩ := hcut
   obtain ⟨G2, hG2⟩ : ∃ G2 : Nat → BitVec 64, G2 = (if m.pr = 0 then loopF (bbF p) a b else promF (loopF (bbF p) a b) (5 + 6 * tn) ((m.pr - 1).toNat + 6 * tn) b) := ⟨_, rfl⟩
   rw [← hG2] at hF2
   have st3 := lay (st2.same hF2)
   have hG2s := lay hG2
   clear hF2 st2 hG2 st1 m10
   have hh8 : Shut (∀ W, UpSt G2 (bbv (whiteB p)) (bbv (blackB p)) (bbv (~~~(whiteB p ||| blackB p))) (.int .i8 (lastK p 1 64)) (.int .i8 (lastK p 7 64)) (tgN t) (a : Int) (b : Int) m.pr g mg w0 w W → Calls Tryz.prog 85 #[.pointer (some ⟨mg, 0, none⟩), .int .u16 8] W fun e w' => e = .returned (.bool t.ep) ∧ W = w') := fun W hW => vc_has mg _ _ _ _ 8 W hW.mv _ (tg_and8 t)
   go_upto_if 96 with (go_at_call 85; refine (hh8.out _ st3.out).mono ?_; rintro e1 w1 ⟨rfl, rfl⟩)
   go_cut [] (fun wx => ∃ F, (∀ j, j < 12 → F j = (if t.ep = true then passF G2 tn b else G2) j) ∧ UpSt F (bbv (whiteB p)) (bbv (blackB p)) (bbv (~~~(whiteB p ||| blackB p))) (.int .i8 (lastK p 1 64)) (.int .i8 (lastK p 7 64)) (tgN t) (a : Int) (b : Int) m.pr g mg w0 w wx)
   case first =>
    cases hte : t.ep with
    | false =>
     go_wp2_with fail
     go_meet
     exact ⟨_, fun j hj => by rw [if_neg (by rw [hte]; decide)], st3.out⟩
    | true =>
     have m9 := st3.out.mv.c9
     have c11 : wc.cell? ⟨g, 11, none⟩ = some (bbv (G2 11)) := cell_of_row _ _ 11 _ _ _ st3.out.row
     have c5 : wc.cell? ⟨g, 5, none⟩ = some (bbv (G2 5)) := cell_of_row _ _ 5 _ _ _ st3.out.row
     have f11 := frozen_of_row _ _ 11 _ _ st3.out.row
     have f5 := frozen_of_row _ _ 5 _ _ st3.out.row
     have e8 : ((b : Int)).toNat = b := Int.toNat_natCast b
     rcases (show tn = 0 ∨ tn = 1 by omega) with rfl | rfl
     ·go_wp2_with (go_at_call 110; refine (hcol.out _).mono ?_; rintro e1 w1 ⟨rfl, rfl⟩)
      refine wp_region_held_drew (S := fun V : World => V = wc.drew ∨ V = wc.drew.setCell ⟨g, 11, none⟩ (bbv (~~~(sqBit b <<< 8) &&& G2 11))) (by kernel_rfl) (Or.inl rfl) (fun hHeld => ?_)
      refine takeC (i := 0) rfl hHeld ?_
      try simp only [zA, zB, zC, Act.put, zD, zE, zF]
      refine takeC (i := 1) rfl hHeld ?_
      try simp only [zA, zB, zC, Act.put, zD, zE, zF]
      refine takeC (i := 2) rfl hHeld ?_
      try simp only [zA, zB, zC, Act.put, zD, zE, zF]
      refine takeC (i := 3) rfl hHeld ?_
      try simp only [zA, zB, zC, Act.put, zD, zE, zF]
      refine takeA (i := 4) (v := ?vep0_5_4) rfl (Or.inl ⟨by rfl, ?yep0_5_4⟩) hHeld ?rep0_5_4
      case yep0_5_4 => (intro wq hSw; have hq : wq.cell? ⟨mg, 9, none⟩ = some (.int .i8 (b : Int)) := Or.elim hSw (fun h => by rw [h]; exact m9) (fun h => by rw [h]; exact (cell_else _ _ _ _ _ _ hne).trans m9); clear hSw; go_simp; try with_reducible rfl)
      try simp only [zA, zB, zC, Act.put, zD, zE, zF]
      refine takeC (i := 8) rfl hHeld ?_
      try simp only [zA, zB, zC, Act.put, zD, zE, zF]
      refine takeC (i := 9) rfl hHeld ?_
      try simp only [zA, zB, zC, Act.put, zD, zE, zF]
      refine takeC (i := 10) rfl hHeld ?_
      try simp only [zA, zB, zC, Act.put, zD, zE, zF]
      refine wpAnyH_ready (rs := [5, 11]) (by kernel_rfl) (by simp) ?_
      refine AllReadyH.cons rfl (fun K hK => ?_) (AllReadyH.cons rfl (fun K hK => ?_) AllReadyH.nil)
      ·skip
       try simp only [zA, zB, zC, Act.put, zD, zE, zF]
       try rw [if_pos (by rfl)]
       go_simp
       refine (hsq.out (b : Int) _ (by omega) (by omega)).mono ?_
       rintro e1 w1 ⟨rfl, rfl⟩
       go_wp2_with fail
       refine hK.out _ _ (Or.inl rfl) (fun hHeld => ?_)
       clear hK K
       try simp only [zA, zB, zC, Act.put, zD, zE, zF]
       refine takeC (i := 6) rfl hHeld ?_
       try simp only [zA, zB, zC, Act.put, zD, zE, zF]
       refine takeC (i := 7) rfl hHeld ?_
       try simp only [zA, zB, zC, Act.put, zD, zE, zF]
       refine wpAnyH_ready (rs := [11]) (by kernel_rfl) (by simp) ?_
       refine AllReadyH.cons rfl (fun K hK => ?_) AllReadyH.nil
       try simp only [zA, zB, zC, Act.put, zD, zE, zF]
       try rw [if_pos (by rfl)]
       go_simp
       refine hK.out _ _ (Or.inl rfl) (fun hHeld => ?_)
       clear hK K
       try simp only [zA, zB, zC, Act.put, zD, zE, zF]
       refine takeC (i := 12) rfl hHeld ?_
       try simp only [zA, zB, zC, Act.put, zD, zE, zF]
       refine takeC (i := 13) rfl hHeld ?_
       try simp only [zA, zB, zC, Act.put, zD, zE, zF]
       refine takeC (i := 14) rfl hHeld ?_
       try simp only [zA, zB, zC, Act.put, zD, zE, zF]
       refine wpAnyH_ready (rs := [15]) (by kernel_rfl) (by simp) ?_
       refine AllReadyH.cons rfl (fun K hK => ?_) AllReadyH.nil
       try simp only [zA, zB, zC, Act.put, zD, zE, zF]
       try rw [if_pos (by rfl)]
       go_simp
       refine upon_ok (store_bb_ok _ _ _ _ _ c11 f11) ?_
       refine hK.out _ _ (Or.inr rfl) (fun hHeld => ?_)
       clear hK K
       try simp only [zA, zB, zC, Act.put, zD, zE, zF]
       refine wpAnyH_done (by kernel_rfl) ?_ _
       go_wp2_with fail
       go_meet
       refine ⟨_, fun j hj => ?_, (st3.out.drew).set hne hB hg0 11 (by omega) _⟩
       rw [if_pos hte]
       rfl
      ·skip
       try simp only [zA, zB, zC, Act.put, zD, zE, zF]
       try rw [if_pos (by rfl)]
       go_simp
       refine hK.out _ _ (Or.inl rfl) (fun hHeld => ?_)
       clear hK K
       try simp only [zA, zB, zC, Act.put, zD, zE, zF]
       refine wpAnyH_ready (rs := [5]) (by kernel_rfl) (by simp) ?_
       refine AllReadyH.cons rfl (fun K hK => ?_) AllReadyH.nil
       try simp only [zA, zB, zC, Act.put, zD, zE, zF]
       try rw [if_pos (by rfl)]
       go_simp
       refine (hsq.out (b : Int) _ (by omega) (by omega)).mono ?_
       rintro e1 w1 ⟨rfl, rfl⟩
       go_wp2_with fail
       refine hK.out _ _ (Or.inl rfl) (fun hHeld => ?_)
       clear hK K
       try simp only [zA, zB, zC, Act.put, zD, zE, zF]
       refine takeC (i := 6) rfl hHeld ?_
       try simp only [zA, zB, zC, Act.put, zD, zE, zF]
       refine takeC (i := 7) rfl hHeld ?_
       try simp only [zA, zB, zC, Act.put, zD, zE, zF]
       refine takeC (i := 12) rfl hHeld ?_
       try simp only [zA, zB, zC, Act.put, zD, zE, zF]
       refine takeC (i := 13) rfl hHeld ?_
       try simp only [zA, zB, zC, Act.put, zD, zE, zF]
       refine takeC (i := 14) rfl hHeld ?_
       try simp only [zA, zB, zC, Act.put, zD, zE, zF]
       refine wpAnyH_ready (rs := [15]) (by kernel_rfl) (by simp) ?_
       refine AllReadyH.cons rfl (fun K hK => ?_) AllReadyH.nil
       try simp only [zA, zB, zC, Act.put, zD, zE, zF]
       try rw [if_pos (by rfl)]
       go_simp
       refine upon_ok (store_bb_ok _ _ _ _ _ c11 f11) ?_
       refine hK.out _ _ (Or.inr rfl) (fun hHeld => ?_)
       clear hK K
       try simp only [zA, zB, zC, Act.put, zD, zE, zF]
       refine wpAnyH_done (by kernel_rfl) ?_ _
       go_wp2_with fail
       go_meet
       refine ⟨_, fun j hj => ?_, (st3.out.drew).set hne hB hg0 11 (by omega) _⟩
       rw [if_pos hte]
       rfl
     ·go_wp2_with (go_at_call 110; refine (hcol.out _).mono ?_; rintro e1 w1 ⟨rfl, rfl⟩)
      refine wp_region_held_drew (S := fun V : World => V = wc.drew ∨ V = wc.drew.setCell ⟨g, 5, none⟩ (bbv (~~~(sqBit b >>> 8) &&& G2 5))) (by kernel_rfl) (Or.inl rfl) (fun hHeld => ?_)
      refine takeC (i := 0) rfl hHeld ?_
      try simp only [zA, zB, zC, Act.put, zD, zE, zF]
      refine takeC (i := 1) rfl hHeld ?_
      try simp only [zA, zB, zC, Act.put, zD, zE, zF]
      refine takeC (i := 2) rfl hHeld ?_
      try simp only [zA, zB, zC, Act.put, zD, zE, zF]
      refine takeC (i := 3) rfl hHeld ?_
      try simp only [zA, zB, zC, Act.put, zD, zE, zF]
      refine takeA (i := 4) (v := ?vep1_5_4) rfl (Or.inl ⟨by rfl, ?yep1_5_4⟩) hHeld ?rep1_5_4
      case yep1_5_4 => (intro wq hSw; have hq : wq.cell? ⟨mg, 9, none⟩ = some (.int .i8 (b : Int)) := Or.elim hSw (fun h => by rw [h]; exact m9) (fun h => by rw [h]; exact (cell_else _ _ _ _ _ _ hne).trans m9); clear hSw; go_simp; try with_reducible rfl)
      try simp only [zA, zB, zC, Act.put, zD, zE, zF]
      refine takeC (i := 8) rfl hHeld ?_
      try simp only [zA, zB, zC, Act.put, zD, zE, zF]
      refine takeC (i := 9) rfl hHeld ?_
      try simp only [zA, zB, zC, Act.put, zD, zE, zF]
      refine takeC (i := 10) rfl hHeld ?_
      try simp only [zA, zB, zC, Act.put, zD, zE, zF]
      refine wpAnyH_ready (rs := [5, 11]) (by kernel_rfl) (by simp) ?_
      refine AllReadyH.cons rfl (fun K hK => ?_) (AllReadyH.cons rfl (fun K hK => ?_) AllReadyH.nil)
      ·skip
       try simp only [zA, zB, zC, Act.put, zD, zE, zF]
       try rw [if_pos (by rfl)]
       go_simp
       refine (hsq.out (b : Int) _ (by omega) (by omega)).mono ?_
       rintro e1 w1 ⟨rfl, rfl⟩
       go_wp2_with fail
       refine hK.out _ _ (Or.inl rfl) (fun hHeld => ?_)
       clear hK K
       try simp only [zA, zB, zC, Act.put, zD, zE, zF]
       refine takeC (i := 6) rfl hHeld ?_
       try simp only [zA, zB, zC, Act.put, zD, zE, zF]
       refine takeC (i := 7) rfl hHeld ?_
       try simp only [zA, zB, zC, Act.put, zD, zE, zF]
       refine wpAnyH_ready (rs := [11]) (by kernel_rfl) (by simp) ?_
       refine AllReadyH.cons rfl (fun K hK => ?_) AllReadyH.nil
       try simp only [zA, zB, zC, Act.put, zD, zE, zF]
       try rw [if_pos (by rfl)]
       go_simp
       refine hK.out _ _ (Or.inl rfl) (fun hHeld => ?_)
       clear hK K
       try simp only [zA, zB, zC, Act.put, zD, zE, zF]
       refine takeC (i := 12) rfl hHeld ?_
       try simp only [zA, zB, zC, Act.put, zD, zE, zF]
       refine takeC (i := 13) rfl hHeld ?_
       try simp only [zA, zB, zC, Act.put, zD, zE, zF]
       refine takeC (i := 14) rfl hHeld ?_
       try simp only [zA, zB, zC, Act.put, zD, zE, zF]
       refine wpAnyH_ready (rs := [15]) (by kernel_rfl) (by simp) ?_
       refine AllReadyH.cons rfl (fun K hK => ?_) AllReadyH.nil
       try simp only [zA, zB, zC, Act.put, zD, zE, zF]
       try rw [if_pos (by rfl)]
       go_simp
       refine upon_ok (store_bb_ok _ _ _ _ _ c5 f5) ?_
       refine hK.out _ _ (Or.inr rfl) (fun hHeld => ?_)
       clear hK K
       try simp only [zA, zB, zC, Act.put, zD, zE, zF]
       refine wpAnyH_done (by kernel_rfl) ?_ _
       go_wp2_with fail
       go_meet
       refine ⟨_, fun j hj => ?_, (st3.out.drew).set hne hB hg0 5 (by omega) _⟩
       rw [if_pos hte]
       rfl
      ·skip
       try simp only [zA, zB, zC, Act.put, zD, zE, zF]
       try rw [if_pos (by rfl)]
       go_simp
       refine hK.out _ _ (Or.inl rfl) (fun hHeld => ?_)
       clear hK K
       try simp only [zA, zB, zC, Act.put, zD, zE, zF]
       refine wpAnyH_ready (rs := [5]) (by kernel_rfl) (by simp) ?_
       refine AllReadyH.cons rfl (fun K hK => ?_) AllReadyH.nil
       try simp only [zA, zB, zC, Act.put, zD, zE, zF]
       try rw [if_pos (by rfl)]
       go_simp
       refine (hsq.out (b : Int) _ (by omega) (by omega)).mono ?_
       rintro e1 w1 ⟨rfl, rfl⟩
       go_wp2_with fail
       refine hK.out _ _ (Or.inl rfl) (fun hHeld => ?_)
       clear hK K
       try simp only [zA, zB, zC, Act.put, zD, zE, zF]
       refine takeC (i := 6) rfl hHeld ?_
       try simp only [zA, zB, zC, Act.put, zD, zE, zF]
       refine takeC (i := 7) rfl hHeld ?_
       try simp only [zA, zB, zC, Act.put, zD, zE, zF]
       refine takeC (i := 12) rfl hHeld ?_
       try simp only [zA, zB, zC, Act.put, zD, zE, zF]
       refine takeC (i := 13) rfl hHeld ?_
       try simp only [zA, zB, zC, Act.put, zD, zE, zF]
       refine takeC (i := 14) rfl hHeld ?_
       try simp only [zA, zB, zC, Act.put, zD, zE, zF]
       refine wpAnyH_ready (rs := [15]) (by kernel_rfl) (by simp) ?_
       refine AllReadyH.cons rfl (fun K hK => ?_) AllReadyH.nil
       try simp only [zA, zB, zC, Act.put, zD, zE, zF]
       try rw [if_pos (by rfl)]
       go_simp
       refine upon_ok (store_bb_ok _ _ _ _ _ c5 f5) ?_
       refine hK.out _ _ (Or.inr rfl) (fun hHeld => ?_)
       clear hK K
       try simp only [zA, zB, zC, Act.put, zD, zE, zF]
       refine wpAnyH_done (by kernel_rfl) ?_ _
       go_wp2_with fail
       go_meet
       refine ⟨_, fun j hj => ?_, (st3.out.drew).set hne hB hg0 5 (by omega) _⟩
       rw [if_pos hte]
       rfl
   case rest =>
   obtain ⟨F3, hF3, st4⟩ := hcut
   obtain ⟨G3, hG3⟩ : ∃ G3 : Nat → BitVec 64, G3 = (if t.ep = true then passF G2 tn b else G2) := ⟨_, rfl⟩
   rw [← hG3] at hF3
   have st3 := lay (st4.same hF3)
   have hG3s := lay hG3
   clear hF3 st4 hG3 hh8
   have hh1 : Shut (∀ W, UpSt G3 (bbv (whiteB p)) (bbv (blackB p)) (bbv (~~~(whiteB p ||| blackB p))) (.int .i8 (lastK p 1 64)) (.int .i8 (lastK p 7 64)) (tgN t) (a : Int) (b : Int) m.pr g mg w0 w W → Calls Tryz.prog 85 #[.pointer (some ⟨mg, 0, none⟩), .int .u16 1] W fun e w' => e = .returned (.bool t.ks) ∧ W = w') := fun W hW => vc_has mg _ _ _ _ 1 W hW.mv _ (tg_and1 t)
   have hh2 : Shut (∀ W, UpSt G3 (bbv (whiteB p)) (bbv (blackB p)) (bbv (~~~(whiteB p ||| blackB p))) (.int .i8 (lastK p 1 64)) (.int .i8 (lastK p 7 64)) (tgN t) (a : Int) (b : Int) m.pr g mg w0 w W → Calls Tryz.prog 85 #[.pointer (some ⟨mg, 0, none⟩), .int .u16 2] W fun e w' => e = .returned (.bool t.qs) ∧ W = w') := fun W hW => vc_has mg _ _ _ _ 2 W hW.mv _ (tg_and2 t)
   have hcs := lay (show (t.ks = true → castM p m = true ∧ m.to = m.fr + 2) ∧ (t.qs = true → castM p m = true ∧ m.to = m.fr - 2) ∧ (t.ks = false → t.qs = false → castM p m = false) from by
    obtain ⟨_, h1, h2⟩ := hflags.out
    rw [h1, h2]
    refine ⟨fun h => by simpa using h, fun h => by simpa using h, fun h3 h4 => ?_⟩
    cases hc : castM p m with
    | false => rfl
    | true =>
     rw [hc] at h3 h4
     simp only [castM, Bool.and_eq_true, Bool.or_eq_true, decide_eq_true_eq] at hc
     rcases hc.2 with h | h
     ·simp [h] at h3
     ·simp [h] at h4)
   obtain ⟨G4, hG4⟩ : ∃ G4 : Nat → BitVec 64, G4 = (if castM p m = true then (if m.to = m.fr + 2 then rookF G3 (2 + 6 * tn) (7 + 56 * tn) (5 + 56 * tn) else rookF G3 (2 + 6 * tn) (56 * tn) (3 + 56 * tn)) else G3) := ⟨_, rfl⟩
   have hG4s := lay hG4
   clear hG4
   have htn01 := lay (show tn = 0 ∨ tn = 1 by omega)
   have hupd : G4 = updF p tn m := by
    unfold updF
    rw [hG4s.out, hG3s.out, hG2s.out, hflags.out.1, ha, hb]
    rfl
   have htl := upd_tells p hs.pos.len tn htn hs.turn m hgood.out
   have kings : ∀ c : Nat, c ≤ 1 → ∃ k : Nat, k < 64 ∧ lastK p (1 + 6 * (c : Int)) 64 = (k : Int) ∧ lastK (madeB p m) (1 + 6 * (c : Int)) 64 = if a = k then (b : Int) else (k : Int) := by
    intro c hc
    have hcnt : cnt p (1 + 6 * (c : Int)) 64 = 1 := by
     rcases (show c = 0 ∨ c = 1 by omega) with rfl | rfl
     ·exact hs.n1
     ·exact hs.n7
    obtain ⟨k, hk1, _, hk64, hkp⟩ := king_both p c hcnt
    refine ⟨k, hk64, hk1, ?_⟩
    have hu : ∀ j, j < 64 → (p.getD j 0 = 1 + 6 * (c : Int) ↔ j = k) := fun j hj => ⟨fun e => cnt_one p _ 64 hcnt j k hj hk64 e hkp, fun e => by rw [e]; exact hkp⟩
    have hm2 := made_king p hs.pos.len tn htn hs.turn m hgood.out c hc hkt k hk64 hu
    rw [ha, hb, Int.toNat_natCast, Int.toNat_natCast] at hm2
    rw [lastK_only _ _ _ hm2 64 (Nat.le_refl _)]
    by_cases hak : a = k
    ·rw [if_pos hak, if_pos hb64, if_pos hak]
    ·rw [if_neg hak, if_pos hk64, if_neg hak]
   obtain ⟨k0, hk0, e0, n0⟩ := kings 0 (by omega)
   obtain ⟨k1, hk1, e1, n1⟩ := kings 1 (by omega)
   rw [show (1 : Int) + 6 * ((0 : Nat) : Int) = 1 from rfl] at e0 n0
   rw [show (1 : Int) + 6 * ((1 : Nat) : Int) = 7 from rfl] at e1 n1
   have hk01 : k0 ≠ k1 := by
    intro hh
    obtain ⟨j0, h1, h2, _, h4⟩ := king_both p 0 hs.n1
    obtain ⟨j1, h5, h6, _, h8⟩ := king_both p 1 hs.n7
    have : j0 = j1 := by
     have h1' : lastK p 1 64 = (j0 : Int) := h1
     have h5' : lastK p 7 64 = (j1 : Int) := h5
     rw [e0] at h1'
     rw [e1] at h5'
     omega
    rw [this] at h4
    rw [h4] at h8
    revert h8
    decide
   have hend : Shut (∀ W, UpSt G4 (bbv (whiteB p)) (bbv (blackB p)) (bbv (~~~(whiteB p ||| blackB p))) (.int .i8 (lastK p 1 64)) (.int .i8 (lastK p 7 64)) (tgN t) (a : Int) (b : Int) m.pr g mg w0 w W → Calls Tryz.prog 111 #[.pointer (some ⟨g, 0, none⟩), .pointer (some ⟨mg, 0, none⟩)] W fun e' w' => e' = .returned (.tuple #[]) ∧ w'.heap[g]? = some (.cells (brd (madeB p m)) 144 (0, 0)) ∧ Only g w w') := by
    intro W hW
    have st5 := hW.same (G := bbF (madeB p m)) (fun k hk => by rw [hupd, htl.eq k hk])
    refine (vu_calc (madeB p m) _ _ _ _ _ _ _ _ _ g mg W st5.row st5.mv hne).mono ?_
    rintro e2 w2 ⟨rfl, hrow2, hon2⟩
    refine ⟨rfl, ?_, st5.only.trans hon2⟩
    rw [hrow2]
    unfold brd
    rw [e0, e1, n0, n1]
    by_cases h0 : a = k0
    ·rw [if_pos (by omega), if_pos (by omega), if_pos h0, if_neg (by omega)]
    ·rw [if_neg (by omega), if_neg (by omega), if_neg h0]
     by_cases h1 : a = k1
     ·rw [if_pos (by omega), if_pos h1]
     ·rw [if_neg (by omega), if_neg h1]
   clear hupd htl kings e0 n0 e1 n1 hk0 hk1 hk01 hflags
   rcases htn01.out with rfl | rfl
   ·cases hks : t.ks with
    | true =>
     have c2 : wc.cell? ⟨g, 2, none⟩ = some (bbv (G3 2)) := cell_of_row _ _ 2 _ _ _ st3.out.row
     have f2 := frozen_of_row _ _ 2 _ _ st3.out.row
     go_wp2_with (first
      | (go_at_call 110; refine (hcol.out _).mono ?_; rintro e1 w1 ⟨rfl, rfl⟩)
      | (go_at_call 85; with_reducible refine (hh1.out _ st3.out).mono ?_; rintro e1 w1 ⟨rfl, rfl⟩)
      | (go_at_call 85; with_reducible refine (hh2.out _ st3.out).mono ?_; rintro e1 w1 ⟨rfl, rfl⟩))
     refine wp_region_held_drew (S := fun V : World => V = wc.drew ∨ V = wc.drew.setCell ⟨g, 2, none⟩ (bbv ((G3 2 &&& ~~~(sqBit 7)) ||| sqBit 5))) (by kernel_rfl) (Or.inl rfl) (fun hHeld => ?_)
     refine takeC (i := 0) rfl hHeld ?_
     try simp only [zA, zB, zC, Act.put, zD, zE, zF]
     refine takeC (i := 1) rfl hHeld ?_
     try simp only [zA, zB, zC, Act.put, zD, zE, zF]
     refine takeC (i := 2) rfl hHeld ?_
     try simp only [zA, zB, zC, Act.put, zD, zE, zF]
     refine takeC (i := 3) rfl hHeld ?_
     try simp only [zA, zB, zC, Act.put, zD, zE, zF]
     refine wpAnyH_ready (rs := [4, 5]) (by kernel_rfl) (by simp) ?_
     refine AllReadyH.cons rfl (fun K hK => ?_) (AllReadyH.cons rfl (fun K hK => ?_) AllReadyH.nil)
     ·skip
      try simp only [zA, zB, zC, Act.put, zD, zE, zF]
      try rw [if_pos (by rfl)]
      go_simp
      refine hK.out _ _ (Or.inl rfl) (fun hHeld => ?_)
      clear hK K
      try simp only [zA, zB, zC, Act.put, zD, zE, zF]
      refine wpAnyH_ready (rs := [5]) (by kernel_rfl) (by simp) ?_
      refine AllReadyH.cons rfl (fun K hK => ?_) AllReadyH.nil
      try simp only [zA, zB, zC, Act.put, zD, zE, zF]
      try rw [if_pos (by rfl)]
      go_simp
      refine (hsq.out 7 _ (by omega) (by omega)).mono ?_
      rintro e1 w1 ⟨rfl, rfl⟩
      go_wp2_with fail
      refine hK.out _ _ (Or.inl rfl) (fun hHeld => ?_)
      clear hK K
      try simp only [zA, zB, zC, Act.put, zD, zE, zF]
      refine takeC (i := 6) rfl hHeld ?_
      try simp only [zA, zB, zC, Act.put, zD, zE, zF]
      refine takeC (i := 7) rfl hHeld ?_
      try simp only [zA, zB, zC, Act.put, zD, zE, zF]
      refine wpAnyH_ready (rs := [8]) (by kernel_rfl) (by simp) ?_
      refine AllReadyH.cons rfl (fun K hK => ?_) AllReadyH.nil
      try simp only [zA, zB, zC, Act.put, zD, zE, zF]
      try rw [if_pos (by rfl)]
      go_simp
      refine (hsq.out 5 _ (by omega) (by omega)).mono ?_
      rintro e1 w1 ⟨rfl, rfl⟩
      go_wp2_with fail
      refine hK.out _ _ (Or.inl rfl) (fun hHeld => ?_)
      clear hK K
      try simp only [zA, zB, zC, Act.put, zD, zE, zF]
      refine takeC (i := 9) rfl hHeld ?_
      try simp only [zA, zB, zC, Act.put, zD, zE, zF]
      refine takeC (i := 10) rfl hHeld ?_
      try simp only [zA, zB, zC, Act.put, zD, zE, zF]
      refine takeC (i := 11) rfl hHeld ?_
      try simp only [zA, zB, zC, Act.put, zD, zE, zF]
      refine wpAnyH_ready (rs := [12]) (by kernel_rfl) (by simp) ?_
      refine AllReadyH.cons rfl (fun K hK => ?_) AllReadyH.nil
      try simp only [zA, zB, zC, Act.put, zD, zE, zF]
      try rw [if_pos (by rfl)]
      go_simp
      refine upon_ok (store_bb_ok _ _ _ _ _ c2 f2) ?_
      refine hK.out _ _ (Or.inr rfl) (fun hHeld => ?_)
      clear hK K
      try simp only [zA, zB, zC, Act.put, zD, zE, zF]
      refine wpAnyH_done (by kernel_rfl) ?_ _
      go_wp2_with fail
      refine (hend.out _ (((st3.out.drew).set hne hB hg0 2 (by omega) _).same (fun j hj => by rw [hG4s.out, if_pos (hcs.out.1 hks).1, if_pos (hcs.out.1 hks).2]; rfl))).mono ?_
      rintro e2 w2 ⟨rfl, r1, r2⟩
      go_wp2_with fail
      go_end0
      exact ⟨rfl, r1, r2⟩
     ·skip
      try simp only [zA, zB, zC, Act.put, zD, zE, zF]
      try rw [if_pos (by rfl)]
      go_simp
      refine (hsq.out 7 _ (by omega) (by omega)).mono ?_
      rintro e1 w1 ⟨rfl, rfl⟩
      go_wp2_with fail
      refine hK.out _ _ (Or.inl rfl) (fun hHeld => ?_)
      clear hK K
      try simp only [zA, zB, zC, Act.put, zD, zE, zF]
      refine takeC (i := 6) rfl hHeld ?_
      try simp only [zA, zB, zC, Act.put, zD, zE, zF]
      refine wpAnyH_ready (rs := [4, 8]) (by kernel_rfl) (by simp) ?_
      refine AllReadyH.cons rfl (fun K hK => ?_) (AllReadyH.cons rfl (fun K hK => ?_) AllReadyH.nil)
      ·skip
       try simp only [zA, zB, zC, Act.put, zD, zE, zF]
       try rw [if_pos (by rfl)]
       go_simp
       refine hK.out _ _ (Or.inl rfl) (fun hHeld => ?_)
       clear hK K
       try simp only [zA, zB, zC, Act.put, zD, zE, zF]
       refine takeC (i := 7) rfl hHeld ?_
       try simp only [zA, zB, zC, Act.put, zD, zE, zF]
       refine wpAnyH_ready (rs := [8]) (by kernel_rfl) (by simp) ?_
       refine AllReadyH.cons rfl (fun K hK => ?_) AllReadyH.nil
       try simp only [zA, zB, zC, Act.put, zD, zE, zF]
       try rw [if_pos (by rfl)]
       go_simp
       refine (hsq.out 5 _ (by omega) (by omega)).mono ?_
       rintro e1 w1 ⟨rfl, rfl⟩
       go_wp2_with fail
       refine hK.out _ _ (Or.inl rfl) (fun hHeld => ?_)
       clear hK K
       try simp only [zA, zB, zC, Act.put, zD, zE, zF]
       refine takeC (i := 9) rfl hHeld ?_
       try simp only [zA, zB, zC, Act.put, zD, zE, zF]
       refine takeC (i := 10) rfl hHeld ?_
       try simp only [zA, zB, zC, Act.put, zD, zE, zF]
       refine takeC (i := 11) rfl hHeld ?_
       try simp only [zA, zB, zC, Act.put, zD, zE, zF]
       refine wpAnyH_ready (rs := [12]) (by kernel_rfl) (by simp) ?_
       refine AllReadyH.cons rfl (fun K hK => ?_) AllReadyH.nil
       try simp only [zA, zB, zC, Act.put, zD, zE, zF]
       try rw [if_pos (by rfl)]
       go_simp
       refine upon_ok (store_bb_ok _ _ _ _ _ c2 f2) ?_
       refine hK.out _ _ (Or.inr rfl) (fun hHeld => ?_)
       clear hK K
       try simp only [zA, zB, zC, Act.put, zD, zE, zF]
       refine wpAnyH_done (by kernel_rfl) ?_ _
       go_wp2_with fail
       refine (hend.out _ (((st3.out.drew).set hne hB hg0 2 (by omega) _).same (fun j hj => by rw [hG4s.out, if_pos (hcs.out.1 hks).1, if_pos (hcs.out.1 hks).2]; rfl))).mono ?_
       rintro e2 w2 ⟨rfl, r1, r2⟩
       go_wp2_with fail
       go_end0
       exact ⟨rfl, r1, r2⟩
      ·skip
       try simp only [zA, zB, zC, Act.put, zD, zE, zF]
       try rw [if_pos (by rfl)]
       go_simp
       refine (hsq.out 5 _ (by omega) (by omega)).mono ?_
       rintro e1 w1 ⟨rfl, rfl⟩
       go_wp2_with fail
       refine hK.out _ _ (Or.inl rfl) (fun hHeld => ?_)
       clear hK K
       try simp only [zA, zB, zC, Act.put, zD, zE, zF]
       refine wpAnyH_ready (rs := [4]) (by kernel_rfl) (by simp) ?_
       refine AllReadyH.cons rfl (fun K hK => ?_) AllReadyH.nil
       try simp only [zA, zB, zC, Act.put, zD, zE, zF]
       try rw [if_pos (by rfl)]
       go_simp
       refine hK.out _ _ (Or.inl rfl) (fun hHeld => ?_)
       clear hK K
       try simp only [zA, zB, zC, Act.put, zD, zE, zF]
       refine takeC (i := 7) rfl hHeld ?_
       try simp only [zA, zB, zC, Act.put, zD, zE, zF]
       refine takeC (i := 9) rfl hHeld ?_
       try simp only [zA, zB, zC, Act.put, zD, zE, zF]
       refine takeC (i := 10) rfl hHeld ?_
       try simp only [zA, zB, zC, Act.put, zD, zE, zF]
       refine takeC (i := 11) rfl hHeld ?_
       try simp only [zA, zB, zC, Act.put, zD, zE, zF]
       refine wpAnyH_ready (rs := [12]) (by kernel_rfl) (by simp) ?_
       refine AllReadyH.cons rfl (fun K hK => ?_) AllReadyH.nil
       try simp only [zA, zB, zC, Act.put, zD, zE, zF]
       try rw [if_pos (by rfl)]
       go_simp
       refine upon_ok (store_bb_ok _ _ _ _ _ c2 f2) ?_
       refine hK.out _ _ (Or.inr rfl) (fun hHeld => ?_)
       clear hK K
       try simp only [zA, zB, zC, Act.put, zD, zE, zF]
       refine wpAnyH_done (by kernel_rfl) ?_ _
       go_wp2_with fail
       refine (hend.out _ (((st3.out.drew).set hne hB hg0 2 (by omega) _).same (fun j hj => by rw [hG4s.out, if_pos (hcs.out.1 hks).1, if_pos (hcs.out.1 hks).2]; rfl))).mono ?_
       rintro e2 w2 ⟨rfl, r1, r2⟩
       go_wp2_with fail
       go_end0
       exact ⟨rfl, r1, r2⟩
    | false =>
     cases hqs : t.qs with
     | true =>
      have c2 : wc.cell? ⟨g, 2, none⟩ = some (bbv (G3 2)) := cell_of_row _ _ 2 _ _ _ st3.out.row
      have f2 := frozen_of_row _ _ 2 _ _ st3.out.row
      go_wp2_with (first
      | (go_at_call 110; refine (hcol.out _).mono ?_; rintro e1 w1 ⟨rfl, rfl⟩)
      | (go_at_call 85; with_reducible refine (hh1.out _ st3.out).mono ?_; rintro e1 w1 ⟨rfl, rfl⟩)
      | (go_at_call 85; with_reducible refine (hh2.out _ st3.out).mono ?_; rintro e1 w1 ⟨rfl, rfl⟩))
      refine wp_region_held_drew (S := fun V : World => V = wc.drew ∨ V = wc.drew.setCell ⟨g, 2, none⟩ (bbv ((G3 2 &&& ~~~(sqBit 0)) ||| sqBit 3))) (by kernel_rfl) (Or.inl rfl) (fun hHeld => ?_)
      refine takeC (i := 0) rfl hHeld ?_
      try simp only [zA, zB, zC, Act.put, zD, zE, zF]
      refine takeC (i := 1) rfl hHeld ?_
      try simp only [zA, zB, zC, Act.put, zD, zE, zF]
      refine takeC (i := 2) rfl hHeld ?_
      try simp only [zA, zB, zC, Act.put, zD, zE, zF]
      refine takeC (i := 3) rfl hHeld ?_
      try simp only [zA, zB, zC, Act.put, zD, zE, zF]
      refine wpAnyH_ready (rs := [4, 5]) (by kernel_rfl) (by simp) ?_
      refine AllReadyH.cons rfl (fun K hK => ?_) (AllReadyH.cons rfl (fun K hK => ?_) AllReadyH.nil)
      ·skip
       try simp only [zA, zB, zC, Act.put, zD, zE, zF]
       try rw [if_pos (by rfl)]
       go_simp
       refine hK.out _ _ (Or.inl rfl) (fun hHeld => ?_)
       clear hK K
       try simp only [zA, zB, zC, Act.put, zD, zE, zF]
       refine wpAnyH_ready (rs := [5]) (by kernel_rfl) (by simp) ?_
       refine AllReadyH.cons rfl (fun K hK => ?_) AllReadyH.nil
       try simp only [zA, zB, zC, Act.put, zD, zE, zF]
       try rw [if_pos (by rfl)]
       go_simp
       refine (hsq.out 0 _ (by omega) (by omega)).mono ?_
       rintro e1 w1 ⟨rfl, rfl⟩
       go_wp2_with fail
       refine hK.out _ _ (Or.inl rfl) (fun hHeld => ?_)
       clear hK K
       try simp only [zA, zB, zC, Act.put, zD, zE, zF]
       refine takeC (i := 6) rfl hHeld ?_
       try simp only [zA, zB, zC, Act.put, zD, zE, zF]
       refine takeC (i := 7) rfl hHeld ?_
       try simp only [zA, zB, zC, Act.put, zD, zE, zF]
       refine wpAnyH_ready (rs := [8]) (by kernel_rfl) (by simp) ?_
       refine AllReadyH.cons rfl (fun K hK => ?_) AllReadyH.nil
       try simp only [zA, zB, zC, Act.put, zD, zE, zF]
       try rw [if_pos (by rfl)]
       go_simp
       refine (hsq.out 3 _ (by omega) (by omega)).mono ?_
       rintro e1 w1 ⟨rfl, rfl⟩
       go_wp2_with fail
       refine hK.out _ _ (Or.inl rfl) (fun hHeld => ?_)
       clear hK K
       try simp only [zA, zB, zC, Act.put, zD, zE, zF]
       refine takeC (i := 9) rfl hHeld ?_
       try simp only [zA, zB, zC, Act.put, zD, zE, zF]
       refine takeC (i := 10) rfl hHeld ?_
       try simp only [zA, zB, zC, Act.put, zD, zE, zF]
       refine takeC (i := 11) rfl hHeld ?_
       try simp only [zA, zB, zC, Act.put, zD, zE, zF]
       refine wpAnyH_ready (rs := [12]) (by kernel_rfl) (by simp) ?_
       refine AllReadyH.cons rfl (fun K hK => ?_) AllReadyH.nil
       try simp only [zA, zB, zC, Act.put, zD, zE, zF]
       try rw [if_pos (by rfl)]
       go_simp
       refine upon_ok (store_bb_ok _ _ _ _ _ c2 f2) ?_
       refine hK.out _ _ (Or.inr rfl) (fun hHeld => ?_)
       clear hK K
       try simp only [zA, zB, zC, Act.put, zD, zE, zF]
       refine wpAnyH_done (by kernel_rfl) ?_ _
       go_wp2_with fail
       refine (hend.out _ (((st3.out.drew).set hne hB hg0 2 (by omega) _).same (fun j hj => by rw [hG4s.out, if_pos (hcs.out.2.1 hqs).1, if_neg (show ¬ m.to = m.fr + 2 from by have := (hcs.out.2.1 hqs).2; omega)]; rfl))).mono ?_
       rintro e2 w2 ⟨rfl, r1, r2⟩
       go_wp2_with fail
       go_end0
       exact ⟨rfl, r1, r2⟩
      ·skip
       try simp only [zA, zB, zC, Act.put, zD, zE, zF]
       try rw [if_pos (by rfl)]
       go_simp
       refine (hsq.out 0 _ (by omega) (by omega)).mono ?_
       rintro e1 w1 ⟨rfl, rfl⟩
       go_wp2_with fail
       refine hK.out _ _ (Or.inl rfl) (fun hHeld => ?_)
       clear hK K
       try simp only [zA, zB, zC, Act.put, zD, zE, zF]
       refine takeC (i := 6) rfl hHeld ?_
       try simp only [zA, zB, zC, Act.put, zD, zE, zF]
       refine wpAnyH_ready (rs := [4, 8]) (by kernel_rfl) (by simp) ?_
       refine AllReadyH.cons rfl (fun K hK => ?_) (AllReadyH.cons rfl (fun K hK => ?_) AllReadyH.nil)
       ·skip
        try simp only [zA, zB, zC, Act.put, zD, zE, zF]
        try rw [if_pos (by rfl)]
        go_simp
        refine hK.out _ _ (Or.inl rfl) (fun hHeld => ?_)
        clear hK K
        try simp only [zA, zB, zC, Act.put, zD, zE, zF]
        refine takeC (i := 7) rfl hHeld ?_
        try simp only [zA, zB, zC, Act.put, zD, zE, zF]
        refine wpAnyH_ready (rs := [8]) (by kernel_rfl) (by simp) ?_
        refine AllReadyH.cons rfl (fun K hK => ?_) AllReadyH.nil
        try simp only [zA, zB, zC, Act.put, zD, zE, zF]
        try rw [if_pos (by rfl)]
        go_simp
        refine (hsq.out 3 _ (by omega) (by omega)).mono ?_
        rintro e1 w1 ⟨rfl, rfl⟩
        go_wp2_with fail
        refine hK.out _ _ (Or.inl rfl) (fun hHeld => ?_)
        clear hK K
        try simp only [zA, zB, zC, Act.put, zD, zE, zF]
        refine takeC (i := 9) rfl hHeld ?_
        try simp only [zA, zB, zC, Act.put, zD, zE, zF]
        refine takeC (i := 10) rfl hHeld ?_
        try simp only [zA, zB, zC, Act.put, zD, zE, zF]
        refine takeC (i := 11) rfl hHeld ?_
        try simp only [zA, zB, zC, Act.put, zD, zE, zF]
        refine wpAnyH_ready (rs := [12]) (by kernel_rfl) (by simp) ?_
        refine AllReadyH.cons rfl (fun K hK => ?_) AllReadyH.nil
        try simp only [zA, zB, zC, Act.put, zD, zE, zF]
        try rw [if_pos (by rfl)]
        go_simp
        refine upon_ok (store_bb_ok _ _ _ _ _ c2 f2) ?_
        refine hK.out _ _ (Or.inr rfl) (fun hHeld => ?_)
        clear hK K
        try simp only [zA, zB, zC, Act.put, zD, zE, zF]
        refine wpAnyH_done (by kernel_rfl) ?_ _
        go_wp2_with fail
        refine (hend.out _ (((st3.out.drew).set hne hB hg0 2 (by omega) _).same (fun j hj => by rw [hG4s.out, if_pos (hcs.out.2.1 hqs).1, if_neg (show ¬ m.to = m.fr + 2 from by have := (hcs.out.2.1 hqs).2; omega)]; rfl))).mono ?_
        rintro e2 w2 ⟨rfl, r1, r2⟩
        go_wp2_with fail
        go_end0
        exact ⟨rfl, r1, r2⟩
       ·skip
        try simp only [zA, zB, zC, Act.put, zD, zE, zF]
        try rw [if_pos (by rfl)]
        go_simp
        refine (hsq.out 3 _ (by omega) (by omega)).mono ?_
        rintro e1 w1 ⟨rfl, rfl⟩
        go_wp2_with fail
        refine hK.out _ _ (Or.inl rfl) (fun hHeld => ?_)
        clear hK K
        try simp only [zA, zB, zC, Act.put, zD, zE, zF]
        refine wpAnyH_ready (rs := [4]) (by kernel_rfl) (by simp) ?_
        refine AllReadyH.cons rfl (fun K hK => ?_) AllReadyH.nil
        try simp only [zA, zB, zC, Act.put, zD, zE, zF]
        try rw [if_pos (by rfl)]
        go_simp
        refine hK.out _ _ (Or.inl rfl) (fun hHeld => ?_)
        clear hK K
        try simp only [zA, zB, zC, Act.put, zD, zE, zF]
        refine takeC (i := 7) rfl hHeld ?_
        try simp only [zA, zB, zC, Act.put, zD, zE, zF]
        refine takeC (i := 9) rfl hHeld ?_
        try simp only [zA, zB, zC, Act.put, zD, zE, zF]
        refine takeC (i := 10) rfl hHeld ?_
        try simp only [zA, zB, zC, Act.put, zD, zE, zF]
        refine takeC (i := 11) rfl hHeld ?_
        try simp only [zA, zB, zC, Act.put, zD, zE, zF]
        refine wpAnyH_ready (rs := [12]) (by kernel_rfl) (by simp) ?_
        refine AllReadyH.cons rfl (fun K hK => ?_) AllReadyH.nil
        try simp only [zA, zB, zC, Act.put, zD, zE, zF]
        try rw [if_pos (by rfl)]
        go_simp
        refine upon_ok (store_bb_ok _ _ _ _ _ c2 f2) ?_
        refine hK.out _ _ (Or.inr rfl) (fun hHeld => ?_)
        clear hK K
        try simp only [zA, zB, zC, Act.put, zD, zE, zF]
        refine wpAnyH_done (by kernel_rfl) ?_ _
        go_wp2_with fail
        refine (hend.out _ (((st3.out.drew).set hne hB hg0 2 (by omega) _).same (fun j hj => by rw [hG4s.out, if_pos (hcs.out.2.1 hqs).1, if_neg (show ¬ m.to = m.fr + 2 from by have := (hcs.out.2.1 hqs).2; omega)]; rfl))).mono ?_
        rintro e2 w2 ⟨rfl, r1, r2⟩
        go_wp2_with fail
        go_end0
        exact ⟨rfl, r1, r2⟩
     | false =>
      go_wp2_with (first
      | (go_at_call 110; refine (hcol.out _).mono ?_; rintro e1 w1 ⟨rfl, rfl⟩)
      | (go_at_call 85; with_reducible refine (hh1.out _ st3.out).mono ?_; rintro e1 w1 ⟨rfl, rfl⟩)
      | (go_at_call 85; with_reducible refine (hh2.out _ st3.out).mono ?_; rintro e1 w1 ⟨rfl, rfl⟩))
      refine (hend.out _ (st3.out.same (fun j hj => by rw [hG4s.out, if_neg (by rw [hcs.out.2.2 hks hqs]; decide)]))).mono ?_
      rintro e2 w2 ⟨rfl, r1, r2⟩
      go_wp2_with fail
      go_end0
      exact ⟨rfl, r1, r2⟩
   ·cases hks : t.ks with
    | true =>
     have c8 : wc.cell? ⟨g, 8, none⟩ = some (bbv (G3 8)) := cell_of_row _ _ 8 _ _ _ st3.out.row
     have f8 := frozen_of_row _ _ 8 _ _ st3.out.row
     go_wp2_with (first
      | (go_at_call 110; refine (hcol.out _).mono ?_; rintro e1 w1 ⟨rfl, rfl⟩)
      | (go_at_call 85; with_reducible refine (hh1.out _ st3.out).mono ?_; rintro e1 w1 ⟨rfl, rfl⟩)
      | (go_at_call 85; with_reducible refine (hh2.out _ st3.out).mono ?_; rintro e1 w1 ⟨rfl, rfl⟩))
     refine wp_region_held_drew (S := fun V : World => V = wc.drew ∨ V = wc.drew.setCell ⟨g, 8, none⟩ (bbv ((G3 8 &&& ~~~(sqBit 63)) ||| sqBit 61))) (by kernel_rfl) (Or.inl rfl) (fun hHeld => ?_)
     refine takeC (i := 0) rfl hHeld ?_
     try simp only [zA, zB, zC, Act.put, zD, zE, zF]
     refine takeC (i := 1) rfl hHeld ?_
     try simp only [zA, zB, zC, Act.put, zD, zE, zF]
     refine takeC (i := 2) rfl hHeld ?_
     try simp only [zA, zB, zC, Act.put, zD, zE, zF]
     refine takeC (i := 3) rfl hHeld ?_
     try simp only [zA, zB, zC, Act.put, zD, zE, zF]
     refine wpAnyH_ready (rs := [4, 5]) (by kernel_rfl) (by simp) ?_
     refine AllReadyH.cons rfl (fun K hK => ?_) (AllReadyH.cons rfl (fun K hK => ?_) AllReadyH.nil)
     ·skip
      try simp only [zA, zB, zC, Act.put, zD, zE, zF]
      try rw [if_pos (by rfl)]
      go_simp
      refine hK.out _ _ (Or.inl rfl) (fun hHeld => ?_)
      clear hK K
      try simp only [zA, zB, zC, Act.put, zD, zE, zF]
      refine wpAnyH_ready (rs := [5]) (by kernel_rfl) (by simp) ?_
      refine AllReadyH.cons rfl (fun K hK => ?_) AllReadyH.nil
      try simp only [zA, zB, zC, Act.put, zD, zE, zF]
      try rw [if_pos (by rfl)]
      go_simp
      refine (hsq.out 63 _ (by omega) (by omega)).mono ?_
      rintro e1 w1 ⟨rfl, rfl⟩
      go_wp2_with fail
      refine hK.out _ _ (Or.inl rfl) (fun hHeld => ?_)
      clear hK K
      try simp only [zA, zB, zC, Act.put, zD, zE, zF]
      refine takeC (i := 6) rfl hHeld ?_
      try simp only [zA, zB, zC, Act.put, zD, zE, zF]
      refine takeC (i := 7) rfl hHeld ?_
      try simp only [zA, zB, zC, Act.put, zD, zE, zF]
      refine wpAnyH_ready (rs := [8]) (by kernel_rfl) (by simp) ?_
      refine AllReadyH.cons rfl (fun K hK => ?_) AllReadyH.nil
      try simp only [zA, zB, zC, Act.put, zD, zE, zF]
      try rw [if_pos (by rfl)]
      go_simp
      refine (hsq.out 61 _ (by omega) (by omega)).mono ?_
      rintro e1 w1 ⟨rfl, rfl⟩
      go_wp2_with fail
      refine hK.out _ _ (Or.inl rfl) (fun hHeld => ?_)
      clear hK K
      try simp only [zA, zB, zC, Act.put, zD, zE, zF]
      refine takeC (i := 9) rfl hHeld ?_
      try simp only [zA, zB, zC, Act.put, zD, zE, zF]
      refine takeC (i := 10) rfl hHeld ?_
      try simp only [zA, zB, zC, Act.put, zD, zE, zF]
      refine takeC (i := 11) rfl hHeld ?_
      try simp only [zA, zB, zC, Act.put, zD, zE, zF]
      refine wpAnyH_ready (rs := [12]) (by kernel_rfl) (by simp) ?_
      refine AllReadyH.cons rfl (fun K hK => ?_) AllReadyH.nil
      try simp only [zA, zB, zC, Act.put, zD, zE, zF]
      try rw [if_pos (by rfl)]
      go_simp
      refine upon_ok (store_bb_ok _ _ _ _ _ c8 f8) ?_
      refine hK.out _ _ (Or.inr rfl) (fun hHeld => ?_)
      clear hK K
      try simp only [zA, zB, zC, Act.put, zD, zE, zF]
      refine wpAnyH_done (by kernel_rfl) ?_ _
      go_wp2_with fail
      refine (hend.out _ (((st3.out.drew).set hne hB hg0 8 (by omega) _).same (fun j hj => by rw [hG4s.out, if_pos (hcs.out.1 hks).1, if_pos (hcs.out.1 hks).2]; rfl))).mono ?_
      rintro e2 w2 ⟨rfl, r1, r2⟩
      go_wp2_with fail
      go_end0
      exact ⟨rfl, r1, r2⟩
     ·skip
      try simp only [zA, zB, zC, Act.put, zD, zE, zF]
      try rw [if_pos (by rfl)]
      go_simp
      refine (hsq.out 63 _ (by omega) (by omega)).mono ?_
      rintro e1 w1 ⟨rfl, rfl⟩
      go_wp2_with fail
      refine hK.out _ _ (Or.inl rfl) (fun hHeld => ?_)
      clear hK K
      try simp only [zA, zB, zC, Act.put, zD, zE, zF]
      refine takeC (i := 6) rfl hHeld ?_
      try simp only [zA, zB, zC, Act.put, zD, zE, zF]
      refine wpAnyH_ready (rs := [4, 8]) (by kernel_rfl) (by simp) ?_
      refine AllReadyH.cons rfl (fun K hK => ?_) (AllReadyH.cons rfl (fun K hK => ?_) AllReadyH.nil)
      ·skip
       try simp only [zA, zB, zC, Act.put, zD, zE, zF]
       try rw [if_pos (by rfl)]
       go_simp
       refine hK.out _ _ (Or.inl rfl) (fun hHeld => ?_)
       clear hK K
       try simp only [zA, zB, zC, Act.put, zD, zE, zF]
       refine takeC (i := 7) rfl hHeld ?_
       try simp only [zA, zB, zC, Act.put, zD, zE, zF]
       refine wpAnyH_ready (rs := [8]) (by kernel_rfl) (by simp) ?_
       refine AllReadyH.cons rfl (fun K hK => ?_) AllReadyH.nil
       try simp only [zA, zB, zC, Act.put, zD, zE, zF]
       try rw [if_pos (by rfl)]
       go_simp
       refine (hsq.out 61 _ (by omega) (by omega)).mono ?_
       rintro e1 w1 ⟨rfl, rfl⟩
       go_wp2_with fail
       refine hK.out _ _ (Or.inl rfl) (fun hHeld => ?_)
       clear hK K
       try simp only [zA, zB, zC, Act.put, zD, zE, zF]
       refine takeC (i := 9) rfl hHeld ?_
       try simp only [zA, zB, zC, Act.put, zD, zE, zF]
       refine takeC (i := 10) rfl hHeld ?_
       try simp only [zA, zB, zC, Act.put, zD, zE, zF]
       refine takeC (i := 11) rfl hHeld ?_
       try simp only [zA, zB, zC, Act.put, zD, zE, zF]
       refine wpAnyH_ready (rs := [12]) (by kernel_rfl) (by simp) ?_
       refine AllReadyH.cons rfl (fun K hK => ?_) AllReadyH.nil
       try simp only [zA, zB, zC, Act.put, zD, zE, zF]
       try rw [if_pos (by rfl)]
       go_simp
       refine upon_ok (store_bb_ok _ _ _ _ _ c8 f8) ?_
       refine hK.out _ _ (Or.inr rfl) (fun hHeld => ?_)
       clear hK K
       try simp only [zA, zB, zC, Act.put, zD, zE, zF]
       refine wpAnyH_done (by kernel_rfl) ?_ _
       go_wp2_with fail
       refine (hend.out _ (((st3.out.drew).set hne hB hg0 8 (by omega) _).same (fun j hj => by rw [hG4s.out, if_pos (hcs.out.1 hks).1, if_pos (hcs.out.1 hks).2]; rfl))).mono ?_
       rintro e2 w2 ⟨rfl, r1, r2⟩
       go_wp2_with fail
       go_end0
       exact ⟨rfl, r1, r2⟩
      ·skip
       try simp only [zA, zB, zC, Act.put, zD, zE, zF]
       try rw [if_pos (by rfl)]
       go_simp
       refine (hsq.out 61 _ (by omega) (by omega)).mono ?_
       rintro e1 w1 ⟨rfl, rfl⟩
       go_wp2_with fail
       refine hK.out _ _ (Or.inl rfl) (fun hHeld => ?_)
       clear hK K
       try simp only [zA, zB, zC, Act.put, zD, zE, zF]
       refine wpAnyH_ready (rs := [4]) (by kernel_rfl) (by simp) ?_
       refine AllReadyH.cons rfl (fun K hK => ?_) AllReadyH.nil
       try simp only [zA, zB, zC, Act.put, zD, zE, zF]
       try rw [if_pos (by rfl)]
       go_simp
       refine hK.out _ _ (Or.inl rfl) (fun hHeld => ?_)
       clear hK K
       try simp only [zA, zB, zC, Act.put, zD, zE, zF]
       refine takeC (i := 7) rfl hHeld ?_
       try simp only [zA, zB, zC, Act.put, zD, zE, zF]
       refine takeC (i := 9) rfl hHeld ?_
       try simp only [zA, zB, zC, Act.put, zD, zE, zF]
       refine takeC (i := 10) rfl hHeld ?_
       try simp only [zA, zB, zC, Act.put, zD, zE, zF]
       refine takeC (i := 11) rfl hHeld ?_
       try simp only [zA, zB, zC, Act.put, zD, zE, zF]
       refine wpAnyH_ready (rs := [12]) (by kernel_rfl) (by simp) ?_
       refine AllReadyH.cons rfl (fun K hK => ?_) AllReadyH.nil
       try simp only [zA, zB, zC, Act.put, zD, zE, zF]
       try rw [if_pos (by rfl)]
       go_simp
       refine upon_ok (store_bb_ok _ _ _ _ _ c8 f8) ?_
       refine hK.out _ _ (Or.inr rfl) (fun hHeld => ?_)
       clear hK K
       try simp only [zA, zB, zC, Act.put, zD, zE, zF]
       refine wpAnyH_done (by kernel_rfl) ?_ _
       go_wp2_with fail
       refine (hend.out _ (((st3.out.drew).set hne hB hg0 8 (by omega) _).same (fun j hj => by rw [hG4s.out, if_pos (hcs.out.1 hks).1, if_pos (hcs.out.1 hks).2]; rfl))).mono ?_
       rintro e2 w2 ⟨rfl, r1, r2⟩
       go_wp2_with fail
       go_end0
       exact ⟨rfl, r1, r2⟩
    | false =>
     cases hqs : t.qs with
     | true =>
      have c8 : wc.cell? ⟨g, 8, none⟩ = some (bbv (G3 8)) := cell_of_row _ _ 8 _ _ _ st3.out.row
      have f8 := frozen_of_row _ _ 8 _ _ st3.out.row
      go_wp2_with (first
      | (go_at_call 110; refine (hcol.out _).mono ?_; rintro e1 w1 ⟨rfl, rfl⟩)
      | (go_at_call 85; with_reducible refine (hh1.out _ st3.out).mono ?_; rintro e1 w1 ⟨rfl, rfl⟩)
      | (go_at_call 85; with_reducible refine (hh2.out _ st3.out).mono ?_; rintro e1 w1 ⟨rfl, rfl⟩))
      refine wp_region_held_drew (S := fun V : World => V = wc.drew ∨ V = wc.drew.setCell ⟨g, 8, none⟩ (bbv ((G3 8 &&& ~~~(sqBit 56)) ||| sqBit 59))) (by kernel_rfl) (Or.inl rfl) (fun hHeld => ?_)
      refine takeC (i := 0) rfl hHeld ?_
      try simp only [zA, zB, zC, Act.put, zD, zE, zF]
      refine takeC (i := 1) rfl hHeld ?_
      try simp only [zA, zB, zC, Act.put, zD, zE, zF]
      refine takeC (i := 2) rfl hHeld ?_
      try simp only [zA, zB, zC, Act.put, zD, zE, zF]
      refine takeC (i := 3) rfl hHeld ?_
      try simp only [zA, zB, zC, Act.put, zD, zE, zF]
      refine wpAnyH_ready (rs := [4, 5]) (by kernel_rfl) (by simp) ?_
      refine AllReadyH.cons rfl (fun K hK => ?_) (AllReadyH.cons rfl (fun K hK => ?_) AllReadyH.nil)
      ·skip
       try simp only [zA, zB, zC, Act.put, zD, zE, zF]
       try rw [if_pos (by rfl)]
       go_simp
       refine hK.out _ _ (Or.inl rfl) (fun hHeld => ?_)
       clear hK K
       try simp only [zA, zB, zC, Act.put, zD, zE, zF]
       refine wpAnyH_ready (rs := [5]) (by kernel_rfl) (by simp) ?_
       refine AllReadyH.cons rfl (fun K hK => ?_) AllReadyH.nil
       try simp only [zA, zB, zC, Act.put, zD, zE, zF]
       try rw [if_pos (by rfl)]
       go_simp
       refine (hsq.out 56 _ (by omega) (by omega)).mono ?_
       rintro e1 w1 ⟨rfl, rfl⟩
       go_wp2_with fail
       refine hK.out _ _ (Or.inl rfl) (fun hHeld => ?_)
       clear hK K
       try simp only [zA, zB, zC, Act.put, zD, zE, zF]
       refine takeC (i := 6) rfl hHeld ?_
       try simp only [zA, zB, zC, Act.put, zD, zE, zF]
       refine takeC (i := 7) rfl hHeld ?_
       try simp only [zA, zB, zC, Act.put, zD, zE, zF]
       refine wpAnyH_ready (rs := [8]) (by kernel_rfl) (by simp) ?_
       refine AllReadyH.cons rfl (fun K hK => ?_) AllReadyH.nil
       try simp only [zA, zB, zC, Act.put, zD, zE, zF]
       try rw [if_pos (by rfl)]
       go_simp
       refine (hsq.out 59 _ (by omega) (by omega)).mono ?_
       rintro e1 w1 ⟨rfl, rfl⟩
       go_wp2_with fail
       refine hK.out _ _ (Or.inl rfl) (fun hHeld => ?_)
       clear hK K
       try simp only [zA, zB, zC, Act.put, zD, zE, zF]
       refine takeC (i := 9) rfl hHeld ?_
       try simp only [zA, zB, zC, Act.put, zD, zE, zF]
       refine takeC (i := 10) rfl hHeld ?_
       try simp only [zA, zB, zC, Act.put, zD, zE, zF]
       refine takeC (i := 11) rfl hHeld ?_
       try simp only [zA, zB, zC, Act.put, zD, zE, zF]
       refine wpAnyH_ready (rs := [12]) (by kernel_rfl) (by simp) ?_
       refine AllReadyH.cons rfl (fun K hK => ?_) AllReadyH.nil
       try simp only [zA, zB, zC, Act.put, zD, zE, zF]
       try rw [if_pos (by rfl)]
       go_simp
       refine upon_ok (store_bb_ok _ _ _ _ _ c8 f8) ?_
       refine hK.out _ _ (Or.inr rfl) (fun hHeld => ?_)
       clear hK K
       try simp only [zA, zB, zC, Act.put, zD, zE, zF]
       refine wpAnyH_done (by kernel_rfl) ?_ _
       go_wp2_with fail
       refine (hend.out _ (((st3.out.drew).set hne hB hg0 8 (by omega) _).same (fun j hj => by rw [hG4s.out, if_pos (hcs.out.2.1 hqs).1, if_neg (show ¬ m.to = m.fr + 2 from by have := (hcs.out.2.1 hqs).2; omega)]; rfl))).mono ?_
       rintro e2 w2 ⟨rfl, r1, r2⟩
       go_wp2_with fail
       go_end0
       exact ⟨rfl, r1, r2⟩
      ·skip
       try simp only [zA, zB, zC, Act.put, zD, zE, zF]
       try rw [if_pos (by rfl)]
       go_simp
       refine (hsq.out 56 _ (by omega) (by omega)).mono ?_
       rintro e1 w1 ⟨rfl, rfl⟩
       go_wp2_with fail
       refine hK.out _ _ (Or.inl rfl) (fun hHeld => ?_)
       clear hK K
       try simp only [zA, zB, zC, Act.put, zD, zE, zF]
       refine takeC (i := 6) rfl hHeld ?_
       try simp only [zA, zB, zC, Act.put, zD, zE, zF]
       refine wpAnyH_ready (rs := [4, 8]) (by kernel_rfl) (by simp) ?_
       refine AllReadyH.cons rfl (fun K hK => ?_) (AllReadyH.cons rfl (fun K hK => ?_) AllReadyH.nil)
       ·skip
        try simp only [zA, zB, zC, Act.put, zD, zE, zF]
        try rw [if_pos (by rfl)]
        go_simp
        refine hK.out _ _ (Or.inl rfl) (fun hHeld => ?_)
        clear hK K
        try simp only [zA, zB, zC, Act.put, zD, zE, zF]
        refine takeC (i := 7) rfl hHeld ?_
        try simp only [zA, zB, zC, Act.put, zD, zE, zF]
        refine wpAnyH_ready (rs := [8]) (by kernel_rfl) (by simp) ?_
        refine AllReadyH.cons rfl (fun K hK => ?_) AllReadyH.nil
        try simp only [zA, zB, zC, Act.put, zD, zE, zF]
        try rw [if_pos (by rfl)]
        go_simp
        refine (hsq.out 59 _ (by omega) (by omega)).mono ?_
        rintro e1 w1 ⟨rfl, rfl⟩
        go_wp2_with fail
        refine hK.out _ _ (Or.inl rfl) (fun hHeld => ?_)
        clear hK K
        try simp only [zA, zB, zC, Act.put, zD, zE, zF]
        refine takeC (i := 9) rfl hHeld ?_
        try simp only [zA, zB, zC, Act.put, zD, zE, zF]
        refine takeC (i := 10) rfl hHeld ?_
        try simp only [zA, zB, zC, Act.put, zD, zE, zF]
        refine takeC (i := 11) rfl hHeld ?_
        try simp only [zA, zB, zC, Act.put, zD, zE, zF]
        refine wpAnyH_ready (rs := [12]) (by kernel_rfl) (by simp) ?_
        refine AllReadyH.cons rfl (fun K hK => ?_) AllReadyH.nil
        try simp only [zA, zB, zC, Act.put, zD, zE, zF]
        try rw [if_pos (by rfl)]
        go_simp
        refine upon_ok (store_bb_ok _ _ _ _ _ c8 f8) ?_
        refine hK.out _ _ (Or.inr rfl) (fun hHeld => ?_)
        clear hK K
        try simp only [zA, zB, zC, Act.put, zD, zE, zF]
        refine wpAnyH_done (by kernel_rfl) ?_ _
        go_wp2_with fail
        refine (hend.out _ (((st3.out.drew).set hne hB hg0 8 (by omega) _).same (fun j hj => by rw [hG4s.out, if_pos (hcs.out.2.1 hqs).1, if_neg (show ¬ m.to = m.fr + 2 from by have := (hcs.out.2.1 hqs).2; omega)]; rfl))).mono ?_
        rintro e2 w2 ⟨rfl, r1, r2⟩
        go_wp2_with fail
        go_end0
        exact ⟨rfl, r1, r2⟩
       ·skip
        try simp only [zA, zB, zC, Act.put, zD, zE, zF]
        try rw [if_pos (by rfl)]
        go_simp
        refine (hsq.out 59 _ (by omega) (by omega)).mono ?_
        rintro e1 w1 ⟨rfl, rfl⟩
        go_wp2_with fail
        refine hK.out _ _ (Or.inl rfl) (fun hHeld => ?_)
        clear hK K
        try simp only [zA, zB, zC, Act.put, zD, zE, zF]
        refine wpAnyH_ready (rs := [4]) (by kernel_rfl) (by simp) ?_
        refine AllReadyH.cons rfl (fun K hK => ?_) AllReadyH.nil
        try simp only [zA, zB, zC, Act.put, zD, zE, zF]
        try rw [if_pos (by rfl)]
        go_simp
        refine hK.out _ _ (Or.inl rfl) (fun hHeld => ?_)
        clear hK K
        try simp only [zA, zB, zC, Act.put, zD, zE, zF]
        refine takeC (i := 7) rfl hHeld ?_
        try simp only [zA, zB, zC, Act.put, zD, zE, zF]
        refine takeC (i := 9) rfl hHeld ?_
        try simp only [zA, zB, zC, Act.put, zD, zE, zF]
        refine takeC (i := 10) rfl hHeld ?_
        try simp only [zA, zB, zC, Act.put, zD, zE, zF]
        refine takeC (i := 11) rfl hHeld ?_
        try simp only [zA, zB, zC, Act.put, zD, zE, zF]
        refine wpAnyH_ready (rs := [12]) (by kernel_rfl) (by simp) ?_
        refine AllReadyH.cons rfl (fun K hK => ?_) AllReadyH.nil
        try simp only [zA, zB, zC, Act.put, zD, zE, zF]
        try rw [if_pos (by rfl)]
        go_simp
        refine upon_ok (store_bb_ok _ _ _ _ _ c8 f8) ?_
        refine hK.out _ _ (Or.inr rfl) (fun hHeld => ?_)
        clear hK K
        try simp only [zA, zB, zC, Act.put, zD, zE, zF]
        refine wpAnyH_done (by kernel_rfl) ?_ _
        go_wp2_with fail
        refine (hend.out _ (((st3.out.drew).set hne hB hg0 8 (by omega) _).same (fun j hj => by rw [hG4s.out, if_pos (hcs.out.2.1 hqs).1, if_neg (show ¬ m.to = m.fr + 2 from by have := (hcs.out.2.1 hqs).2; omega)]; rfl))).mono ?_
        rintro e2 w2 ⟨rfl, r1, r2⟩
        go_wp2_with fail
        go_end0
        exact ⟨rfl, r1, r2⟩
     | false =>
      go_wp2_with (first
      | (go_at_call 110; refine (hcol.out _).mono ?_; rintro e1 w1 ⟨rfl, rfl⟩)
      | (go_at_call 85; with_reducible refine (hh1.out _ st3.out).mono ?_; rintro e1 w1 ⟨rfl, rfl⟩)
      | (go_at_call 85; with_reducible refine (hh2.out _ st3.out).mono ?_; rintro e1 w1 ⟨rfl, rfl⟩))
      refine (hend.out _ (st3.out.same (fun j hj => by rw [hG4s.out, if_neg (by rw [hcs.out.2.2 hks hqs]; decide)]))).mono ?_
      rintro e2 w2 ⟨rfl, r1, r2⟩
      go_wp2_with fail
      go_end0
      exact ⟨rfl, r1, r2⟩
end Go.Proofs.YtnjdgooljnbebaaGreatDoor
