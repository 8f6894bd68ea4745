/- The tags of a move (addTags): for every sound position and every move that a pseudo-legal one can be.
The squares to which a piece can go, as the engine reckons them (pawnMoves, bbForPossibleMoves): for every position.
The moves that the engine tries (standardMoves), as words: where a piece can go, what the walk wants of them.
What the engine's moves are to the rules. The plain law: for every position that is one of a game as far as it tells.
The law of the engine's moves. The plain law.
The engine's moves and the legal ones. The plain law.
Castling: the engine's test is the rules' own. The plain law. -/
import Derived.Test.YtnjdgooljnbebaaGreatDoorG3
import Derived.Test.YtnjdgooljnbebaaGreatDoorG1
import Derived.Test.YtnjdgooljnbebaaGreatDoorGj
import Derived.Test.YtnjdgooljnbebaaGreatDoorGh
import Derived.Test.YtnjdgooljnbebaaGreatDoorGe
namespace Go.Proofs.YtnjdgooljnbebaaGreatDoor
open Go Go.RowKit
set_option maxHeartbeats 8000000
set_option linter.unusedSimpArgs false
set_option linter.unusedVariables false
set_option maxRecDepth 100000

/-- What a call keeps that changes the block g and makes new ones. -/
def Kept (g : Nat) (w w' : World) : Prop := (∀ k, k < w.heap.size → k ≠ g → w'.heap[k]? = w.heap[k]?) ∧ w.heap.size ≤ w'.heap.size ∧ ∀ B a, B ≤ g → B ≤ w.heap.size → Below B a w → Below B a w'
theorem Kept.refl (g : Nat) (w : World) : Kept g w w := ⟨fun _ _ _ => rfl, Nat.le_refl _, fun _ _ _ _ h => h⟩
theorem Kept.trans {g : Nat} {a b c : World} (h : Kept g a b) (k : Kept g b c) : Kept g a c :=
  ⟨fun i hi hg => (k.1 i (Nat.lt_of_lt_of_le hi h.2.1) hg).trans (h.1 i hi hg), Nat.le_trans h.2.1 k.2.1, fun B x hB hs hb => k.2.2 B x hB (Nat.le_trans hs h.2.1) (h.2.2 B x hB hs hb)⟩
theorem Kept.below {g : Nat} {w w' : World} (h : Below w.heap.size w w') : Kept g w w' := ⟨fun k hk _ => h.block k hk, h.size, fun B a _ hs hb => hb.trans (h.mono hs)⟩
theorem Kept.set (g i : Nat) (v : Value) (w : World) : Kept g w (w.setCell ⟨g, i, none⟩ v) := ⟨fun k _ hg => heap_setCell_other _ _ _ _ hg, by simp, fun B a hB _ hb => hb.setCell (p := ⟨g, i, none⟩) hB v⟩
theorem Kept.only {g c : Nat} {w w' : World} (h : Only c w w') (hs : w.heap.size ≤ w'.heap.size) {w0 : World} (hc : w0.heap.size ≤ c) (h0 : Kept g w0 w) (hw : w0.heap.size ≤ w.heap.size) : Kept g w0 w' :=
  ⟨fun k hk hg => (h.1 k (by omega)).trans (h0.1 k hk hg), Nat.le_trans hw hs, fun B a hB hs hb => h.2 B a (by omega) (h0.2.2 B a hB hs hb)⟩
/-- Both kings behind a move. -/
theorem made_kings (p : List Int) (tn : Nat) (hs : Sound p tn) (m : Mv) (h : GoodM p tn m) (hkt : kindOf (pcAt p m.to) ≠ 1) : ∃ k0 k1 : Nat, lastK (madeB p m) 1 64 = (k0 : Int) ∧ lastK (madeB p m) 7 64 = (k1 : Int) ∧ k0 < 64 ∧ k1 < 64 ∧ kingBy p m = ((if tn = 1 then k1 else k0 : Nat) : Int) := by
  have htn := hs.one
  have key : ∀ c : Nat, c ≤ 1 → ∃ k : Nat, k < 64 ∧ lastK (madeB p m) (1 + 6 * (c : Int)) 64 = (k : Int) ∧ (k : Int) = if m.fr = kingAt p (c : Int) then m.to else kingAt p (c : Int) := by
    intro c hc
    have hcnt : cnt p (1 + 6 * (c : Int)) 64 = 1 := by
      rcases (show c = 0 ∨ c = 1 by omega) with rfl | rfl
      · exact hs.n1
      · exact hs.n7
    obtain ⟨k, _, hk2, hk64, hkp⟩ := king_both p c hcnt
    have hu : ∀ j, j < 64 → (p.getD j 0 = 1 + 6 * (c : Int) ↔ j = k) := fun j hj => ⟨fun e => cnt_one p _ 64 hcnt j k hj hk64 e hkp, fun e => by rw [e]; exact hkp⟩
    have hm2 := made_king p hs.pos.len tn htn hs.turn m h c hc hkt k hk64 hu
    have t0 := h.ok.t0
    have t1 := h.ok.t1
    have f0 := h.ok.f0
    refine ⟨if m.fr.toNat = k then m.to.toNat else k, by split <;> omega, ?_, ?_⟩
    · rw [lastK_only _ _ _ hm2 64 (Nat.le_refl _), if_pos (by split <;> omega)]
    · rw [hk2]
      by_cases hfk : m.fr.toNat = k
      · rw [if_pos hfk, if_pos (by omega)]
        omega
      · rw [if_neg hfk, if_neg (by omega)]
  obtain ⟨k0, a0, b0, c0⟩ := key 0 (by omega)
  obtain ⟨k1, a1, b1, c1⟩ := key 1 (by omega)
  refine ⟨k0, k1, b0, b1, a0, a1, ?_⟩
  unfold kingBy
  rw [hs.turn]
  rcases (show tn = 0 ∨ tn = 1 by omega) with rfl | rfl
  · rw [if_neg (show ¬ (0 : Nat) = 1 by decide)]
    exact c0.symm
  · rw [if_pos (show (1 : Nat) = 1 from rfl)]
    exact c1.symm
/-- The tags of a move behind addTags. -/
def tagsOf (p : List Int) (tn : Nat) (m : Mv) (t : Tg) : Tg :=
  { ks := castM p m && decide (m.to = m.fr + 2), qs := castM p m && decide (m.to = m.fr - 2), cp := t.cp || decide (pcAt p m.to ≠ 0), ep := passM p m, ck := t.ck || attackedB (madeB p m) (lastK (madeB p m) (1 + 6 * (1 - (tn : Int))) 64) tn, own := t.own || !keepM p m }
/-- What addTags sees of a move is what the rules see. -/
structure TagOk (p : List Int) (tn : Nat) (m : Mv) (t : Tg) : Prop where
  ep : passM p m = (decide (pcAt p m.to = 0) && (decide (m.to = p.getD 66 0) && decide (kindOf (pcAt p m.fr) = 6)))
  ks : (castM p m && decide (m.to = m.fr + 2)) = (decide (kindOf (pcAt p m.fr) = 1) && (decide (m.fr = 4 + 56 * (tn : Int)) && (decide (m.to = 6) || decide (m.to = 62))))
  qs : (castM p m && decide (m.to = m.fr - 2)) = (decide (kindOf (pcAt p m.fr) = 1) && (decide (m.fr = 4 + 56 * (tn : Int)) && (decide (m.to = 2) || decide (m.to = 58))))
  t1 : t.ep = true → passM p m = true
  t2 : t.ks = true → (castM p m && decide (m.to = m.fr + 2)) = true
  t3 : t.qs = true → (castM p m && decide (m.to = m.fr - 2)) = true
/-- The move's tags so far, and what stays. -/
structure TgSt (z : Tg) (a b pr : Int) (mg : Nat) (w wr : World) : Prop where
  mv : MvAt mg (tgN z) a b pr wr
  kept : Kept mg w wr
theorem TgSt.drewN {z : Tg} {a b pr : Int} {mg : Nat} {w wr : World} (h : TgSt z a b pr mg w wr) (n : Nat) : TgSt z a b pr mg w (wr.drewN n) := ⟨h.mv, h.kept.trans (Kept.below (drewN_below wr n))⟩
theorem TgSt.put {z z' : Tg} {a b pr : Int} {mg : Nat} {w wr w1 : World} (h : TgSt z a b pr mg w wr) (hw : w1 = wr.setCell ⟨mg, 7, none⟩ (.int .u16 (tgN z'))) : TgSt z' a b pr mg w w1 := by
  subst hw
  exact ⟨h.mv.set7 _, h.kept.trans (Kept.set _ _ _ _)⟩
theorem TgSt.below {z : Tg} {a b pr : Int} {mg : Nat} {w wr w1 : World} (h : TgSt z a b pr mg w wr) (hb : Below wr.heap.size wr w1) : TgSt z a b pr mg w w1 :=
  ⟨(hb.block _ (Array.getElem?_eq_some_iff.1 h.mv).1).trans h.mv, h.kept.trans (Kept.below hb)⟩
theorem Only.size {g : Nat} {w w' : World} (h : Only g w w') : w.heap.size ≤ w'.heap.size := (h.2 g w (Nat.le_refl _) (Below.refl _ _)).size
theorem TgSt.only {z : Tg} {a b pr : Int} {mg c : Nat} {w w1 w2 : World} (h : TgSt z a b pr mg w w1) (hO : Only c w1 w2) (hc : w.heap.size ≤ c) (hne : mg ≠ c) : TgSt z a b pr mg w w2 :=
  ⟨(hO.1 _ hne).trans h.mv, Kept.only hO hO.size hc h.kept h.kept.2.1⟩
theorem vt_tags (p : List Int) (tn : Nat) (hs : Sound p tn) (m : Mv) (h : GoodM p tn m) (hkt : kindOf (pcAt p m.to) ≠ 1) (t : Tg) (ht : TagOk p tn m t) (pg bg mg : Nat) (cas : ByteArray) (v : Value) (half full : Int) (chk : Bool) (w0 w : World)
    (hpg : w.heap[pg]? = some (.cells (posW bg cas v half full tn (p.getD 66 0) chk) 103 (0, 0))) (hbg : w.heap[bg]? = some (.cells (brd p) 144 (0, 0))) (hm : MvAt mg (tgN t) m.fr m.to m.pr w) (hn1 : pg ≠ mg) (hn2 : bg ≠ mg) (hB : Below w0.heap.size w0 w) (hg0 : w0.heap.size ≤ mg) (hT : Tabs w0) (hA : IntSl w0 0 .i8 allL) :
    Calls Tryz.prog 125 #[.pointer (some ⟨mg, 0, none⟩), .pointer (some ⟨pg, 0, none⟩)] w fun e' w' => e' = .returned (.tuple #[]) ∧ MvAt mg (tgN (tagsOf p tn m t)) m.fr m.to m.pr w' ∧ Kept mg w w' := by
  obtain ⟨tks, tqs, tcp, tep, tck, town⟩ := t
  obtain ⟨f0, f1, t0, t1, r0, r1⟩ := h.ok
  have x0 := h.x0
  have x1 := h.x1
  have htn := hs.one
  have hpl : pg < w.heap.size := (Array.getElem?_eq_some_iff.1 hpg).1
  have hbl : bg < w.heap.size := (Array.getElem?_eq_some_iff.1 hbg).1
  obtain ⟨x, hx⟩ : ∃ x : Nat, pcAt p m.fr = (x : Int) + 1 := ⟨(pcAt p m.fr - 1).toNat, by omega⟩
  have hx12 : x < 12 := by omega
  have hst : Shut (TgSt ⟨tks, tqs, tcp, tep, tck, town⟩ m.fr m.to m.pr mg w w) := ⟨hm, Kept.refl _ _⟩
  have hrows : Shut (∀ (z : Tg) (wr : World), TgSt z m.fr m.to m.pr mg w wr → wr.heap[pg]? = some (.cells (posW bg cas v half full tn (p.getD 66 0) chk) 103 (0, 0)) ∧ wr.heap[bg]? = some (.cells (brd p) 144 (0, 0)) ∧ Below w0.heap.size w0 wr) := fun z wr hz => ⟨(hz.kept.1 pg hpl hn1).trans hpg, (hz.kept.1 bg hbl hn2).trans hbg, hz.kept.2.2 _ _ hg0 hB.size hB⟩
  have hpc : Shut (∀ (z : Tg) (wr : World), TgSt z m.fr m.to m.pr mg w wr → Calls Tryz.prog 83 #[.pointer (some ⟨bg, 0, none⟩), .int .i8 m.fr] wr fun e' w' => e' = .returned (.int .i8 ((x : Int) + 1)) ∧ wr = w') := fun z wr hz => by
    obtain ⟨_, hb2, hb3⟩ := hrows.out z wr hz
    have hh := bo_piece p _ _ _ _ _ bg m.fr wr (hA.below hb3) hb2 f0 f1 (hs.pos.lo _ (by omega)) (hs.pos.hi _ (by omega))
    have e : p.getD m.fr.toNat 0 = (x : Int) + 1 := hx
    rw [e] at hh
    exact hh
  obtain ⟨oc, hoc⟩ : ∃ oc : Bool, decide (pcAt p m.to ≠ 0) = oc := ⟨_, rfl⟩
  have htk : Shut (∀ (z : Tg) (wr : World), TgSt z m.fr m.to m.pr mg w wr → Calls Tryz.prog 145 #[.pointer (some ⟨bg, 0, none⟩), .int .i8 m.to] wr fun e' w' => e' = .returned (.bool oc) ∧ wr = w') := fun z wr hz => by
    obtain ⟨_, hb2, hb3⟩ := hrows.out z wr hz
    have hh := vc_taken p bg m.to wr hb2 t0 t1
    have e : (!occ (empB p) m.to.toNat) = oc := by
      rw [occ_emp p hs.pos _ (by omega), ← hoc]
      show (!decide (pcAt p m.to = 0)) = _
      simp
    rw [e] at hh
    exact hh
  have hty : Shut (∀ W : World, Calls Tryz.prog 84 #[.int .i8 ((x : Int) + 1)] W fun e w' => e = .returned (.int .i8 ((x : Int) % 6 + 1)) ∧ W = w') := fun W => da_type x hx12 W
  have hgood := lay h
  have htok := lay ht
  have hadd : Shut (∀ (z z' : Tg) (n : Int) (wr : World), TgSt z m.fr m.to m.pr mg w wr → bits .or .u16 (tgN z) n = tgN z' → Calls Tryz.prog 126 #[.pointer (some ⟨mg, 0, none⟩), .int .u16 n] wr fun e w' => e = .returned (.tuple #[]) ∧ TgSt z' m.fr m.to m.pr mg w w') := fun z z' n wr hz hor => by
    refine (vc_add mg _ _ _ _ n wr hz.mv _ hor).mono ?_
    rintro e w1 ⟨rfl, hw1⟩
    exact ⟨rfl, hz.put hw1⟩
  have c0 : w.cell? ⟨pg, 0, none⟩ = some (.pointer (some ⟨bg, 0, none⟩)) := cell_of_row w pg 0 _ _ _ hpg
  have m8 := hm.c8
  have m9 := hm.c9
  clear h ht hm hpg hbg
  go_enter Tryz.func125, Tryz.ntmps125
  go_wp2_with fail
  go_quiet (first | (go_at_call 83; refine va_quiet (hpc.out _ _ (hst.out.drewN _))))
  have st := lay (hst.out.drewN nq)
  generalize w.drewN nq = W1 at *
  have c0 : W1.cell? ⟨pg, 0, none⟩ = some (.pointer (some ⟨bg, 0, none⟩)) := cell_of_row W1 pg 0 _ _ _ (hrows.out _ W1 st.out).1
  have m9 := st.out.mv.c9
  clear m8 hst
  go_wp2_with fail
  go_quiet (first | (go_at_call 145; refine va_quiet (htk.out _ _ (st.out.drewN _))))
  have st2 := lay (st.out.drewN nq)
  generalize W1.drewN nq = W2 at *
  have hocs := lay hoc
  have hkd : Shut (kindOf (pcAt p m.fr) = (x : Int) % 6 + 1) := by
    show _ = _
    rw [hx]
    unfold kindOf
    split <;> omega
  obtain ⟨pm, hpm⟩ : ∃ pm : Bool, passM p m = pm := ⟨_, rfl⟩
  have hpms : Shut (pm = (!oc && (decide (m.to = p.getD 66 0) && decide ((x : Int) % 6 + 1 = 6)))) := by
    show _ = _
    rw [← hpm, htok.out.ep, hkd.out, ← hoc]
    simp
  have htep : Shut (tep = true → pm = true) := fun hh => by rw [← hpm]; exact htok.out.t1 hh
  have hpmS := lay hpm
  clear hpm hoc
  have c6 : W2.cell? ⟨pg, 6, none⟩ = some (.int .i8 (p.getD 66 0)) := cell_of_row W2 pg 6 _ _ _ (hrows.out _ W2 st2.out).1
  have n9 := st2.out.mv.c9
  clear c0 m9 st
  generalize hep : p.getD 66 0 = ep at *
  go_upto_if 23 with fail
  go_cut [] (fun wx => ∃ z, z = (⟨tks, tqs, tcp || oc, pm, tck, town⟩ : Tg) ∧ TgSt z m.fr m.to m.pr mg w wx)
  case first =>
    cases oc with
    | true =>
      have hp0 : Shut (pm = false) := by show _ = _; rw [hpms.out]; rfl
      have ht0 : Shut (tep = false) := by
        show _ = _
        cases tep with
        | false => rfl
        | true => have := htep.out rfl; rw [hp0.out] at this; cases this
      go_wp2_with (go_at_call 126; refine (hadd.out _ ⟨tks, tqs, true, tep, tck, town⟩ 4 _ st2.out (tg_or4 _)).mono ?_; rintro e1 w1 ⟨rfl, st3⟩; have st3 := lay st3)
      go_meet
      exact ⟨_, by rw [hp0.out, ht0.out]; simp, st3.out⟩
    | false =>
      by_cases e1 : m.to = ep
      · have b1 : (m.to == ep) = true := by simpa using e1
        by_cases e2 : (x : Int) % 6 + 1 = 6
        · have b2 : ((x : Int) % 6 + 1 == 6) = true := by simpa using e2
          have hp1 : Shut (pm = true) := by show _ = _; rw [hpms.out, decide_eq_true e1, decide_eq_true e2]; rfl
          clear e1 e2
          go_wp2_with fail
          go_quiet (first | (go_at_call 84; refine va_quiet (hty.out _)))
          have st4 := lay (st2.out.drewN nq)
          go_wp2_with (go_at_call 126; refine (hadd.out _ ⟨tks, tqs, tcp, true, tck, town⟩ 8 _ st4.out (tg_or8 _)).mono ?_; rintro e1 w1 ⟨rfl, st3⟩; have st3 := lay st3)
          go_meet
          exact ⟨_, by rw [hp1.out]; simp, st3.out⟩
        · have b2 : ((x : Int) % 6 + 1 == 6) = false := by simpa using e2
          have hp0 : Shut (pm = false) := by show _ = _; rw [hpms.out, decide_eq_false e2]; simp
          clear e1 e2
          go_wp2_with fail
          go_quiet (first | (go_at_call 84; refine va_quiet (hty.out _)))
          have st4 := lay (st2.out.drewN nq)
          go_wp2_with fail
          go_meet
          refine ⟨_, ?_, st4.out⟩
          rw [hp0.out]
          cases tep with
          | false => simp
          | true => have := htep.out rfl; rw [hp0.out] at this; cases this
      · have b1 : (m.to == ep) = false := by simpa using e1
        have hp0 : Shut (pm = false) := by show _ = _; rw [hpms.out, decide_eq_false e1]; simp
        clear e1
        go_wp2_with fail
        go_quiet (first | (go_at_call 84; refine va_quiet (hty.out _)))
        have st4 := lay (st2.out.drewN nq)
        go_wp2_with fail
        go_meet
        refine ⟨_, ?_, st4.out⟩
        rw [hp0.out]
        cases tep with
        | false => simp
        | true => have := htep.out rfl; rw [hp0.out] at this; cases this
  case rest =>
  obtain ⟨z, rfl, st3⟩ := hcut
  have st3 := lay st3
  have n8 := st3.out.mv.c8
  have n9' := st3.out.mv.c9
  clear c6 n9 st2
  obtain ⟨hb, hhb⟩ : ∃ hb : Bool, (decide (x = 6 * tn) && decide (m.fr = 4 + 56 * (tn : Int))) = hb := ⟨_, rfl⟩
  obtain ⟨ksB, hksB⟩ : ∃ ksB : Bool, (castM p m && decide (m.to = m.fr + 2)) = ksB := ⟨_, rfl⟩
  obtain ⟨qsB, hqsB⟩ : ∃ qsB : Bool, (castM p m && decide (m.to = m.fr - 2)) = qsB := ⟨_, rfl⟩
  have hk6 : (decide ((x : Int) % 6 + 1 = 1)) = decide (x = 6 * tn) := dec_eq (by omega)
  have hks2 : Shut (ksB = (hb && (decide (m.to = 6) || decide (m.to = 62)))) := by
    show _ = _
    rw [← hksB, htok.out.ks, hkd.out, hk6, ← hhb, Bool.and_assoc]
  have hqs2 : Shut (qsB = (hb && (decide (m.to = 2) || decide (m.to = 58)))) := by
    show _ = _
    rw [← hqsB, htok.out.qs, hkd.out, hk6, ← hhb, Bool.and_assoc]
  have htks : Shut (tks = true → ksB = true) := fun hh => by rw [← hksB]; exact htok.out.t2 hh
  have htqs : Shut (tqs = true → qsB = true) := fun hh => by rw [← hqsB]; exact htok.out.t3 hh
  have hhbS := lay hhb
  have hkqS := lay (And.intro hksB hqsB)
  clear hk6 hhb hksB hqsB
  go_upto_region 5 with fail
  go_cut [61] (fun s61 wx => s61 = .bool hb ∧ TgSt ⟨tks, tqs, tcp || oc, pm, tck, town⟩ m.fr m.to m.pr mg w wx)
  case first =>
    rcases (show tn = 0 ∨ tn = 1 by omega) with rfl | rfl
    · have b7 : ((x : Int) + 1 == 7) = false := by simp; omega
      by_cases e1 : x = 0
      · have b1 : ((x : Int) + 1 == 1) = true := by simp; omega
        by_cases e2 : m.fr = 4
        · have b4 : (m.fr == 4) = true := by simpa using e2
          have hh : Shut (hb = true) := by show _ = _; rw [← hhbS.out]; simp [e1, e2]
          clear e1 e2
          go_wp2_with fail
          go_meet
          exact ⟨by rw [hh.out], st3.out⟩
        · have b4 : (m.fr == 4) = false := by simpa using e2
          have hh : Shut (hb = false) := by show _ = _; rw [← hhbS.out]; simp [e2]
          clear e1 e2
          go_wp2_with fail
          go_meet
          exact ⟨by rw [hh.out], st3.out⟩
      · have b1 : ((x : Int) + 1 == 1) = false := by simp; omega
        have hh : Shut (hb = false) := by show _ = _; rw [← hhbS.out]; simp [e1]
        clear e1
        go_wp2_with fail
        go_meet
        exact ⟨by rw [hh.out], st3.out⟩
    · have b1 : ((x : Int) + 1 == 1) = false := by simp; omega
      by_cases e1 : x = 6
      · have b7 : ((x : Int) + 1 == 7) = true := by simp; omega
        by_cases e2 : m.fr = 60
        · have b4 : (m.fr == 60) = true := by simpa using e2
          have hh : Shut (hb = true) := by show _ = _; rw [← hhbS.out]; simp [e1, e2]
          clear e1 e2
          go_wp2_with fail
          go_meet
          exact ⟨by rw [hh.out], st3.out⟩
        · have b4 : (m.fr == 60) = false := by simpa using e2
          have hh : Shut (hb = false) := by show _ = _; rw [← hhbS.out]; simp [e2]
          clear e1 e2
          go_wp2_with fail
          go_meet
          exact ⟨by rw [hh.out], st3.out⟩
      · have b7 : ((x : Int) + 1 == 7) = false := by simp; omega
        have hh : Shut (hb = false) := by show _ = _; rw [← hhbS.out]; simp [e1]
        clear e1
        go_wp2_with fail
        go_meet
        exact ⟨by rw [hh.out], st3.out⟩
  case rest =>
  clear n8 n9' st3
  obtain ⟨rfl, st4⟩ := hcut
  have st4 := lay st4
  go_upto_if 61 with fail
  go_cut [] (fun wx => TgSt ⟨ksB, qsB, tcp || oc, pm, tck, town⟩ m.fr m.to m.pr mg w wx)
  case first =>
    have fks : Shut (ksB = false → tks = false) := fun hh => by
      cases tks with
      | false => rfl
      | true => have := htks.out rfl; rw [hh] at this; cases this
    have fqs : Shut (qsB = false → tqs = false) := fun hh => by
      cases tqs with
      | false => rfl
      | true => have := htqs.out rfl; rw [hh] at this; cases this
    have n9 := st4.out.mv.c9
    cases hb with
    | false =>
      have e1 : ksB = false := by rw [hks2.out]; rfl
      have e2 : qsB = false := by rw [hqs2.out]; rfl
      have g1 := fks.out e1
      have g2 := fqs.out e2
      subst e1 e2 g1 g2
      go_wp2_with fail
      go_meet
      exact st4.out
    | true =>
      by_cases q2 : m.to = 2 ∨ m.to = 58
      · have e1 : ksB = false := by rw [hks2.out]; simp; omega
        have e2 : qsB = true := by rw [hqs2.out]; simp; omega
        have g1 := fks.out e1
        subst e1 e2 g1
        rcases q2 with q | q
        · have b2 : (m.to == 2) = true := by simpa using q
          have stS := lay st4.out
          clear q
          go_wp2_with (go_at_call 126; refine (hadd.out _ ⟨false, true, tcp || oc, pm, tck, town⟩ 2 _ stS.out (tg_or2 _)).mono ?_; rintro e1 w1 ⟨rfl, st5⟩; have st5 := lay st5)
          go_meet
          exact st5.out
        · have b2 : (m.to == 2) = false := by simp; omega
          have b3 : (m.to == 58) = true := by simpa using q
          have stS := lay st4.out
          clear q
          go_wp2_with (go_at_call 126; refine (hadd.out _ ⟨false, true, tcp || oc, pm, tck, town⟩ 2 _ stS.out (tg_or2 _)).mono ?_; rintro e1 w1 ⟨rfl, st5⟩; have st5 := lay st5)
          go_meet
          exact st5.out
      · have b2 : (m.to == 2) = false := by simp; omega
        have b3 : (m.to == 58) = false := by simp; omega
        have e2 : qsB = false := by rw [hqs2.out]; simp; omega
        have g2 := fqs.out e2
        by_cases q6 : m.to = 6 ∨ m.to = 62
        · have e1 : ksB = true := by rw [hks2.out]; simp; omega
          subst e1 e2 g2
          rcases q6 with q | q
          · have b4 : (m.to == 6) = true := by simpa using q
            have stS := lay st4.out
            clear q
            go_wp2_with (go_at_call 126; refine (hadd.out _ ⟨true, false, tcp || oc, pm, tck, town⟩ 1 _ stS.out (tg_or1 _)).mono ?_; rintro e1 w1 ⟨rfl, st5⟩; have st5 := lay st5)
            go_meet
            exact st5.out
          · have b4 : (m.to == 6) = false := by simp; omega
            have b5 : (m.to == 62) = true := by simpa using q
            have stS := lay st4.out
            clear q
            go_wp2_with (go_at_call 126; refine (hadd.out _ ⟨true, false, tcp || oc, pm, tck, town⟩ 1 _ stS.out (tg_or1 _)).mono ?_; rintro e1 w1 ⟨rfl, st5⟩; have st5 := lay st5)
            go_meet
            exact st5.out
        · have b4 : (m.to == 6) = false := by simp; omega
          have b5 : (m.to == 62) = false := by simp; omega
          have e1 : ksB = false := by rw [hks2.out]; simp; omega
          have g1 := fks.out e1
          subst e1 e2 g1 g2
          clear q2 q6
          go_wp2_with fail
          go_meet
          exact st4.out
  case rest =>
  clear st4
  have st5 := lay hcut
  clear hcut
  obtain ⟨k0, k1, hk0, hk1, h0, h1, hkb⟩ := made_kings p tn hs m hgood.out hkt
  have hq := madeB_pos p hs.pos m hgood.out.ok (by rw [hs.turn]; omega) (by rw [hs.turn]; omega)
  have hown : engB (madeB p m) tn (if tn = 1 then k1 else k0) = !keepM p m := by
    rw [eng_attacked _ hq tn htn _ (by split <;> omega)]
    unfold keepM
    rw [Bool.not_not, hkb, hs.turn]
  have hoth : engB (madeB p m) (1 - tn) (if 1 - tn = 1 then k1 else k0) = attackedB (madeB p m) (lastK (madeB p m) (1 + 6 * (1 - (tn : Int))) 64) tn := by
    rw [eng_attacked _ hq (1 - tn) (by omega) _ (by split <;> omega)]
    rcases (show tn = 0 ∨ tn = 1 by omega) with rfl | rfl
    · rw [if_pos (by decide), show (1 : Int) + 6 * (1 - ((0 : Nat) : Int)) = 7 from rfl, hk1]
      rfl
    · rw [if_neg (by decide), show (1 : Int) + 6 * (1 - ((1 : Nat) : Int)) = 1 from rfl, hk0]
      rfl
  obtain ⟨ow, how⟩ : ∃ ow : Bool, (!keepM p m) = ow := ⟨_, rfl⟩
  obtain ⟨ckB, hck⟩ : ∃ ckB : Bool, attackedB (madeB p m) (lastK (madeB p m) (1 + 6 * (1 - (tn : Int))) 64) tn = ckB := ⟨_, rfl⟩
  rw [how] at hown
  rw [hck] at hoth
  have hfin : Shut (tagsOf p tn m ⟨tks, tqs, tcp, tep, tck, town⟩ = ⟨ksB, qsB, tcp || oc, pm, tck || ckB, town || ow⟩) := by
    show _ = _
    unfold tagsOf
    rw [hck, how, hpmS.out, hkqS.out.1, hkqS.out.2, hocs.out]
  have hfl := lay (And.intro hpmS.out (And.intro hkqS.out.1 hkqS.out.2))
  clear hck how
  obtain ⟨rw1, rw2, rw3⟩ := hrows.out _ _ st5.out
  have hIs := hA.below rw3
  have hcop := lay (vc_pcopy p bg pg cas v half full tn ep chk wc rw1 rw2)
  have hIsS := lay hIs
  clear rw1 rw2 rw3 hIs
  go_wp2_with fail
  refine hcop.out.mono ?_
  rintro e w1 ⟨cg, cb, rfl, hcg, hcb, hcc, hr1, hr2, hb1⟩
  have hmgl : mg < wc.heap.size := (Array.getElem?_eq_some_iff.1 st5.out.mv).1
  have hwl : w.heap.size ≤ wc.heap.size := st5.out.kept.2.1
  have st6 := st5.out.below hb1
  have cc0 : w1.cell? ⟨cg, 0, none⟩ = some (.pointer (some ⟨cb, 0, none⟩)) := cell_of_row w1 cg 0 _ _ _ hr1
  have hup := lay (vu_update p tn hs m hgood.out hkt ⟨ksB, qsB, tcp || oc, pm, tck, town⟩ hfl.out.1.symm hfl.out.2.1.symm hfl.out.2.2.symm cb mg wc w1 hr2 st6.mv (by omega) hb1 hcb hIsS.out)
  have hr1 := lay hr1
  have st6 := lay st6
  clear st5 hr2 hb1 hcop
  go_wp2_with fail
  refine hup.out.mono ?_
  rintro e w2 ⟨rfl, hr3, hon⟩
  have hcgr : w2.heap[cg]? = some (.cells (posW cb cas (.slice none 0 0) half full tn ep chk) 103 (0, 0)) := (hon.1 cg (Ne.symm hcc)).trans hr1.out
  have st7 := st6.out.only hon (by omega) (by omega)
  have hcl : cg < w2.heap.size := (Array.getElem?_eq_some_iff.1 hcgr).1
  have hbe : Below w0.heap.size w0 w2 := st7.kept.2.2 _ _ hg0 hB.size hB
  have hic := lay (ic_check (madeB p m) tn htn cg cb w2 ⟨cell_of_row w2 cg 0 _ _ _ hcgr, cell_of_row w2 cg 5 _ _ _ hcgr, hr3, hT.below hbe (Nat.le_refl _), hA.below hbe⟩ hcl k0 k1 hk0 hk1 h0 h1)
  rw [hown] at hic
  have st7 := lay st7
  have hcg2 := lay hcgr
  have hcb2 := lay hr3
  clear hup hon hr1 st6 cc0 hcgr hr3 hbe
  go_upto_if 85 with (go_at_call 98; refine hic.out.mono ?_; rintro e3 w3 ⟨rfl, hb3⟩; have hb3 := lay hb3)
  go_cut [] (fun wx => TgSt ⟨ksB, qsB, tcp || oc, pm, tck, town || ow⟩ m.fr m.to m.pr mg w wx ∧ wx.heap[cg]? = some (.cells (posW cb cas (.slice none 0 0) half full tn ep chk) 103 (0, 0)) ∧ wx.heap[cb]? = some (.cells (brd (madeB p m)) 144 (0, 0)))
  case first =>
    have hcb3 : cb < w2.heap.size := (Array.getElem?_eq_some_iff.1 hcb2.out).1
    have st8 := lay (st7.out.below hb3.out)
    have hcg3 := lay ((hb3.out.block cg hcl).trans hcg2.out)
    have hcb4 := lay ((hb3.out.block cb hcb3).trans hcb2.out)
    cases ow with
    | false =>
      go_wp2_with fail
      go_meet
      exact ⟨by rw [Bool.or_false]; exact st8.out, hcg3.out, hcb4.out⟩
    | true =>
      have hm1 : mg ≠ cg := by omega
      have hm2 : mg ≠ cb := by omega
      go_wp2_with (go_at_call 126; refine (vc_add mg _ _ _ _ 32 _ st8.out.mv _ (tg_or32 _)).mono ?_; rintro e4 w4 ⟨rfl, rfl⟩)
      go_meet
      exact ⟨by rw [Bool.or_true]; exact st8.out.put rfl, (heap_setCell_other _ _ _ _ (Ne.symm hm1)).trans hcg3.out, (heap_setCell_other _ _ _ _ (Ne.symm hm2)).trans hcb4.out⟩
  case rest =>
  obtain ⟨st9, hg9, hb9⟩ := hcut
  have hm1 : mg ≠ cg := by omega
  have hm2 : mg ≠ cb := by omega
  have hwcg : w.heap.size ≤ cg := by omega
  have r5 := heap_setCell_same wc cg 5 _ _ (.int .i8 (2 - (tn : Int))) hg9
  have rb : (wc.setCell ⟨cg, 5, none⟩ (.int .i8 (2 - (tn : Int)))).heap[cb]? = some (.cells (brd (madeB p m)) 144 (0, 0)) := (heap_setCell_other _ _ _ _ hcc).trans hb9
  have st10 : TgSt ⟨ksB, qsB, tcp || oc, pm, tck, town || ow⟩ m.fr m.to m.pr mg w (wc.setCell ⟨cg, 5, none⟩ (.int .i8 (2 - (tn : Int)))) := st9.only ((Only.refl cg wc).setCell 5 _) hwcg hm1
  have hcl5 : cg < (wc.setCell ⟨cg, 5, none⟩ (.int .i8 (2 - (tn : Int)))).heap.size := (Array.getElem?_eq_some_iff.1 r5).1
  have hbe : Below w0.heap.size w0 (wc.setCell ⟨cg, 5, none⟩ (.int .i8 (2 - (tn : Int)))) := st10.kept.2.2 _ _ hg0 hB.size hB
  have k5 : (wc.setCell ⟨cg, 5, none⟩ (.int .i8 (2 - (tn : Int)))).cell? ⟨cg, 5, none⟩ = some (.int .i8 (((1 - tn : Nat) : Int) + 1)) := by
    rw [cell_of_row _ cg 5 _ _ _ r5, show (((1 - tn : Nat) : Int) + 1) = 2 - (tn : Int) by omega]
    rfl
  have hic2 := lay (ic_check (madeB p m) (1 - tn) (by omega) cg cb _ ⟨cell_of_row _ cg 0 _ _ _ r5, k5, rb, hT.below hbe (Nat.le_refl _), hA.below hbe⟩ hcl5 k0 k1 hk0 hk1 h0 h1)
  rw [hoth] at hic2
  have c5 : wc.cell? ⟨cg, 5, none⟩ = some (.int .i8 ((tn : Int) + 1)) := cell_of_row wc cg 5 _ _ _ hg9
  have f5 := frozen_of_row wc cg 5 _ _ hg9
  have st10 := lay st10
  have hot : Shut (∀ W : World, Calls Tryz.prog 81 #[.int .i8 ((tn : Int) + 1)] W fun e w' => e = .returned (.int .i8 (2 - (tn : Int))) ∧ W = w') := fun W => da_other (tn : Int) W (by omega) (by omega)
  clear r5 rb hbe k5 hg9 hb9 st9 hic hcg2 hcb2 st7
  go_upto_if 97 with (first
    | (go_at_call 81; refine (hot.out _).mono ?_; rintro e5 w5 ⟨rfl, rfl⟩)
    | (go_at_call 98; refine hic2.out.mono ?_; rintro e3 w6 ⟨rfl, hb6⟩; have st11 := lay (st10.out.below hb6); clear hb6))
  cases ckB with
  | false =>
    go_wp2_with fail
    go_end0
    rw [hfin.out, Bool.or_false]
    exact ⟨rfl, st11.out.mv, st11.out.kept⟩
  | true =>
    go_wp2_with (go_at_call 126; refine (vc_add mg _ _ _ _ 16 _ st11.out.mv _ (tg_or16 _)).mono ?_; rintro e4 w4 ⟨rfl, rfl⟩)
    go_end0
    rw [hfin.out, Bool.or_true]
    have st12 : TgSt ⟨ksB, qsB, tcp || oc, pm, true, town || ow⟩ m.fr m.to m.pr mg w _ := st11.out.put rfl
    exact ⟨rfl, st12.mv, st12.kept⟩
end Go.Proofs.YtnjdgooljnbebaaGreatDoor
namespace Go.Proofs.YtnjdgooljnbebaaGreatDoor
open Go Go.RowKit
set_option maxHeartbeats 8000000
set_option linter.unusedSimpArgs false
set_option linter.unusedVariables false
set_option maxRecDepth 100000

/-- A position and its board as the move generation reads them. -/
structure PgAt (p : List Int) (tn pg bg : Nat) (w : World) : Prop where
  c0 : w.cell? ⟨pg, 0, none⟩ = some (.pointer (some ⟨bg, 0, none⟩))
  c5 : w.cell? ⟨pg, 5, none⟩ = some (.int .i8 ((tn : Int) + 1))
  c6 : w.cell? ⟨pg, 6, none⟩ = some (.int .i8 (p.getD 66 0))
  bd : w.heap[bg]? = some (.cells (brd p) 144 (0, 0))
  tb : Tabs w
theorem vp_pawn (p : List Int) (tn pg bg s : Nat) (htn : tn ≤ 1) (hs : s < 64) (hep : p.getD 66 0 = -1 ∨ 0 ≤ p.getD 66 0 ∧ p.getD 66 0 ≤ 63) (w : World) (h : PgAt p tn pg bg w) :
    Calls Tryz.prog 144 #[.pointer (some ⟨pg, 0, none⟩), .int .i8 (s : Int)] w fun e w' => e = .returned (bbv (pawnM p tn s)) ∧ w = w' := by
  have hp0 := h.c0
  have hT := lay (da_turn pg _ w h.c5)
  have c6 := h.c6
  have c12 := (cell_of_row w bg 12 _ _ _ h.bd).trans (brd_white p)
  have c13 := (cell_of_row w bg 13 _ _ _ h.bd).trans (brd_black p)
  have c14 := (cell_of_row w bg 14 _ _ _ h.bd).trans (brd_emp p)
  clear h
  have e8 : ((s : Int)).toNat = s := Int.toNat_natCast s
  generalize hz : p.getD 66 0 = ep at *
  by_cases h1 : ep = -1
  · have b1 : (ep != -1) = false := by simp [h1]
    have hE : Shut (epBit p = 0#64) := by show _ = _; unfold epBit; rw [hz, if_pos h1]
    clear h1 hep
    rcases (show tn = 0 ∨ tn = 1 by omega) with rfl | rfl
    all_goals
      go_enter Tryz.func144, Tryz.ntmps144
      go_wp2_with (first
        | (go_at_call 107; refine (sq_bit _ _ (by omega) (by omega)).mono ?_; rw [e8]; rintro e1 w1 ⟨rfl, rfl⟩)
        | (go_at_call 77; refine hT.out.mono ?_; rintro e1 w1 ⟨rfl, rfl⟩))
      go_ret
      refine ⟨?_, rfl⟩
      unfold pawnM
      simp only [hE.out, BitVec.or_zero]
      rfl
  · have b1 : (ep != -1) = true := by simp [h1]
    have hE : Shut (epBit p = sqBit ep.toNat) := by show _ = _; unfold epBit; rw [hz, if_neg h1]
    have q0 : 0 ≤ ep := by omega
    have q1 : ep ≤ 63 := by omega
    clear h1 hep
    rcases (show tn = 0 ∨ tn = 1 by omega) with rfl | rfl
    all_goals
      go_enter Tryz.func144, Tryz.ntmps144
      go_wp2_with (first
        | (go_at_call 107; with_reducible refine (sq_bit (s : Int) _ (by omega) (by omega)).mono ?_; rw [e8]; rintro e1 w1 ⟨rfl, rfl⟩)
        | (go_at_call 107; with_reducible refine (sq_bit ep _ (by omega) (by omega)).mono ?_; rintro e1 w1 ⟨rfl, rfl⟩)
        | (go_at_call 77; refine hT.out.mono ?_; rintro e1 w1 ⟨rfl, rfl⟩))
      go_ret
      refine ⟨?_, rfl⟩
      unfold pawnM
      rw [hE.out]
      rfl
theorem vp_poss (p : List Int) (tn pg bg k s : Nat) (htn : tn ≤ 1) (hk : k < 6) (hs : s < 64) (hep : p.getD 66 0 = -1 ∨ 0 ≤ p.getD 66 0 ∧ p.getD 66 0 ≤ 63) (w : World) (h : PgAt p tn pg bg w) :
    Calls Tryz.prog 123 #[.pointer (some ⟨pg, 0, none⟩), .int .i8 ((k : Int) + 1), .int .i8 (s : Int)] w fun e w' => e = .returned (bbv (possB p tn k s)) ∧ ∃ n, w' = w.drewN n := by
  have hp0 := h.c0
  have c14 := (cell_of_row w bg 14 _ _ _ h.bd).trans (brd_emp p)
  have hpw := lay (vp_pawn p tn pg bg s htn hs hep w h)
  have hdia : Shut (∀ n, Calls Tryz.prog 142 #[bbv (~~~(empB p)), .int .i8 (s : Int)] (w.drewN n) fun e w' => e = .returned (bbv (diaB (takB p) s)) ∧ w.drewN n = w') := fun n => da_dia _ s _ hs (h.tb.drewN n)
  have hhv : Shut (∀ n, Calls Tryz.prog 143 #[bbv (~~~(empB p)), .int .i8 (s : Int)] (w.drewN n) fun e w' => e = .returned (bbv (hvB (takB p) s)) ∧ w.drewN n = w') := fun n => da_hv _ s _ hs (h.tb.drewN n)
  have e8 : ((s : Int)).toNat = s := Int.toNat_natCast s
  have cki := h.tb.ki.cell s (by simp [tabZ, bbKingMovesL]; exact hs)
  have ckn := h.tb.kn.cell s (by simp [tabZ, bbKnightMovesL]; exact hs)
  rw [tab_get _ bbKingMoves_lt s (by simp [bbKingMovesL]; exact hs)] at cki
  rw [tab_get _ bbKnightMoves_lt s (by simp [bbKnightMovesL]; exact hs)] at ckn
  clear h
  have hsz : (s : Int) < 64 := by omega
  rcases (show k = 0 ∨ k = 1 ∨ k = 2 ∨ k = 3 ∨ k = 4 ∨ k = 5 by omega) with rfl | rfl | rfl | rfl | rfl | rfl
  all_goals
    go_enter Tryz.func123, Tryz.ntmps123
    go_wp2_with (first
      | (go_at_call 142; refine (hdia.out 0).mono ?_; rintro e1 w1 ⟨rfl, rfl⟩)
      | (go_at_call 143; refine (hhv.out 0).mono ?_; rintro e1 w1 ⟨rfl, rfl⟩)
      | (go_at_call 144; refine hpw.out.mono ?_; rintro e1 w1 ⟨rfl, rfl⟩))
    try go_quiet (first | (go_at_call 142; refine va_quiet (hdia.out _)) | (go_at_call 143; refine va_quiet (hhv.out _)))
    try go_wp2_with fail
    go_ret
    first | exact ⟨rfl, 0, rfl⟩ | exact ⟨rfl, _, rfl⟩
end Go.Proofs.YtnjdgooljnbebaaGreatDoor
namespace Go.Proofs.YtnjdgooljnbebaaGreatDoor
open Go Go.RowKit
set_option linter.unusedVariables false

/-- Where a piece of the side to move can go. -/
def goesB (p : List Int) (tn q s1 : Nat) : BitVec 64 := possB p tn (q % 6) s1 &&& ~~~(ownB p tn)
def isProm (q s2 : Nat) : Bool := (decide (q = 5) && decide (s2 / 8 = 7)) || (decide (q = 11) && decide (s2 / 8 = 0))
def goSq (p : List Int) (tn q s1 s2 : Nat) : Prop := occ (bbF p q) s1 = true ∧ occ (goesB p tn q s1) s2 = true
def mvAt (s1 s2 : Nat) (pr : Int) : Mv := ⟨s1, s2, pr⟩
/-- What the walk wants of the moves that it meets. -/
structure MvLaw (p : List Int) (tn : Nat) : Prop where
  good : ∀ q s1 s2 pr, q < 12 → q / 6 = tn → s1 < 64 → s2 < 64 → goSq p tn q s1 s2 → (isProm q s2 = false → pr = 0) → (isProm q s2 = true → 2 ≤ pr ∧ pr ≤ 5) → GoodM p tn (mvAt s1 s2 pr) ∧ kindOf (pcAt p (s2 : Int)) ≠ 1 ∧ ∀ t : Tg, t.ks = false → t.qs = false → (t.ep = true → passM p (mvAt s1 s2 pr) = true) → TagOk p tn (mvAt s1 s2 pr) t
  cast : ∀ q s1 s2 pr, q < 12 → q / 6 = tn → s1 < 64 → s2 < 64 → goSq p tn q s1 s2 → castM p (mvAt s1 s2 pr) = false
  pass : ∀ q s1 s2 pr, q < 12 → q / 6 = tn → s1 < 64 → s2 < 64 → goSq p tn q s1 s2 → isProm q s2 = true → passM p (mvAt s1 s2 pr) = false
  same : ∀ q s1 s2 pr, q < 12 → q / 6 = tn → s1 < 64 → s2 < 64 → goSq p tn q s1 s2 → isProm q s2 = true → 2 ≤ pr → pr ≤ 5 → keepM p (mvAt s1 s2 pr) = keepM p (mvAt s1 s2 2)
def pr0 (q s2 : Nat) : Int := if isProm q s2 = true then 2 else 0
end Go.Proofs.YtnjdgooljnbebaaGreatDoor
namespace Go.Proofs.YtnjdgooljnbebaaGreatDoor
open Go Go.RowKit
set_option maxHeartbeats 8000000
set_option linter.unusedSimpArgs false
set_option linter.unusedVariables false
set_option maxRecDepth 100000

/-- A position of a game as far as it tells, the side to move by name. -/
structure Fair (p : List Int) (tn : Nat) : Prop where
  snd : Sound p tn
  ep : EpOk p tn
  pw : ∀ a, a < 64 → kindOf (p.getD a 0) = 6 → 8 ≤ a ∧ a < 56
  rig : rightsB p = p.getD 65 0
  chk : attackedB p (kingAt p (1 - (tn : Int))) (tn : Int) = false
theorem ep_fair (p : List Int) (tn : Nat) (htn : tn ≤ 1) (hT : p.getD 64 0 = (tn : Int)) (h : passedB p = true) : EpOk p tn := by
  unfold passedB at h
  rw [hT] at h
  by_cases h1 : p.getD 66 0 < 0 ∨ 63 < p.getD 66 0
  · rw [if_pos h1, decide_eq_true_eq] at h
    exact ⟨Or.inl h⟩
  · rw [if_neg h1] at h
    by_cases h2 : p.getD 66 0 / 8 ≠ 5 - 3 * (tn : Int) ∨ pcAt p (p.getD 66 0) ≠ 0
    · rw [if_pos h2] at h
      cases h
    · rw [if_neg h2, Bool.and_eq_true, decide_eq_true_eq, decide_eq_true_eq] at h
      have h3 : p.getD 66 0 / 8 = 5 - 3 * (tn : Int) ∧ pcAt p (p.getD 66 0) = 0 := by
        constructor
        · exact Classical.byContradiction fun hh => h2 (Or.inl hh)
        · exact Classical.byContradiction fun hh => h2 (Or.inr hh)
      have hq := h.1
      obtain ⟨e, he⟩ : ∃ e : Nat, p.getD 66 0 = (e : Int) := ⟨(p.getD 66 0).toNat, by omega⟩
      rw [he] at h1 h3 hq
      have ha : atSq ((e : Int) % 8) ((e : Int) / 8 - upOf (tn : Int)) = (e : Int) - 8 + 16 * (tn : Int) := by
        unfold atSq upOf
        rw [if_neg (by omega)]
        omega
      rw [ha] at hq
      refine ⟨Or.inr ⟨e, he, by omega, h3.1, by simpa [pcAt] using h3.2, ?_⟩⟩
      have hq' : p.getD ((e : Int) - 8 + 16 * (tn : Int)).toNat 0 = 6 + 6 * (1 - (tn : Int)) := hq
      rw [hq']
      omega
theorem fair_of (p : List Int) (hl : p.length = 69) (h : validB p = true) : ∃ tn : Nat, Fair p tn := by
  obtain ⟨tn, hs⟩ := valid_sound p hl h
  rw [validB, Bool.and_eq_true, Bool.and_eq_true, Bool.and_eq_true, Bool.and_eq_true, Bool.and_eq_true, Bool.and_eq_true] at h
  obtain ⟨h1, h2, h3, h4, h5, h6, h7⟩ := h
  refine ⟨tn, hs, ep_fair p tn hs.one hs.turn h6, ?_, by simpa using h5, ?_⟩
  · intro a ha hk
    have h8 := (List.all_eq_true.1 h1) a (List.mem_range.2 ha)
    unfold okSq at h8
    rw [Bool.and_eq_true, Bool.and_eq_true] at h8
    have h9 := h8.2.2
    rw [hk] at h9
    simp at h9
    omega
  · rw [hs.turn] at h7
    simpa using h7
/-- Where the rules let a piece go, but for its own king's safety. -/
structure Goes (p : List Int) (tn a b : Nat) : Prop where
  x0 : 1 + 6 * (tn : Int) ≤ p.getD a 0
  x1 : p.getD a 0 ≤ 6 + 6 * (tn : Int)
  mem : (b : Int) ∈ sqL p (a : Int)
  free : ¬ (1 + 6 * (tn : Int) ≤ p.getD b 0 ∧ p.getD b 0 ≤ 6 + 6 * (tn : Int))
theorem own_occ (p : List Int) (tn b : Nat) (htn : tn ≤ 1) (hb : b < 64) : occ (ownB p tn) b = true ↔ 1 + 6 * (tn : Int) ≤ p.getD b 0 ∧ p.getD b 0 ≤ 6 + 6 * (tn : Int) := by
  unfold ownB
  rcases (show tn = 0 ∨ tn = 1 by omega) with rfl | rfl
  · rw [if_neg (by decide), occ_white p b hb, Bool.and_eq_true, decide_eq_true_eq, decide_eq_true_eq]
    omega
  · rw [if_pos rfl, occ_black p b hb, Bool.and_eq_true, decide_eq_true_eq, decide_eq_true_eq]
    omega
theorem kind_q (q tn : Nat) (hq : q / 6 = tn) (htn : tn ≤ 1) : kindOf ((q : Int) + 1) = ((q % 6 : Nat) : Int) + 1 := by
  unfold kindOf
  split <;> omega
theorem goes_iff (p : List Int) (tn : Nat) (hF : Fair p tn) (q a b : Nat) (hq : q / 6 = tn) (ha : a < 64) (hb : b < 64) : goSq p tn q a b ↔ p.getD a 0 = (q : Int) + 1 ∧ Goes p tn a b := by
  have htn := hF.snd.one
  unfold goSq goesB
  have e1 : occ (bbF p q) a = true ↔ p.getD a 0 = (q : Int) + 1 := by
    have := occ_bb p ((q : Int) + 1) a ha
    unfold bbF
    rw [this, decide_eq_true_eq]
  rw [e1, occ_and, occ_not _ _ hb, Bool.and_eq_true, Bool.not_eq_true', ← Bool.not_eq_true, own_occ p tn b htn hb]
  have e2 : p.getD a 0 = (q : Int) + 1 → (occ (possB p tn (q % 6) a) b = true ↔ (b : Int) ∈ sqL p (a : Int)) := by
    intro hx
    have hk := kind_q q tn hq htn
    unfold sqL
    rw [pcAt_nat, hx, hk]
    by_cases h6 : q % 6 = 5
    · rw [if_pos (by omega)]
      obtain ⟨r0, r1⟩ := hF.pw a ha (by rw [hx, hk]; omega)
      have e : possB p tn (q % 6) a = pawnM p tn a := by rw [h6]; rfl
      rw [e]
      exact pawn_steps p hF.snd.pos tn htn hF.ep a b r0 r1 hb (by rw [pcAt_nat, hx]; omega)
    · rw [if_neg (by omega)]
      exact poss_reach p hF.snd.pos tn (q % 6) a b (by omega) ha hb (by rw [pcAt_nat, hx, hk])
  constructor
  · rintro ⟨h1, h2, h3⟩
    exact ⟨h1, by omega, by omega, (e2 h1).1 h2, h3⟩
  · rintro ⟨h1, h2⟩
    exact ⟨h1, (e2 h1).2 h2.mem, h2.free⟩
set_option maxRecDepth 1000000 in
theorem back_all : ∀ s < 64, ∀ j < 64, (decide (j ≠ s) && (inLine (j : Nat) (s : Nat) || inSlant (j : Nat) (s : Nat))) = true → backL (s : Nat) (j : Nat) = (backL (j : Nat) (s : Nat)).reverse := by decide +kernel
theorem sees_sym (p : List Int) (s j : Nat) (hs : s < 64) (hj : j < 64) (hne : j ≠ s) (h : (inLine (j : Int) (s : Int) || inSlant (j : Int) (s : Int)) = true) : seesB p s j = true ↔ seesB p j s = true := by
  have h1 := back_all s hs j hj (by rw [decide_eq_true hne, Bool.true_and]; exact h)
  unfold seesB
  rw [clear_runL, clear_runL]
  constructor
  · intro hh x hx
    apply hh
    show x ∈ backL s j
    rw [h1, List.mem_reverse]
    exact hx
  · intro hh x hx
    apply hh
    have hx' : x ∈ backL s j := hx
    rw [h1, List.mem_reverse] at hx'
    exact hx'
theorem line_sym (a b : Int) : inLine a b = inLine b a := by
  unfold inLine
  rw [Bool.eq_iff_iff]
  simp only [Bool.or_eq_true, decide_eq_true_eq]
  omega
theorem slant_sym (a b : Int) : inSlant a b = inSlant b a := by
  unfold inSlant
  rw [Bool.eq_iff_iff]
  simp only [Bool.or_eq_true, decide_eq_true_eq]
  omega
set_option maxRecDepth 1000000 in
theorem king_sym : ∀ s < 64, ∀ j < 64, occ (tabB bbKingMovesL s) j = occ (tabB bbKingMovesL j) s := by decide +kernel
set_option maxRecDepth 1000000 in
theorem knight_sym : ∀ s < 64, ∀ j < 64, occ (tabB bbKnightMovesL s) j = occ (tabB bbKnightMovesL j) s := by decide +kernel
/-- What a pawn's step is. -/
theorem pawn_goes (p : List Int) (tn : Nat) (hF : Fair p tn) (a b : Nat) (ha : a < 64) (hb : b < 64) (hx : p.getD a 0 = 6 + 6 * (tn : Int)) (h : Goes p tn a b) :
    (p.getD b 0 = 0 ∧ ((b : Int) = a + 8 - 16 * (tn : Int) ∨ ((b : Int) = a + 16 - 32 * (tn : Int) ∧ (a : Int) / 8 = 1 + 5 * (tn : Int)))) ∨
    ((((b : Int) = a + 9 - 16 * (tn : Int) ∧ a % 8 ≠ 7) ∨ ((b : Int) = a + 7 - 16 * (tn : Int) ∧ a % 8 ≠ 0)) ∧ (p.getD b 0 ≠ 0 ∨ (p.getD b 0 = 0 ∧ (b : Int) = p.getD 66 0 ∧ (b : Int) / 8 = 5 - 3 * (tn : Int)))) := by
  have htn := hF.snd.one
  have hk : kindOf (p.getD a 0) = 6 := by rw [hx]; unfold kindOf; split <;> omega
  obtain ⟨r0, r1⟩ := hF.pw a ha hk
  have hsd : sideOf (p.getD a 0) = (tn : Int) := by rw [hx]; unfold sideOf; split <;> omega
  have hm := h.mem
  unfold sqL stepL at hm
  rw [pcAt_nat, hk, if_pos rfl, hsd, List.mem_append, List.mem_filter, fwd_mem p a b r0 r1 tn htn, hit_mem a b r0 r1 tn htn] at hm
  rcases hm with ⟨h1, h2 | h2⟩ | ⟨h1, h2⟩
  · left
    rw [← h2, pcAt_nat] at h1
    exact ⟨h1, Or.inl h2⟩
  · left
    have h3 := h2.2.2
    rw [← h2.1, pcAt_nat] at h3
    exact ⟨h3, Or.inr ⟨h2.1, h2.2.1⟩⟩
  · right
    refine ⟨by omega, ?_⟩
    unfold takeOk at h2
    rw [Bool.or_eq_true, Bool.and_eq_true, Bool.and_eq_true, Bool.and_eq_true, decide_eq_true_eq, decide_eq_true_eq, decide_eq_true_eq, decide_eq_true_eq, decide_eq_true_eq, pcAt_nat] at h2
    rcases h2 with h2 | h2
    · exact Or.inl h2.1
    · exact Or.inr h2
/-- What can go to a square attacks what stands there. -/
theorem goes_hits (p : List Int) (tn : Nat) (hF : Fair p tn) (a b : Nat) (ha : a < 64) (hb : b < 64) (h : Goes p tn a b) (hne : p.getD b 0 ≠ 0) : attackedB p (b : Int) (tn : Int) = true := by
  have htn := hF.snd.one
  have hp := hF.snd.pos
  have x0 := h.x0
  have x1 := h.x1
  obtain ⟨t, ht, hx⟩ : ∃ t : Nat, t < 6 ∧ p.getD a 0 = (t : Int) + 6 * (tn : Int) + 1 := ⟨(p.getD a 0 - 1 - 6 * (tn : Int)).toNat, by omega, by omega⟩
  have hq : (t + 6 * tn) / 6 = tn := by omega
  have hg := (goes_iff p tn hF (t + 6 * tn) a b hq ha hb).2 ⟨by rw [hx]; push_cast; rfl, h⟩
  have hpo : occ (possB p tn t a) b = true := by
    have := hg.2
    unfold goesB at this
    rw [occ_and, Bool.and_eq_true, show (t + 6 * tn) % 6 = t by omega] at this
    exact this.1
  have hab : a ≠ b := by
    rintro rfl
    exact h.free ⟨x0, x1⟩
  refine att_yes p b tn a ha ?_
  unfold atkOne
  have hsd : sideOf ((t : Int) + 6 * (tn : Int) + 1) = (tn : Int) := by unfold sideOf; split <;> omega
  rw [pcAt_nat, hx, hsd, Bool.and_eq_true, Bool.and_eq_true, decide_eq_true_eq, decide_eq_true_eq]
  refine ⟨by omega, rfl, ?_⟩
  rw [hits_kind p b a t tn ht htn (by rw [pcAt_nat]; exact hx), decide_eq_true hab, Bool.true_and]
  have hL := line_sym b a
  have hS := slant_sym b a
  have hsee : (inLine (b : Int) (a : Int) || inSlant (b : Int) (a : Int)) = true → seesB p b a = true → seesB p a b = true := fun h1 h2 => (sees_sym p a b ha hb (fun e => hab e.symm) h1).2 h2
  rcases (show t = 0 ∨ t = 1 ∨ t = 2 ∨ t = 3 ∨ t = 4 ∨ t = 5 by omega) with rfl | rfl | rfl | rfl | rfl | rfl
  · have h1 : occ (tabB bbKingMovesL a) b = true := hpo
    rw [king_sym a ha b hb, king_all b hb a ha, Bool.and_eq_true] at h1
    simpa using h1.2
  · have h1 : occ (diaB (takB p) a ||| hvB (takB p) a) b = true := hpo
    rw [occ_or, Bool.or_eq_true, dia_occ p hp a b ha hb, hv_occ p hp a b ha hb] at h1
    rcases h1 with h1 | h1
    · have h2 := hsee (by rw [h1.1.2, Bool.or_true]) h1.2
      simp [← hS, h1.1.2, h2]
    · have h2 := hsee (by rw [h1.1.2, Bool.true_or]) h1.2
      simp [← hL, h1.1.2, h2]
  · have h1 : occ (hvB (takB p) a) b = true := hpo
    rw [hv_occ p hp a b ha hb] at h1
    have h2 := hsee (by rw [h1.1.2, Bool.true_or]) h1.2
    simp [← hL, h1.1.2, h2]
  · have h1 : occ (diaB (takB p) a) b = true := hpo
    rw [dia_occ p hp a b ha hb] at h1
    have h2 := hsee (by rw [h1.1.2, Bool.or_true]) h1.2
    simp [← hS, h1.1.2, h2]
  · have h1 : occ (tabB bbKnightMovesL a) b = true := hpo
    rw [knight_sym a ha b hb, knight_all b hb a ha] at h1
    simpa using h1
  · rcases pawn_goes p tn hF a b ha hb (by rw [hx]; omega) h with h1 | ⟨h1, _⟩
    · exact absurd h1.1 hne
    · have key : ∀ z : Int, z = 1 ∨ z = -1 → z * z = 1 := by rintro z (rfl | rfl) <;> rfl
      have k1 := key ((b : Int) % 8 - (a : Int) % 8) (by omega)
      have k2 : (b : Int) / 8 - (a : Int) / 8 = upOf (tn : Int) := by unfold upOf; omega
      simp [k1, k2]
theorem goes_king (p : List Int) (tn : Nat) (hF : Fair p tn) (a b : Nat) (ha : a < 64) (hb : b < 64) (h : Goes p tn a b) : kindOf (p.getD b 0) ≠ 1 := by
  intro hk
  have htn := hF.snd.one
  have h0 := hF.snd.pos.lo b hb
  have h1 := hF.snd.pos.hi b hb
  have hfr := h.free
  have hx : p.getD b 0 = 1 + 6 * (1 - (tn : Int)) := by
    unfold kindOf at hk
    split at hk <;> omega
  have hc : cnt p (1 + 6 * (1 - (tn : Int))) 64 = 1 := by
    rcases (show tn = 0 ∨ tn = 1 by omega) with rfl | rfl
    · exact hF.snd.n7
    · exact hF.snd.n1
  obtain ⟨j, _, h3, h4, h5⟩ := king_both p (1 - (tn : Int)) hc
  obtain rfl := cnt_one p _ 64 hc b j hb h4 hx h5
  have := goes_hits p tn hF a b ha hb h (by omega)
  rw [← h3, hF.chk] at this
  cases this
set_option maxRecDepth 1000000 in
theorem king_two : ∀ s < 64, ∀ j < 64, (!occ (tabB bbKingMovesL s) j || (decide (j ≠ s + 2) && (decide (s ≠ j + 2) && (!(decide (s = 4) || decide (s = 60)) || (decide (j ≠ 6) && (decide (j ≠ 62) && (decide (j ≠ 2) && decide (j ≠ 58)))))))) = true := by decide +kernel
theorem goes_cast (p : List Int) (tn : Nat) (hF : Fair p tn) (a b : Nat) (ha : a < 64) (hb : b < 64) (h : Goes p tn a b) (hk : kindOf (p.getD a 0) = 1) : (b ≠ a + 2 ∧ a ≠ b + 2) ∧ (a = 4 ∨ a = 60 → b ≠ 6 ∧ b ≠ 62 ∧ b ≠ 2 ∧ b ≠ 58) := by
  have htn := hF.snd.one
  have x0 := h.x0
  have x1 := h.x1
  have hx : p.getD a 0 = ((6 * tn : Nat) : Int) + 1 := by
    unfold kindOf at hk
    split at hk <;> omega
  have hg := (goes_iff p tn hF (6 * tn) a b (by omega) ha hb).2 ⟨hx, h⟩
  have hpo : occ (possB p tn 0 a) b = true := by
    have := hg.2
    unfold goesB at this
    rw [occ_and, Bool.and_eq_true, show (6 * tn) % 6 = 0 by omega] at this
    exact this.1
  have hk2 := king_two a ha b hb
  have hpo2 : occ (tabB bbKingMovesL a) b = true := hpo
  rw [hpo2] at hk2
  simp only [Bool.not_true, Bool.false_or, Bool.and_eq_true, decide_eq_true_eq] at hk2
  refine ⟨⟨hk2.1, hk2.2.1⟩, fun h4 => ?_⟩
  have h5 := hk2.2.2
  have h6 : (decide (a = 4) || decide (a = 60)) = true := by simpa using h4
  rw [h6] at h5
  simpa using h5
end Go.Proofs.YtnjdgooljnbebaaGreatDoor
namespace Go.Proofs.YtnjdgooljnbebaaGreatDoor
open Go Go.RowKit
set_option maxHeartbeats 8000000
set_option linter.unusedSimpArgs false
set_option linter.unusedVariables false
set_option maxRecDepth 100000

theorem passM_mv (p : List Int) (a b : Nat) (pr : Int) : passM p (mvAt a b pr) = ((decide (kindOf (p.getD a 0) = 6) && decide ((a : Int) % 8 ≠ (b : Int) % 8)) && decide (p.getD b 0 = 0)) := rfl
theorem goes_pass (p : List Int) (tn : Nat) (hF : Fair p tn) (a b : Nat) (pr : Int) (ha : a < 64) (hb : b < 64) (h : Goes p tn a b) (hps : passM p (mvAt a b pr) = true) :
    p.getD a 0 = 6 + 6 * (tn : Int) ∧ p.getD b 0 = 0 ∧ (b : Int) = p.getD 66 0 ∧ (b : Int) / 8 = 5 - 3 * (tn : Int) ∧ (((b : Int) = a + 9 - 16 * (tn : Int) ∧ a % 8 ≠ 7) ∨ ((b : Int) = a + 7 - 16 * (tn : Int) ∧ a % 8 ≠ 0)) := by
  have htn := hF.snd.one
  have x0 := h.x0
  have x1 := h.x1
  rw [passM_mv, Bool.and_eq_true, Bool.and_eq_true, decide_eq_true_eq, decide_eq_true_eq, decide_eq_true_eq] at hps
  obtain ⟨⟨k1, k2⟩, k3⟩ := hps
  have hx : p.getD a 0 = 6 + 6 * (tn : Int) := by
    unfold kindOf at k1
    split at k1 <;> omega
  rcases pawn_goes p tn hF a b ha hb hx h with ⟨h1, h2⟩ | ⟨h1, h2⟩
  · omega
  · rcases h2 with h2 | h2
    · exact absurd k3 h2
    · exact ⟨hx, k3, h2.2.1, h2.2.2, h1⟩
theorem ep_behind (p : List Int) (tn : Nat) (hE : EpOk p tn) (b : Nat) (h : (b : Int) = p.getD 66 0) : (b : Int) / 8 = 5 - 3 * (tn : Int) ∧ p.getD ((b : Int) - 8 + 16 * (tn : Int)).toNat 0 = 12 - 6 * (tn : Int) := by
  rcases hE.ep with h1 | ⟨e, h1, h2, h3, h4, h5⟩
  · omega
  · obtain rfl : b = e := by omega
    exact ⟨h3, h5⟩
theorem goes_ep (p : List Int) (tn : Nat) (hF : Fair p tn) (a b : Nat) (pr : Int) (ha : a < 64) (hb : b < 64) (h : Goes p tn a b) : passM p (mvAt a b pr) = (decide (p.getD b 0 = 0) && (decide ((b : Int) = p.getD 66 0) && decide (kindOf (p.getD a 0) = 6))) := by
  have htn := hF.snd.one
  rw [Bool.eq_iff_iff]
  constructor
  · intro hps
    obtain ⟨h1, h2, h3, h4, h5⟩ := goes_pass p tn hF a b pr ha hb h hps
    have hk : kindOf (p.getD a 0) = 6 := by rw [h1]; unfold kindOf; split <;> omega
    rw [decide_eq_true h2, decide_eq_true h3, decide_eq_true hk]
    rfl
  · intro hh
    simp only [Bool.and_eq_true, decide_eq_true_eq] at hh
    obtain ⟨h1, h2, h3⟩ := hh
    have x0 := h.x0
    have x1 := h.x1
    have hx : p.getD a 0 = 6 + 6 * (tn : Int) := by
      unfold kindOf at h3
      split at h3 <;> omega
    obtain ⟨e1, e2⟩ := ep_behind p tn hF.ep b h2
    rw [passM_mv, Bool.and_eq_true, Bool.and_eq_true, decide_eq_true_eq, decide_eq_true_eq, decide_eq_true_eq]
    refine ⟨⟨h3, ?_⟩, h1⟩
    rcases pawn_goes p tn hF a b ha hb hx h with ⟨_, h5 | h5⟩ | ⟨h5, _⟩
    · exfalso
      have : ((b : Int) - 8 + 16 * (tn : Int)).toNat = a := by omega
      rw [this, hx] at e2
      omega
    · omega
    · omega
theorem castM_no (p : List Int) (tn : Nat) (hF : Fair p tn) (a b : Nat) (pr : Int) (ha : a < 64) (hb : b < 64) (h : Goes p tn a b) : castM p (mvAt a b pr) = false := by
  unfold castM mvAt
  show (decide (kindOf (p.getD a 0) = 1) && (decide ((b : Int) = (a : Int) + 2) || decide ((b : Int) = (a : Int) - 2))) = false
  by_cases hk : kindOf (p.getD a 0) = 1
  · have h2 := (goes_cast p tn hF a b ha hb h hk).1
    have n1 : ¬ (b : Int) = (a : Int) + 2 := by omega
    have n2 : ¬ (b : Int) = (a : Int) - 2 := by omega
    rw [decide_eq_false n1, decide_eq_false n2, Bool.or_self, Bool.and_false]
  · rw [decide_eq_false hk, Bool.false_and]
theorem goes_tags (p : List Int) (tn : Nat) (hF : Fair p tn) (a b : Nat) (pr : Int) (ha : a < 64) (hb : b < 64) (h : Goes p tn a b) (t : Tg) (t1 : t.ks = false) (t2 : t.qs = false) (t3 : t.ep = true → passM p (mvAt a b pr) = true) : TagOk p tn (mvAt a b pr) t := by
  have htn := hF.snd.one
  have hc := castM_no p tn hF a b pr ha hb h
  have hno : ∀ x y : Nat, (x = 6 ∨ x = 62) ∧ (y = 6 ∨ y = 62) ∨ (x = 2 ∨ x = 58) ∧ (y = 2 ∨ y = 58) → (decide (kindOf (p.getD a 0) = 1) && (decide ((a : Int) = 4 + 56 * (tn : Int)) && (decide ((b : Int) = (x : Int)) || decide ((b : Int) = (y : Int))))) = false := by
    intro x y hxy
    by_cases hk : kindOf (p.getD a 0) = 1
    · by_cases h4 : (a : Int) = 4 + 56 * (tn : Int)
      · have h2 := (goes_cast p tn hF a b ha hb h hk).2 (by omega)
        have n1 : ¬ (b : Int) = (x : Int) := by omega
        have n2 : ¬ (b : Int) = (y : Int) := by omega
        rw [decide_eq_false n1, decide_eq_false n2, Bool.or_self, Bool.and_false, Bool.and_false]
      · rw [decide_eq_false h4, Bool.false_and, Bool.and_false]
    · rw [decide_eq_false hk, Bool.false_and]
  refine ⟨goes_ep p tn hF a b pr ha hb h, ?_, ?_, t3, ?_, ?_⟩
  · rw [hc, Bool.false_and]
    exact (hno 6 62 (by omega)).symm
  · rw [hc, Bool.false_and]
    exact (hno 2 58 (by omega)).symm
  · rw [t1]; intro hh; cases hh
  · rw [t2]; intro hh; cases hh
theorem prom_q (p : List Int) (tn : Nat) (q a b : Nat) (hq : q / 6 = tn) (htn : tn ≤ 1) (hx : p.getD a 0 = (q : Int) + 1) (h : isProm q b = true) : p.getD a 0 = 6 + 6 * (tn : Int) ∧ (b : Int) / 8 = 7 - 7 * (tn : Int) := by
  unfold isProm at h
  simp only [Bool.or_eq_true, Bool.and_eq_true, decide_eq_true_eq] at h
  omega
theorem goes_good (p : List Int) (tn : Nat) (hF : Fair p tn) (q a b : Nat) (pr : Int) (hq : q / 6 = tn) (ha : a < 64) (hb : b < 64) (hx : p.getD a 0 = (q : Int) + 1) (h : Goes p tn a b) (h1 : isProm q b = false → pr = 0) (h2 : isProm q b = true → 2 ≤ pr ∧ pr ≤ 5) : GoodM p tn (mvAt a b pr) := by
  have htn := hF.snd.one
  have x0 := h.x0
  have x1 := h.x1
  have hpr : 0 ≤ pr ∧ pr ≤ 6 ∧ (pr ≠ 0 → isProm q b = true) := by
    cases hi : isProm q b with
    | false => have := h1 hi; exact ⟨by omega, by omega, fun hh => absurd this hh⟩
    | true => have := h2 hi; exact ⟨by omega, by omega, fun _ => rfl⟩
  refine ⟨⟨?_, ?_, ?_, ?_, hpr.1, hpr.2.1⟩, ?_, x0, x1, ?_, ?_, ?_⟩
  · show (0 : Int) ≤ (a : Int); omega
  · show (a : Int) ≤ 63; omega
  · show (0 : Int) ≤ (b : Int); omega
  · show (b : Int) ≤ 63; omega
  · show (a : Int) ≠ (b : Int)
    intro e
    obtain rfl : a = b := by omega
    exact h.free ⟨x0, x1⟩
  · intro hh
    have hi := hpr.2.2 hh
    exact ⟨(prom_q p tn q a b hq htn hx hi).1, h2 hi⟩
  · intro hh h0
    have hps : passM p (mvAt a b pr) = true := by
      unfold passM
      rw [hh, Bool.true_and, decide_eq_true_eq]
      exact h0
    obtain ⟨g1, g2, g3, g4, g5⟩ := goes_pass p tn hF a b pr ha hb h hps
    obtain ⟨e1, e2⟩ := ep_behind p tn hF.ep b g3
    show 0 ≤ (b : Int) - 8 + 16 * (tn : Int) ∧ (b : Int) - 8 + 16 * (tn : Int) ≤ 63 ∧ p.getD ((b : Int) - 8 + 16 * (tn : Int)).toNat 0 = 12 - 6 * (tn : Int) ∧ (a : Int) / 8 = (b : Int) / 8 - 1 + 2 * (tn : Int)
    exact ⟨by omega, by omega, e2, by omega⟩
  · intro hh
    rw [castM_no p tn hF a b pr ha hb h] at hh
    cases hh
/-- Who attacks a square. -/
theorem att_iff (p : List Int) (hp : Pos p) (c : Nat) (hc : c ≤ 1) (s : Nat) : attackedB p (s : Int) (c : Int) = true ↔ ∃ j t : Nat, j < 64 ∧ t < 6 ∧ p.getD j 0 = (t : Int) + 6 * (c : Int) + 1 ∧ hitsB p j s = true := by
  unfold attackedB
  rw [List.any_eq_true]
  constructor
  · rintro ⟨j, hj, h⟩
    rw [List.mem_range] at hj
    unfold atkOne at h
    rw [Bool.and_eq_true, Bool.and_eq_true, decide_eq_true_eq, decide_eq_true_eq, pcAt_nat] at h
    have h0 := hp.lo j hj
    have h1 := hp.hi j hj
    have h2 := h.2.1
    have h3 := h.1
    unfold sideOf at h2
    refine ⟨j, (p.getD j 0 - 6 * (c : Int) - 1).toNat, hj, ?_, ?_, h.2.2⟩
    · split at h2 <;> omega
    · split at h2 <;> omega
  · rintro ⟨j, t, hj, ht, hx, h⟩
    refine ⟨j, List.mem_range.2 hj, ?_⟩
    unfold atkOne
    rw [pcAt_nat, hx, h]
    have : sideOf ((t : Int) + 6 * (c : Int) + 1) = (c : Int) := by unfold sideOf; split <;> omega
    rw [this]
    simp
    omega
theorem att_le (q q' : List Int) (hq : Pos q) (hq' : Pos q') (c : Nat) (hc : c ≤ 1) (s : Nat) (h1 : ∀ j, j < 64 → ∀ t : Nat, t < 6 → q.getD j 0 = (t : Int) + 6 * (c : Int) + 1 → q'.getD j 0 = (t : Int) + 6 * (c : Int) + 1)
    (h2 : ∀ j : Nat, j < 64 → ∀ t : Nat, t < 6 → q.getD j 0 = (t : Int) + 6 * (c : Int) + 1 → j ≠ s → (inLine (j : Int) (s : Int) || inSlant (j : Int) (s : Int)) = true → seesB q j s = true → seesB q' j s = true) (h : attackedB q (s : Int) (c : Int) = true) : attackedB q' (s : Int) (c : Int) = true := by
  obtain ⟨j, t, hj, ht, hx, hh⟩ := (att_iff q hq c hc s).1 h
  refine (att_iff q' hq' c hc s).2 ⟨j, t, hj, ht, h1 j hj t ht hx, ?_⟩
  rw [hits_kind q s j t c ht hc (by rw [pcAt_nat]; exact hx), Bool.and_eq_true, decide_eq_true_eq] at hh
  rw [hits_kind q' s j t c ht hc (by rw [pcAt_nat]; exact h1 j hj t ht hx), decide_eq_true hh.1, Bool.true_and]
  obtain ⟨hne, hh⟩ := hh
  have h3 := h2 j hj t ht hx hne
  rcases (show t = 0 ∨ t = 1 ∨ t = 2 ∨ t = 3 ∨ t = 4 ∨ t = 5 by omega) with rfl | rfl | rfl | rfl | rfl | rfl
  · exact hh
  · have hh : (inLine (j : Int) s || inSlant (j : Int) s) = true ∧ seesB q j s = true := by simpa using hh
    have := h3 hh.1 hh.2
    have h4 := hh.1
    simp only [Bool.or_eq_true] at h4
    simp [this, h4]
  · have hh : inLine (j : Int) s = true ∧ seesB q j s = true := by simpa using hh
    have := h3 (by rw [hh.1, Bool.true_or]) hh.2
    simp [this, hh.1]
  · have hh : inSlant (j : Int) s = true ∧ seesB q j s = true := by simpa using hh
    have := h3 (by rw [hh.1, Bool.or_true]) hh.2
    simp [this, hh.1]
  · exact hh
  · exact hh
set_option maxRecDepth 1000000 in
theorem back_in : ∀ s < 64, ∀ j < 64, (decide (j ≠ s) && (inLine (j : Nat) (s : Nat) || inSlant (j : Nat) (s : Nat))) = true → ((backL (j : Nat) (s : Nat)).all fun x => decide (0 ≤ x) && decide (x ≤ 63)) = true := by decide +kernel
theorem sees_le (q q' : List Int) (j s : Nat) (hj : j < 64) (hs : s < 64) (hne : j ≠ s) (hl : (inLine (j : Int) (s : Int) || inSlant (j : Int) (s : Int)) = true) (h : ∀ x : Nat, x < 64 → (x : Int) ∈ backL j s → q.getD x 0 = 0 → q'.getD x 0 = 0) (hh : seesB q j s = true) : seesB q' j s = true := by
  have hin := back_in s hs j hj (by rw [decide_eq_true hne, Bool.true_and]; exact hl)
  unfold seesB at hh ⊢
  rw [clear_runL] at hh ⊢
  intro x hx
  have hb := List.all_eq_true.1 hin x hx
  rw [Bool.and_eq_true, decide_eq_true_eq, decide_eq_true_eq] at hb
  obtain ⟨n, rfl⟩ : ∃ n : Nat, x = (n : Int) := ⟨x.toNat, by omega⟩
  have := hh _ hx
  rw [pcAt_nat] at this ⊢
  exact h n (by omega) hx this
/-- A board whose pieces are others of the same side here and there has the same attacks of the other side. -/
theorem att_swap (q q' : List Int) (hq : Pos q) (hq' : Pos q') (c : Nat) (hc : c ≤ 1) (s : Nat) (hs : s < 64) (h : ∀ j, j < 64 → q.getD j 0 = q'.getD j 0 ∨ (∀ t : Nat, t < 6 → q.getD j 0 ≠ (t : Int) + 6 * (c : Int) + 1 ∧ q'.getD j 0 ≠ (t : Int) + 6 * (c : Int) + 1) ∧ q.getD j 0 ≠ 0 ∧ q'.getD j 0 ≠ 0) : attackedB q (s : Int) (c : Int) = attackedB q' (s : Int) (c : Int) := by
  rw [Bool.eq_iff_iff]
  constructor
  · refine att_le q q' hq hq' c hc s ?_ ?_
    · intro j hj t ht hx
      rcases h j hj with e | e
      · rw [← e]; exact hx
      · exact absurd hx (e.1 t ht).1
    · intro j hj t ht hx hne hl
      refine sees_le q q' j s hj hs hne hl fun x hx _ h0 => ?_
      rcases h x hx with e | e
      · rw [← e]; exact h0
      · exact absurd h0 e.2.1
  · refine att_le q' q hq' hq c hc s ?_ ?_
    · intro j hj t ht hx
      rcases h j hj with e | e
      · rw [e]; exact hx
      · exact absurd hx (e.1 t ht).2
    · intro j hj t ht hx hne hl
      refine sees_le q' q j s hj hs hne hl fun x hx _ h0 => ?_
      rcases h x hx with e | e
      · rw [e]; exact h0
      · exact absurd h0 e.2.2
theorem kingBy_nat (p : List Int) (tn : Nat) (hF : Fair p tn) (m : Mv) (hm : MvOk m) : ∃ k : Nat, k < 64 ∧ kingBy p m = (k : Int) := by
  have h0 := hF.snd.king
  have h1 := (kingAt_range p (tn : Int)).2
  have t0 := hm.t0
  have t1 := hm.t1
  unfold kingBy
  rw [hF.snd.turn]
  split
  · exact ⟨m.to.toNat, by omega, by omega⟩
  · exact ⟨(kingAt p (tn : Int)).toNat, by omega, by omega⟩
theorem keep_same (p : List Int) (tn : Nat) (hF : Fair p tn) (q a b : Nat) (pr : Int) (hq : q / 6 = tn) (ha : a < 64) (hb : b < 64) (hx : p.getD a 0 = (q : Int) + 1) (h : Goes p tn a b) (hi : isProm q b = true) (h0 : 2 ≤ pr) (h1 : pr ≤ 5) : keepM p (mvAt a b pr) = keepM p (mvAt a b 2) := by
  have htn := hF.snd.one
  have hT := hF.snd.turn
  have g1 := goes_good p tn hF q a b pr hq ha hb hx h (fun e => by rw [hi] at e; cases e) (fun _ => ⟨h0, h1⟩)
  have g2 := goes_good p tn hF q a b 2 hq ha hb hx h (fun e => by rw [hi] at e; cases e) (fun _ => ⟨by omega, by omega⟩)
  obtain ⟨k, hk, e1⟩ := kingBy_nat p tn hF _ g1.ok
  have e2 : kingBy p (mvAt a b 2) = (k : Int) := e1
  have p1 := madeB_pos p hF.snd.pos _ g1.ok (by omega) (by omega)
  have p2 := madeB_pos p hF.snd.pos _ g2.ok (by omega) (by omega)
  have hc : (1 : Int) - p.getD 64 0 = ((1 - tn : Nat) : Int) := by omega
  unfold keepM
  rw [e1, e2, hc]
  congr 1
  refine att_swap _ _ p1 p2 (1 - tn) (by omega) k hk ?_
  intro j hj
  have c1 := castM_no p tn hF a b pr ha hb h
  have c2 := castM_no p tn hF a b 2 ha hb h
  rw [made_sq p _ j hj, made_sq p _ j hj]
  unfold mdD
  rw [c1, c2]
  unfold mdC
  rw [if_neg Bool.false_ne_true, if_neg Bool.false_ne_true, if_neg (show ¬ (mvAt a b pr).pr = 0 by show ¬ pr = 0; omega), if_neg (show ¬ (mvAt a b 2).pr = 0 by show ¬ (2 : Int) = 0; decide), hT]
  have eB : mdB p (mvAt a b pr) = mdB p (mvAt a b 2) := rfl
  rw [eB, getD_set, getD_set]
  have hl := mdB_len p (mvAt a b 2) hF.snd.pos.len
  by_cases hjb : j = b
  · subst hjb
    have e3 : (mvAt a j pr).to.toNat = j := Int.toNat_natCast j
    have e4 : (mvAt a j 2).to.toNat = j := Int.toNat_natCast j
    rw [if_pos ⟨e3, by omega⟩, if_pos ⟨e4, by omega⟩]
    right
    show (∀ t : Nat, t < 6 → pr + 6 * (tn : Int) ≠ _ ∧ (2 : Int) + 6 * (tn : Int) ≠ _) ∧ pr + 6 * (tn : Int) ≠ 0 ∧ (2 : Int) + 6 * (tn : Int) ≠ 0
    refine ⟨fun t ht => ⟨by omega, by omega⟩, by omega, by omega⟩
  · have e3 : ¬ (mvAt a b pr).to.toNat = j := by show ¬ ((b : Int)).toNat = j; omega
    have e4 : ¬ (mvAt a b 2).to.toNat = j := by show ¬ ((b : Int)).toNat = j; omega
    rw [if_neg (fun e => e3 e.1), if_neg (fun e => e4 e.1)]
    exact Or.inl rfl
/-- The law of the moves that the walk meets. -/
theorem mv_law (p : List Int) (tn : Nat) (hF : Fair p tn) : MvLaw p tn where
  good := fun q a b pr hq1 hq ha hb hgo h1 h2 => by
    obtain ⟨hx, h⟩ := (goes_iff p tn hF q a b hq ha hb).1 hgo
    exact ⟨goes_good p tn hF q a b pr hq ha hb hx h h1 h2, by rw [pcAt_nat]; exact goes_king p tn hF a b ha hb h, fun t t1 t2 t3 => goes_tags p tn hF a b pr ha hb h t t1 t2 t3⟩
  cast := fun q a b pr hq1 hq ha hb hgo => castM_no p tn hF a b pr ha hb ((goes_iff p tn hF q a b hq ha hb).1 hgo).2
  pass := fun q a b pr hq1 hq ha hb hgo hi => by
    obtain ⟨hx, h⟩ := (goes_iff p tn hF q a b hq ha hb).1 hgo
    have hr := (prom_q p tn q a b hq hF.snd.one hx hi).2
    have htn := hF.snd.one
    cases hps : passM p (mvAt a b pr) with
    | false => rfl
    | true =>
      have := (goes_pass p tn hF a b pr ha hb h hps).2.2.2.1
      omega
  same := fun q a b pr hq1 hq ha hb hgo hi h0 h1 => by
    obtain ⟨hx, h⟩ := (goes_iff p tn hF q a b hq ha hb).1 hgo
    exact keep_same p tn hF q a b pr hq ha hb hx h hi h0 h1
end Go.Proofs.YtnjdgooljnbebaaGreatDoor
namespace Go.Proofs.YtnjdgooljnbebaaGreatDoor
open Go Go.RowKit
set_option maxHeartbeats 8000000
set_option linter.unusedSimpArgs false
set_option linter.unusedVariables false
set_option maxRecDepth 100000

theorem mem_pseudo (p : List Int) (m : Mv) : ∀ n, m ∈ pseudoTo p n ↔ ∃ a, a < n ∧ m ∈ pseudoOf p (a : Int)
  | 0 => by simp [pseudoTo]
  | n + 1 => by
    rw [pseudoTo, List.mem_append, mem_pseudo p m n]
    constructor
    · rintro (⟨a, ha, h⟩ | h)
      · exact ⟨a, by omega, h⟩
      · exact ⟨n, by omega, h⟩
    · rintro ⟨a, ha, h⟩
      by_cases e : a = n
      · subst e; exact Or.inr h
      · exact Or.inl ⟨a, by omega, h⟩
theorem mem_pmTo (p : List Int) (f : Int) (L : List Int) (m : Mv) : ∀ n, m ∈ pmTo p f L n ↔ ∃ i, i < n ∧ m ∈ pmOf p f (L.getD i 0)
  | 0 => by simp [pmTo]
  | n + 1 => by
    rw [pmTo, List.mem_append, mem_pmTo p f L m n]
    constructor
    · rintro (⟨a, ha, h⟩ | h)
      · exact ⟨a, by omega, h⟩
      · exact ⟨n, by omega, h⟩
    · rintro ⟨a, ha, h⟩
      by_cases e : a = n
      · subst e; exact Or.inr h
      · exact Or.inl ⟨a, by omega, h⟩
theorem mem_promos (f tq : Int) (m : Mv) : ∀ n, m ∈ promos f tq n ↔ ∃ i : Nat, i < n ∧ m = ⟨f, tq, (i : Int) + 2⟩
  | 0 => by simp [promos]
  | n + 1 => by
    rw [promos, List.mem_append, mem_promos f tq m n, List.mem_singleton]
    constructor
    · rintro (⟨a, ha, h⟩ | h)
      · exact ⟨a, by omega, h⟩
      · exact ⟨n, by omega, h⟩
    · rintro ⟨a, ha, h⟩
      by_cases e : a = n
      · subst e; exact Or.inr h
      · exact Or.inl ⟨a, by omega, h⟩
theorem mem_getD (L : List Int) (x : Int) (h : x ∈ L) : ∃ i, i < L.length ∧ L.getD i 0 = x := by
  obtain ⟨i, hi, e⟩ := List.mem_iff_getElem.1 h
  exact ⟨i, hi, by rw [List.getD_eq_getElem?_getD, List.getElem?_eq_getElem hi]; exact e⟩
theorem getD_mem (L : List Int) (i : Nat) (h : i < L.length) : L.getD i 0 ∈ L := by
  rw [List.getD_eq_getElem?_getD, List.getElem?_eq_getElem h]
  exact List.getElem_mem h
theorem own_side (p : List Int) (hp : Pos p) (tn : Nat) (htn : tn ≤ 1) (a : Nat) (ha : a < 64) : (p.getD a 0 ≠ 0 ∧ sideOf (p.getD a 0) = (tn : Int)) ↔ 1 + 6 * (tn : Int) ≤ p.getD a 0 ∧ p.getD a 0 ≤ 6 + 6 * (tn : Int) := by
  have h0 := hp.lo a ha
  have h1 := hp.hi a ha
  unfold sideOf
  split <;> omega
theorem pseudo_goes (p : List Int) (tn : Nat) (hF : Fair p tn) (m : Mv) : m ∈ pseudoTo p 64 ↔ ∃ a b : Nat, a < 64 ∧ b < 64 ∧ Goes p tn a b ∧ m ∈ pmOf p (a : Int) (b : Int) := by
  have htn := hF.snd.one
  have hT := hF.snd.turn
  have hp := hF.snd.pos
  rw [mem_pseudo]
  constructor
  · rintro ⟨a, ha, h⟩
    unfold pseudoOf at h
    rw [hT, pcAt_nat] at h
    by_cases hs : p.getD a 0 = 0 ∨ sideOf (p.getD a 0) ≠ (tn : Int)
    · rw [if_pos hs] at h
      cases h
    · rw [if_neg hs, mem_pmTo] at h
      obtain ⟨i, hi, h⟩ := h
      have hm := getD_mem _ i hi
      have hr := sqL_range p (a : Int) (by omega) (by omega) _ hm
      obtain ⟨b, hb⟩ : ∃ b : Nat, (sqL p (a : Int)).getD i 0 = (b : Int) := ⟨((sqL p (a : Int)).getD i 0).toNat, by omega⟩
      rw [hb] at h hm hr
      have hown : p.getD a 0 ≠ 0 ∧ sideOf (p.getD a 0) = (tn : Int) := by
        constructor
        · exact fun e => hs (Or.inl e)
        · exact Classical.byContradiction fun e => hs (Or.inr e)
      have hx := (own_side p hp tn htn a ha).1 hown
      refine ⟨a, b, ha, by omega, ⟨hx.1, hx.2, hm, fun hf => ?_⟩, h⟩
      unfold pmOf at h
      rw [hT, pcAt_nat, if_pos ((own_side p hp tn htn b (by omega)).2 hf)] at h
      cases h
  · rintro ⟨a, b, ha, hb, hg, h⟩
    refine ⟨a, ha, ?_⟩
    have hown := (own_side p hp tn htn a ha).2 ⟨hg.x0, hg.x1⟩
    unfold pseudoOf
    rw [hT, pcAt_nat, if_neg (by rintro (e | e); exact hown.1 e; exact e hown.2), mem_pmTo]
    obtain ⟨i, hi, e⟩ := mem_getD _ _ hg.mem
    exact ⟨i, hi, by rw [e]; exact h⟩
/-- The moves from one square to another. -/
theorem pm_goes (p : List Int) (tn : Nat) (hF : Fair p tn) (q a b : Nat) (hq : q / 6 = tn) (ha : a < 64) (hb : b < 64) (hx : p.getD a 0 = (q : Int) + 1) (h : Goes p tn a b) (m : Mv) : m ∈ pmOf p (a : Int) (b : Int) ↔ ∃ pr : Int, m = mvAt a b pr ∧ ((isProm q b = false ∧ pr = 0) ∨ (isProm q b = true ∧ 2 ≤ pr ∧ pr ≤ 5)) := by
  have htn := hF.snd.one
  have hT := hF.snd.turn
  have hp := hF.snd.pos
  unfold pmOf
  rw [hT, pcAt_nat, pcAt_nat, if_neg (fun e => h.free ((own_side p hp tn htn b hb).1 e)), hx, kind_q q tn hq htn]
  have hi : isProm q b = true ↔ ¬ (((q % 6 : Nat) : Int) + 1 ≠ 6 ∨ (b : Int) / 8 ≠ 7 - 7 * (tn : Int)) := by
    unfold isProm
    simp only [Bool.or_eq_true, Bool.and_eq_true, decide_eq_true_eq]
    omega
  by_cases hc : ((q % 6 : Nat) : Int) + 1 ≠ 6 ∨ (b : Int) / 8 ≠ 7 - 7 * (tn : Int)
  · rw [if_pos hc, List.mem_singleton]
    have hf : isProm q b = false := by
      cases e : isProm q b with
      | false => rfl
      | true => exact absurd hc (hi.1 e)
    rw [hf]
    constructor
    · intro e
      exact ⟨0, e, Or.inl ⟨rfl, rfl⟩⟩
    · rintro ⟨pr, e, ⟨_, e2⟩ | ⟨e2, _⟩⟩
      · subst e2; exact e
      · cases e2
  · rw [if_neg hc, mem_promos]
    have hf : isProm q b = true := hi.2 hc
    rw [hf]
    constructor
    · rintro ⟨i, hi4, e⟩
      exact ⟨(i : Int) + 2, e, Or.inr ⟨rfl, by omega, by omega⟩⟩
    · rintro ⟨pr, e, ⟨e2, _⟩ | ⟨_, e2, e3⟩⟩
      · cases e2
      · refine ⟨(pr - 2).toNat, by omega, ?_⟩
        rw [e]
        show (⟨(a : Int), (b : Int), pr⟩ : Mv) = ⟨(a : Int), (b : Int), (((pr - 2).toNat : Nat) : Int) + 2⟩
        congr 1
        omega
/-- A move that the engine keeps is a legal one. -/
theorem std_some (p : List Int) (tn : Nat) (hF : Fair p tn) (q a b : Nat) (hq : q / 6 = tn) (ha : a < 64) (hb : b < 64) (hgo : goSq p tn q a b) (hk : keepM p (mvAt a b (pr0 q b)) = true) : mvAt a b (pr0 q b) ∈ legalL p := by
  obtain ⟨hx, h⟩ := (goes_iff p tn hF q a b hq ha hb).1 hgo
  unfold legalL pseudoL
  rw [List.mem_filter, List.mem_append]
  refine ⟨Or.inl ((pseudo_goes p tn hF _).2 ⟨a, b, ha, hb, h, (pm_goes p tn hF q a b hq ha hb hx h _).2 ⟨pr0 q b, rfl, ?_⟩⟩), hk⟩
  unfold pr0
  cases isProm q b with
  | false => exact Or.inl ⟨rfl, rfl⟩
  | true => exact Or.inr ⟨rfl, by decide, by decide⟩
/-- Where the engine keeps no move, none but castling is legal. -/
theorem std_none (p : List Int) (tn : Nat) (hF : Fair p tn) (hn : ∀ q a b, q < 12 → q / 6 = tn → a < 64 → b < 64 → goSq p tn q a b → keepM p (mvAt a b (pr0 q b)) = false) : legalL p = (castL p).filter (keepM p) := by
  have htn := hF.snd.one
  unfold legalL pseudoL
  rw [List.filter_append]
  have e : (pseudoTo p 64).filter (keepM p) = [] := by
    rw [List.filter_eq_nil_iff]
    intro m hm hk
    obtain ⟨a, b, ha, hb, h, hpm⟩ := (pseudo_goes p tn hF m).1 hm
    have x0 := h.x0
    have x1 := h.x1
    obtain ⟨q, hq⟩ : ∃ q : Nat, p.getD a 0 = (q : Int) + 1 := ⟨(p.getD a 0 - 1).toNat, by omega⟩
    have hq6 : q / 6 = tn := by omega
    obtain ⟨pr, rfl, hpr⟩ := (pm_goes p tn hF q a b hq6 ha hb hq h m).1 hpm
    have hgo := (goes_iff p tn hF q a b hq6 ha hb).2 ⟨hq, h⟩
    have hno := hn q a b (by omega) hq6 ha hb hgo
    unfold pr0 at hno
    rcases hpr with ⟨e1, e2⟩ | ⟨e1, e2, e3⟩
    · rw [e1] at hno
      rw [e2] at hk
      have hno' : keepM p (mvAt a b 0) = false := hno
      rw [hno'] at hk
      cases hk
    · rw [e1] at hno
      rw [keep_same p tn hF q a b pr hq6 ha hb hq h e1 e2 e3] at hk
      have hno' : keepM p (mvAt a b 2) = false := hno
      rw [hno'] at hk
      cases hk
  rw [e, List.nil_append]
/-- A right that is there stands on the board. -/
theorem right_of (p : List Int) (tn : Nat) (hF : Fair p tn) (r : Nat) (hr : r < 4) (h : hasR (p.getD 65 0) r = true) : rightB p r = true := by
  have hrig := hF.rig
  unfold rightsB at hrig
  have e : ∀ n, rightsTo p (n + 1) = rightsTo p n + (if rightB p n then 2 ^ n else 0) := fun n => rfl
  rw [e 3, e 2, e 1, e 0] at hrig
  have e0 : rightsTo p 0 = 0 := rfl
  rw [e0] at hrig
  rw [← hrig] at h
  unfold hasR at h
  rw [decide_eq_true_eq] at h
  rcases (show r = 0 ∨ r = 1 ∨ r = 2 ∨ r = 3 by omega) with rfl | rfl | rfl | rfl <;>
    (cases h0 : rightB p 0 <;> cases h1 : rightB p 1 <;> cases h2 : rightB p 2 <;> cases h3 : rightB p 3 <;> first | rfl | (rw [h0, h1, h2, h3] at h; exact absurd h (by decide)))
end Go.Proofs.YtnjdgooljnbebaaGreatDoor
namespace Go.Proofs.YtnjdgooljnbebaaGreatDoor
open Go Go.RowKit
set_option maxHeartbeats 8000000
set_option linter.unusedSimpArgs false
set_option linter.unusedVariables false
set_option maxRecDepth 100000

def cE (tn : Nat) : Nat := 4 + 56 * tn
def cTo (tn n : Nat) : Nat := if n = 0 then 6 + 56 * tn else 2 + 56 * tn
def cMid (tn n : Nat) : Nat := if n = 0 then 5 + 56 * tn else 3 + 56 * tn
def cCor (tn n : Nat) : Nat := if n = 0 then 7 + 56 * tn else 56 * tn
/-- The castling move. -/
def castMv (tn n : Nat) : Mv := mvAt (cE tn) (cTo tn n) 0
/-- The squares between are empty. -/
def cRun (p : List Int) (tn n : Nat) : Bool := decide (p.getD (cMid tn n) 0 = 0) && (decide (p.getD (cTo tn n) 0 = 0) && (decide (n = 0) || decide (p.getD (1 + 56 * tn) 0 = 0)))
/-- What the engine asks of a castling. -/
def engC (p : List Int) (tn n : Nat) : Bool := hasR (p.getD 65 0) (2 * tn + n) && (cRun p tn n && (!(attackedB p (cMid tn n : Nat) (1 - (tn : Int)) || attackedB p (cTo tn n : Nat) (1 - (tn : Int))) && !attackedB p (cE tn : Nat) (1 - (tn : Int))))
def castE (p : List Int) (tn n : Nat) : List Mv := if engC p tn n = true then [castMv tn n] else []
set_option maxRecDepth 1000000 in
theorem cast_sees : ∀ tn < 2, ∀ n < 2, ∀ j < 64, (decide (j ≠ cE tn) && (decide (j ≠ cTo tn n) && (decide (j ≠ cMid tn n) && (decide (j ≠ cCor tn n) && (inLine (j : Nat) (cTo tn n : Nat) || inSlant (j : Nat) (cTo tn n : Nat)))))) = true →
    (((backL (j : Nat) (cTo tn n : Nat)).contains ((cE tn : Nat) : Int) && (backL (j : Nat) (cTo tn n : Nat)).contains ((cMid tn n : Nat) : Int)) || (backL (j : Nat) (cTo tn n : Nat)).all fun x => decide (x ≠ (cE tn : Nat)) && (decide (x ≠ (cTo tn n : Nat)) && (decide (x ≠ (cMid tn n : Nat)) && decide (x ≠ (cCor tn n : Nat))))) = true := by decide +kernel
/-- What a castling needs to have on the board. -/
structure CastOk (p : List Int) (tn n : Nat) : Prop where
  n1 : n ≤ 1
  k : p.getD (cE tn) 0 = 1 + 6 * (tn : Int)
  r : p.getD (cCor tn n) 0 = 3 + 6 * (tn : Int)
  m : p.getD (cMid tn n) 0 = 0
  t : p.getD (cTo tn n) 0 = 0
theorem cast_ok (p : List Int) (tn : Nat) (hF : Fair p tn) (n : Nat) (hn : n ≤ 1) (hr : hasR (p.getD 65 0) (2 * tn + n) = true) (hrun : cRun p tn n = true) : CastOk p tn n := by
  have htn := hF.snd.one
  have h := right_of p tn hF (2 * tn + n) (by omega) hr
  unfold rightB at h
  rw [Bool.and_eq_true, Bool.and_eq_true, decide_eq_true_eq, decide_eq_true_eq] at h
  obtain ⟨_, h1, h2⟩ := h
  unfold cRun at hrun
  rw [Bool.and_eq_true, Bool.and_eq_true, decide_eq_true_eq, decide_eq_true_eq] at hrun
  obtain ⟨h3, h4, _⟩ := hrun
  refine ⟨hn, ?_, ?_, h3, h4⟩
  · have e : homeK (2 * tn + n) = ((cE tn : Nat) : Int) := by unfold homeK cE; omega
    rw [e, pcAt_nat] at h1
    rw [h1]; omega
  · have e : homeR (2 * tn + n) = ((cCor tn n : Nat) : Int) := by
      unfold homeR cCor
      rcases (show n = 0 ∨ n = 1 by omega) with rfl | rfl
      · rw [if_pos (by omega), if_pos rfl]; omega
      · rw [if_neg (by omega), if_neg (by omega)]; omega
    rw [e, pcAt_nat] at h2
    rw [h2]; omega
theorem cast_kind (tn : Nat) (htn : tn ≤ 1) : kindOf (1 + 6 * (tn : Int)) = 1 := by unfold kindOf; split <;> omega
theorem cast_is (p : List Int) (tn n : Nat) (htn : tn ≤ 1) (h : CastOk p tn n) : castM p (castMv tn n) = true := by
  unfold castM castMv mvAt
  show (decide (kindOf (p.getD (cE tn) 0) = 1) && (decide (((cTo tn n : Nat) : Int) = ((cE tn : Nat) : Int) + 2) || decide (((cTo tn n : Nat) : Int) = ((cE tn : Nat) : Int) - 2))) = true
  rw [h.k, cast_kind tn htn]
  have hn := h.n1
  unfold cTo cE
  rcases (show n = 0 ∨ n = 1 by omega) with rfl | rfl
  · rw [if_pos rfl]
    simp
    omega
  · rw [if_neg (by omega)]
    simp
    omega
theorem cast_passM (p : List Int) (tn n : Nat) (htn : tn ≤ 1) (h : CastOk p tn n) : passing p (castMv tn n) = false := by
  unfold passing castMv mvAt
  show (decide (kindOf (p.getD (cE tn) 0) = 6) && _) = false
  rw [h.k, cast_kind tn htn]
  rfl
theorem cast_good (p : List Int) (tn n : Nat) (htn : tn ≤ 1) (h : CastOk p tn n) : GoodM p tn (castMv tn n) := by
  have hn := h.n1
  have e1 : pcAt p (castMv tn n).fr = 1 + 6 * (tn : Int) := h.k
  have e2 : pcAt p (castMv tn n).to = 0 := h.t
  have e3 := h.r
  have e4 := h.m
  refine ⟨⟨?_, ?_, ?_, ?_, ?_, ?_⟩, ?_, ?_, ?_, ?_, ?_, ?_⟩
  · show (0 : Int) ≤ (cE tn : Nat); omega
  · show ((cE tn : Nat) : Int) ≤ 63; unfold cE; omega
  · show (0 : Int) ≤ (cTo tn n : Nat); omega
  · show ((cTo tn n : Nat) : Int) ≤ 63; unfold cTo; split <;> omega
  · exact Int.le_refl _
  · show (0 : Int) ≤ 6; decide
  · show ((cE tn : Nat) : Int) ≠ (cTo tn n : Nat); unfold cE cTo; split <;> omega
  · rw [e1]; exact Int.le_refl _
  · rw [e1]; omega
  · intro hh; exact absurd rfl hh
  · intro hh; rw [cast_passM p tn n htn h] at hh; cases hh
  · intro _
    refine ⟨rfl, e2, ?_, ?_⟩
    · show ((cE tn : Nat) : Int) = 4 + 56 * (tn : Int); unfold cE; omega
    · show (((cTo tn n : Nat) : Int) = ((cE tn : Nat) : Int) + 2 ∧ p.getD (((cE tn : Nat) : Int) + 3).toNat 0 = 3 + 6 * (tn : Int) ∧ p.getD (((cE tn : Nat) : Int) + 1).toNat 0 = 0) ∨ (((cTo tn n : Nat) : Int) = ((cE tn : Nat) : Int) - 2 ∧ p.getD (((cE tn : Nat) : Int) - 4).toNat 0 = 3 + 6 * (tn : Int) ∧ p.getD (((cE tn : Nat) : Int) - 1).toNat 0 = 0)
      rcases (show n = 0 ∨ n = 1 by omega) with rfl | rfl
      · left
        have q1 : (((cE tn : Nat) : Int) + 3).toNat = cCor tn 0 := by unfold cE cCor; rw [if_pos rfl]; omega
        have q2 : (((cE tn : Nat) : Int) + 1).toNat = cMid tn 0 := by unfold cE cMid; rw [if_pos rfl]; omega
        rw [q1, q2]
        exact ⟨by unfold cTo cE; rw [if_pos rfl]; omega, e3, e4⟩
      · right
        have q1 : (((cE tn : Nat) : Int) - 4).toNat = cCor tn 1 := by unfold cE cCor; rw [if_neg (by decide)]; omega
        have q2 : (((cE tn : Nat) : Int) - 1).toNat = cMid tn 1 := by unfold cE cMid; rw [if_neg (by decide)]; omega
        rw [q1, q2]
        exact ⟨by unfold cTo cE; rw [if_neg (by decide)]; omega, e3, e4⟩
/-- The tags that the engine gives a castling before it asks for the others. -/
def castT (n : Nat) : Tg := ⟨decide (n = 0), decide (n ≠ 0), false, false, false, false⟩
theorem cast_tags (p : List Int) (tn n : Nat) (htn : tn ≤ 1) (h : CastOk p tn n) : TagOk p tn (castMv tn n) (castT n) := by
  have hn := h.n1
  have hc := cast_is p tn n htn h
  have e1 : pcAt p (castMv tn n).fr = 1 + 6 * (tn : Int) := h.k
  have hk := cast_kind tn htn
  have hps : passM p (castMv tn n) = false := by unfold passM; rw [cast_passM p tn n htn h]; rfl
  have f1 : (castMv tn n).fr = ((cE tn : Nat) : Int) := rfl
  have f2 : (castMv tn n).to = ((cTo tn n : Nat) : Int) := rfl
  rcases (show n = 0 ∨ n = 1 by omega) with rfl | rfl
  · have g2 : ((cTo tn 0 : Nat) : Int) = 6 + 56 * (tn : Int) := by unfold cTo; rw [if_pos rfl]; omega
    have g1 : ((cE tn : Nat) : Int) = 4 + 56 * (tn : Int) := by unfold cE; omega
    refine ⟨?_, ?_, ?_, ?_, ?_, ?_⟩
    · rw [hps, e1, hk]; simp
    · rw [hc, e1, hk, f1, f2, g1, g2]
      rw [Bool.eq_iff_iff]
      simp only [Bool.and_eq_true, Bool.or_eq_true, decide_eq_true_eq, Bool.true_and, true_and]
      omega
    · rw [hc, e1, hk, f1, f2, g1, g2]
      rw [Bool.eq_iff_iff]
      simp only [Bool.and_eq_true, Bool.or_eq_true, decide_eq_true_eq, Bool.true_and, true_and]
      omega
    · intro hh; cases hh
    · intro _
      rw [hc, f1, f2, g1, g2]
      simp
      omega
    · intro hh; cases hh
  · have g2 : ((cTo tn 1 : Nat) : Int) = 2 + 56 * (tn : Int) := by unfold cTo; rw [if_neg (by decide)]; omega
    have g1 : ((cE tn : Nat) : Int) = 4 + 56 * (tn : Int) := by unfold cE; omega
    refine ⟨?_, ?_, ?_, ?_, ?_, ?_⟩
    · rw [hps, e1, hk]; simp
    · rw [hc, e1, hk, f1, f2, g1, g2]
      rw [Bool.eq_iff_iff]
      simp only [Bool.and_eq_true, Bool.or_eq_true, decide_eq_true_eq, Bool.true_and, true_and]
      omega
    · rw [hc, e1, hk, f1, f2, g1, g2]
      rw [Bool.eq_iff_iff]
      simp only [Bool.and_eq_true, Bool.or_eq_true, decide_eq_true_eq, Bool.true_and, true_and]
      omega
    · intro hh; cases hh
    · intro hh; cases hh
    · intro _
      rw [hc, f1, f2, g1, g2]
      simp
      omega
theorem cast_made (p : List Int) (tn : Nat) (hF : Fair p tn) (n : Nat) (h : CastOk p tn n) (j : Nat) (hj : j < 64) :
    (madeB p (castMv tn n)).getD j 0 = if j = cMid tn n then 3 + 6 * (tn : Int) else if j = cCor tn n then 0 else if j = cTo tn n then 1 + 6 * (tn : Int) else if j = cE tn then 0 else p.getD j 0 := by
  have htn := hF.snd.one
  have hl := hF.snd.pos.len
  have hn := h.n1
  rw [made_sq p _ j hj]
  unfold mdD
  rw [cast_is p tn n htn h, if_pos rfl]
  unfold mdC
  rw [if_pos (show (castMv tn n).pr = 0 from rfl)]
  unfold mdB mdA
  have ht : tkIs p (castMv tn n) = false := by
    unfold tkIs
    rw [cast_passM p tn n htn h]
    show (decide (p.getD (cTo tn n) 0 ≠ 0) || false) = false
    rw [h.t]
    rfl
  rw [ht, if_neg (by decide), hF.snd.turn]
  have f1 : (castMv tn n).fr.toNat = cE tn := Int.toNat_natCast _
  have f2 : (castMv tn n).to.toNat = cTo tn n := Int.toNat_natCast _
  have f3 : (cornerM (castMv tn n)).toNat = cCor tn n := by
    unfold cornerM
    show (if ((cTo tn n : Nat) : Int) < ((cE tn : Nat) : Int) then 8 * (((cE tn : Nat) : Int) / 8) else 8 * (((cE tn : Nat) : Int) / 8) + 7).toNat = cCor tn n
    unfold cTo cE cCor
    rcases (show n = 0 ∨ n = 1 by omega) with rfl | rfl
    · rw [if_pos rfl, if_pos rfl, if_neg (by omega)]; omega
    · rw [if_neg (show ¬ (1 : Nat) = 0 by decide), if_neg (show ¬ (1 : Nat) = 0 by decide), if_pos (by omega)]; omega
  have f4 : (((castMv tn n).fr + (castMv tn n).to) / 2).toNat = cMid tn n := by
    show ((((cE tn : Nat) : Int) + ((cTo tn n : Nat) : Int)) / 2).toNat = cMid tn n
    unfold cTo cE cMid
    rcases (show n = 0 ∨ n = 1 by omega) with rfl | rfl
    · rw [if_pos rfl, if_pos rfl]; omega
    · rw [if_neg (by decide), if_neg (by decide)]; omega
  have f5 : pcAt p (castMv tn n).fr = 1 + 6 * (tn : Int) := h.k
  rw [f1, f2, f3, f4, f5, getD_set, getD_set, getD_set, getD_set]
  simp only [List.length_set, hl]
  have hj69 : j < 69 := by omega
  simp only [hj69, and_true, eq_comm]
theorem cast_att (p : List Int) (tn : Nat) (hF : Fair p tn) (n : Nat) (h : CastOk p tn n) : attackedB (madeB p (castMv tn n)) (cTo tn n : Nat) ((1 - tn : Nat) : Int) = attackedB p (cTo tn n : Nat) ((1 - tn : Nat) : Int) := by
  have htn := hF.snd.one
  have hn := h.n1
  have hp := hF.snd.pos
  have hT := hF.snd.turn
  have hg := cast_good p tn n htn h
  have hq := madeB_pos p hp _ hg.ok (by omega) (by omega)
  have hM := cast_made p tn hF n h
  have hto : cTo tn n < 64 := by unfold cTo; split <;> omega
  have hmid : cMid tn n < 64 := by unfold cMid; split <;> omega
  have he : cE tn < 64 := by unfold cE; omega
  have hk := h.k
  have hr := h.r
  have hm := h.m
  have ht := h.t
  have hd : cMid tn n ≠ cE tn ∧ cMid tn n ≠ cTo tn n ∧ cMid tn n ≠ cCor tn n := by unfold cMid cE cTo cCor; split <;> omega
  have hside : ∀ j, j < 64 → ∀ t : Nat, t < 6 → ((madeB p (castMv tn n)).getD j 0 = (t : Int) + 6 * ((1 - tn : Nat) : Int) + 1 ↔ p.getD j 0 = (t : Int) + 6 * ((1 - tn : Nat) : Int) + 1) := by
    intro j hj t ht6
    rw [hM j hj]
    by_cases e1 : j = cMid tn n
    · rw [if_pos e1, e1, hm]; omega
    · rw [if_neg e1]
      by_cases e2 : j = cCor tn n
      · rw [if_pos e2, e2, hr]; omega
      · rw [if_neg e2]
        by_cases e3 : j = cTo tn n
        · rw [if_pos e3, e3, ht]; omega
        · rw [if_neg e3]
          by_cases e4 : j = cE tn
          · rw [if_pos e4, e4, hk]; omega
          · rw [if_neg e4]
  have hsee : ∀ j : Nat, j < 64 → ∀ t : Nat, t < 6 → p.getD j 0 = (t : Int) + 6 * ((1 - tn : Nat) : Int) + 1 → j ≠ cTo tn n → (inLine (j : Int) (cTo tn n : Nat) || inSlant (j : Int) (cTo tn n : Nat)) = true → (seesB (madeB p (castMv tn n)) j (cTo tn n : Nat) = true ↔ seesB p j (cTo tn n : Nat) = true) := by
    intro j hj t ht6 hx hne hl
    have n1 : j ≠ cE tn := by rintro rfl; omega
    have n2 : j ≠ cMid tn n := by rintro rfl; omega
    have n3 : j ≠ cCor tn n := by rintro rfl; omega
    have hc := cast_sees tn (by omega) n (by omega) j hj (by simp only [decide_eq_true n1, decide_eq_true hne, decide_eq_true n2, decide_eq_true n3, Bool.true_and]; exact hl)
    rw [Bool.or_eq_true, Bool.and_eq_true, List.contains_iff_mem, List.contains_iff_mem] at hc
    rcases hc with ⟨c1, c2⟩ | hc
    · constructor
      · intro hh
        exfalso
        unfold seesB at hh
        rw [clear_runL] at hh
        have := hh _ c2
        rw [pcAt_nat, hM _ hmid, if_pos rfl] at this
        omega
      · intro hh
        exfalso
        unfold seesB at hh
        rw [clear_runL] at hh
        have := hh _ c1
        rw [pcAt_nat, hk] at this
        omega
    · have hz : ∀ x : Nat, x < 64 → (x : Int) ∈ backL j (cTo tn n : Nat) → (madeB p (castMv tn n)).getD x 0 = p.getD x 0 := by
        intro x hx64 hxm
        have := List.all_eq_true.1 hc _ hxm
        simp only [Bool.and_eq_true, decide_eq_true_eq] at this
        rw [hM x hx64, if_neg (by omega), if_neg (by omega), if_neg (by omega), if_neg (by omega)]
      constructor
      · exact sees_le _ _ j _ hj hto hne hl fun x hx64 hxm h0 => by rw [← hz x hx64 hxm]; exact h0
      · exact sees_le _ _ j _ hj hto hne hl fun x hx64 hxm h0 => by rw [hz x hx64 hxm]; exact h0
  rw [Bool.eq_iff_iff]
  constructor
  · exact att_le _ _ hq hp (1 - tn) (by omega) _ (fun j hj t ht6 hx => (hside j hj t ht6).1 hx) (fun j hj t ht6 hx hne hl hh => (hsee j hj t ht6 ((hside j hj t ht6).1 hx) hne hl).1 hh)
  · exact att_le _ _ hp hq (1 - tn) (by omega) _ (fun j hj t ht6 hx => (hside j hj t ht6).2 hx) (fun j hj t ht6 hx hne hl hh => (hsee j hj t ht6 hx hne hl).2 hh)
/-- The own king stands at home where there is a right. -/
theorem cast_king (p : List Int) (tn : Nat) (hF : Fair p tn) (h : p.getD (cE tn) 0 = 1 + 6 * (tn : Int)) : kingAt p (tn : Int) = (cE tn : Nat) := by
  have htn := hF.snd.one
  have hc : cnt p (1 + 6 * (tn : Int)) 64 = 1 := by
    rcases (show tn = 0 ∨ tn = 1 by omega) with rfl | rfl
    · exact hF.snd.n1
    · exact hF.snd.n7
  obtain ⟨j, _, h3, h4, h5⟩ := king_both p (tn : Int) hc
  rw [h3, cnt_one p _ 64 hc j (cE tn) h4 (by unfold cE; omega) h5 h]
theorem run_cRun (p : List Int) (tn n : Nat) (htn : tn ≤ 1) (hn : n ≤ 1) : runTo p (castWay (2 * tn + n)) (homeK (2 * tn + n) + castWay (2 * tn + n)) (castLen (2 * tn + n)) = cRun p tn n := by
  rcases (show tn = 0 ∨ tn = 1 by omega) with rfl | rfl <;> rcases (show n = 0 ∨ n = 1 by omega) with rfl | rfl
  · show ((true && decide (p.getD 5 0 = 0)) && decide (p.getD 6 0 = 0)) = (decide (p.getD 5 0 = 0) && (decide (p.getD 6 0 = 0) && (true || decide (p.getD 1 0 = 0))))
    rw [Bool.true_and, Bool.true_or, Bool.and_true]
  · show (((true && decide (p.getD 3 0 = 0)) && decide (p.getD 2 0 = 0)) && decide (p.getD 1 0 = 0)) = (decide (p.getD 3 0 = 0) && (decide (p.getD 2 0 = 0) && (false || decide (p.getD 1 0 = 0))))
    rw [Bool.true_and, Bool.false_or, Bool.and_assoc]
  · show ((true && decide (p.getD 61 0 = 0)) && decide (p.getD 62 0 = 0)) = (decide (p.getD 61 0 = 0) && (decide (p.getD 62 0 = 0) && (true || decide (p.getD 57 0 = 0))))
    rw [Bool.true_and, Bool.true_or, Bool.and_true]
  · show (((true && decide (p.getD 59 0 = 0)) && decide (p.getD 58 0 = 0)) && decide (p.getD 57 0 = 0)) = (decide (p.getD 59 0 = 0) && (decide (p.getD 58 0 = 0) && (false || decide (p.getD 57 0 = 0))))
    rw [Bool.true_and, Bool.false_or, Bool.and_assoc]
theorem cast_keep (p : List Int) (tn : Nat) (hF : Fair p tn) (n : Nat) (h : CastOk p tn n) : keepM p (castMv tn n) = !attackedB p (cTo tn n : Nat) (1 - (tn : Int)) := by
  have htn := hF.snd.one
  have hT := hF.snd.turn
  have hc : (1 : Int) - (tn : Int) = ((1 - tn : Nat) : Int) := by omega
  unfold keepM kingBy
  rw [hT, cast_king p tn hF h.k, if_pos (show (castMv tn n).fr = ((cE tn : Nat) : Int) from rfl), hc]
  show (!attackedB (madeB p (castMv tn n)) ((cTo tn n : Nat) : Int) _) = _
  rw [cast_att p tn hF n h]
/-- The engine's castlings are the legal ones. -/
theorem cast_one (p : List Int) (tn : Nat) (hF : Fair p tn) (n : Nat) (hn : n ≤ 1) : (castOne p (2 * tn + n)).filter (keepM p) = castE p tn n := by
  have htn := hF.snd.one
  have hT := hF.snd.turn
  unfold castOne castE
  rw [run_cRun p tn n htn hn, hF.rig, hT]
  have e1 : homeK (2 * tn + n) = ((cE tn : Nat) : Int) := by unfold homeK cE; omega
  have e2 : homeK (2 * tn + n) + castWay (2 * tn + n) = ((cMid tn n : Nat) : Int) := by
    rw [e1]
    unfold castWay cE cMid
    rcases (show n = 0 ∨ n = 1 by omega) with rfl | rfl
    · rw [if_pos (by omega), if_pos rfl]; omega
    · rw [if_neg (by omega), if_neg (by decide)]; omega
  have e3 : homeK (2 * tn + n) + 2 * castWay (2 * tn + n) = ((cTo tn n : Nat) : Int) := by
    rw [e1]
    unfold castWay cE cTo
    rcases (show n = 0 ∨ n = 1 by omega) with rfl | rfl
    · rw [if_pos (by omega), if_pos rfl]; omega
    · rw [if_neg (by omega), if_neg (by decide)]; omega
  rw [e2, e3, e1]
  cases h1 : hasR (p.getD 65 0) (2 * tn + n) with
  | false => rw [if_pos (Or.inl rfl)]; unfold engC; rw [h1]; rfl
  | true =>
    cases h2 : attackedB p (cE tn : Nat) (1 - (tn : Int)) with
    | true => rw [if_pos (Or.inr rfl)]; unfold engC; rw [h2]; simp
    | false =>
      rw [if_neg (by rintro (e | e) <;> cases e)]
      cases h3 : attackedB p (cMid tn n : Nat) (1 - (tn : Int)) with
      | true =>
        rw [if_neg (by simp)]
        unfold engC
        rw [h3]
        simp
      | false =>
        cases h4 : cRun p tn n with
        | false =>
          rw [if_neg (by simp)]
          unfold engC
          rw [h4]
          simp
        | true =>
          rw [if_pos (by simp)]
          have hk := cast_keep p tn hF n (cast_ok p tn hF n hn h1 h4)
          have hm : (⟨((cE tn : Nat) : Int), ((cTo tn n : Nat) : Int), 0⟩ : Mv) = castMv tn n := rfl
          rw [hm]
          unfold engC
          rw [h1, h2, h3, h4]
          cases h5 : attackedB p (cTo tn n : Nat) (1 - (tn : Int)) with
          | true => rw [h5] at hk; simp [hk]
          | false => rw [h5] at hk; simp [hk]
theorem cast_all (p : List Int) (tn : Nat) (hF : Fair p tn) : (castL p).filter (keepM p) = castE p tn 0 ++ castE p tn 1 := by
  unfold castL
  rw [hF.snd.turn, Int.toNat_natCast]
  show (castTo p tn 0 ++ castOne p (2 * tn + 0) ++ castOne p (2 * tn + 1)).filter (keepM p) = _
  rw [List.filter_append, List.filter_append, cast_one p tn hF 0 (by decide), cast_one p tn hF 1 (by decide)]
  rfl
end Go.Proofs.YtnjdgooljnbebaaGreatDoor
