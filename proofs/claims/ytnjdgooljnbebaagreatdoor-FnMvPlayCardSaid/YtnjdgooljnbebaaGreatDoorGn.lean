/- impl.Moves: the legal moves, in the engine's order. For every fair position with at most 218 legal moves.
impl.find: the legal move with the squares and the promotion of a move, none without one. For every fair position with at most 218 legal moves.
impl.valid of a legal move, and impl.Tags. For every fair position with at most 218 legal moves, and each of these.
FnMvAllTags: the law. For every position. -/
import Derived.Test.YtnjdgooljnbebaaGreatDoorG0
import Derived.Test.YtnjdgooljnbebaaGreatDoorG9
import Derived.Test.YtnjdgooljnbebaaGreatDoorGa
namespace Go.Proofs.YtnjdgooljnbebaaGreatDoor
open Go Go.RowKit
open List renaming getElem_toArray → zA, getElem_cons_zero → zB, getElem_cons_succ → zC, setIfInBounds_toArray → zD, set_cons_zero → zE, set_cons_succ → zF
set_option maxHeartbeats 8000000
set_option linter.unusedSimpArgs false
set_option linter.unusedVariables false
set_option maxRecDepth 100000

/-- The world behind plainMove. -/
def plW (m : Mv) (w : World) : World := w.alloc (.cells (ints (mvL m)) 35)
theorem ya_plain (g : Nat) (t : Int) (m : Mv) (hm : MvOk m) (w : World) (hg : MvAt g t m.fr m.to m.pr w) :
    Calls Tryz.prog 34 #[.pointer (some ⟨g, 0, none⟩)] w fun e w' => e = .returned (.agg (ints (mvL m))) ∧ plW m w = w' := by
  have hg1 : MvAt g t m.fr m.to m.pr (w.alloc (.cells #[.int .i64 0, .int .i64 0, .int .i64 0] 35)) := heap_keep (o' := .cells #[.int .i64 0, .int .i64 0, .int .i64 0] 35) hg
  have f0 := hm.f0
  have f1 := hm.f1
  have t0 := hm.t0
  have t1 := hm.t1
  have p0 := hm.p0
  have p1 := hm.p1
  obtain ⟨a, b, pr⟩ := m
  have f0 : 0 ≤ a := f0
  have f1 : a ≤ 63 := f1
  have t0 : 0 ≤ b := t0
  have t1 : b ≤ 63 := t1
  have p0 : 0 ≤ pr := p0
  have p1 : pr ≤ 6 := p1
  have hwa : wrap64 a = a := by unfold wrap64; omega
  have hwb : wrap64 b = b := by unfold wrap64; omega
  have hwp : wrap64 pr = pr := by unfold wrap64; omega
  have h1 := wp_S1 g _ _ _ _ _ hg1
  have h2 := wp_S2 g _ _ _ _ _ hg1
  have h3 := wp_Promo g _ _ _ _ _ hg1
  clear hg hg1 hm
  go_enter Tryz.func34, Tryz.ntmps34
  go_wp2_with (first
    | (go_at_call 67; refine h1.mono ?_; rintro e1 w1 ⟨rfl, rfl⟩)
    | (go_at_call 68; refine h2.mono ?_; rintro e1 w1 ⟨rfl, rfl⟩)
    | (go_at_call 69; refine h3.mono ?_; rintro e1 w1 ⟨rfl, rfl⟩))
  exact bodyPost_ret (v := .agg (ints (mvL ⟨a, b, pr⟩))) (by simp [mvL, ints, results, Tryz.results34, go_sem, hwa, hwb, hwp]) rfl ⟨rfl, by simp [plW, mvL, ints, hwa, hwb, hwp]⟩
theorem plW_below (m : Mv) (w : World) : Below w.heap.size w (plW m w) := (Below.refl _ _).alloc (Nat.le_refl _) _
theorem full_ok (p : List Int) (tn : Nat) (hF : Fair p tn) (x : Mv × Tg) (hx : x ∈ fullE p tn) : MvOk x.1 := by
  have h1 : x.1 ∈ (fullE p tn).map (·.1) := List.mem_map_of_mem hx
  have h2 := (full_perm p tn hF).subset h1
  have htn := hF.snd.one
  exact pseudoL_ok p (by rw [hF.snd.turn]; omega) (by rw [hF.snd.turn]; omega) x.1 (List.mem_filter.1 h2).1
end Go.Proofs.YtnjdgooljnbebaaGreatDoor
namespace Go.Proofs.YtnjdgooljnbebaaGreatDoor
open Go Go.RowKit
open List renaming getElem_toArray → zA, getElem_cons_zero → zB, getElem_cons_succ → zC, setIfInBounds_toArray → zD, set_cons_zero → zE, set_cons_succ → zF
set_option maxHeartbeats 8000000
set_option linter.unusedSimpArgs false
set_option linter.unusedVariables false
set_option maxRecDepth 100000

theorem three_fields {α : Type} {xs : List α} (h : xs.length = 3) : ∃ y0 y1 y2, xs = [y0, y1, y2] := by
  match xs, h with
  | [y0, y1, y2], _ => exact ⟨y0, y1, y2, rfl⟩
theorem mv_dec (a b : Mv) : (decide (a.fr = b.fr) && (decide (a.to = b.to) && decide (a.pr = b.pr))) = decide (a = b) := by
  obtain ⟨a0, a1, a2⟩ := a
  obtain ⟨b0, b1, b2⟩ := b
  rw [Bool.eq_iff_iff]
  simp
theorem ye_eq (a b : Mv) (w : World) : (Op.equalIn 10000 35 (.agg (ints (mvL a))) (.agg (ints (mvL b)))).run Tryz.prog w = .ok (decide (a = b)) w := by
  have hf : ((Tryz.prog.fieldsOf 35).toList.map fun f => (decide (f.name = "_"), f.type, f.offset)) = [(false, 3, 0), (false, 3, 1), (false, 3, 2)] := by kernel_rfl
  have hu : Tryz.prog.underlying 35 = some (.struct (Tryz.prog.fieldsOf 35)) := by kernel_rfl
  have hint : Tryz.prog.underlying 3 = some (.int .i64) := Tryz.underlying3
  rw [show (10000 : Nat) = 9999 + 1 from rfl, run_equalIn_struct w 9999 _ _ _ hu (by kernel_rfl)]
  generalize (Tryz.prog.fieldsOf 35).toList = fs at hf
  obtain ⟨f0, f1, f2, rfl⟩ := three_fields (xs := fs) (by simpa using congrArg List.length hf)
  simp only [List.map_cons, List.map_nil, List.cons.injEq, Prod.mk.injEq, decide_eq_false_iff_not, and_true] at hf
  obtain ⟨⟨n0, t0, o0⟩, ⟨n1, t1, o1⟩, ⟨n2, t2, o2⟩⟩ := hf
  have hpi := fun (V : World) (x : List Int) (j : Nat) (hj : j < x.length) => part_int (P := Tryz.prog) hint x j hj V
  have hqi := fun (V : World) (a b : Int) => run_equalIn_int (P := Tryz.prog) V 9998 3 .i64 .i64 a b hint
  have la : ∀ m : Mv, (mvL m).length = 3 := fun _ => rfl
  have g0 : ∀ m : Mv, (mvL m).getD 0 0 = m.fr := fun _ => rfl
  have g1 : ∀ m : Mv, (mvL m).getD 1 0 = m.to := fun _ => rfl
  have g2 : ∀ m : Mv, (mvL m).getD 2 0 = m.pr := fun _ => rfl
  rw [← mv_dec a b]
  have e0 : (a.fr == b.fr) = decide (a.fr = b.fr) := by rw [Bool.eq_iff_iff]; simp
  have e1 : (a.to == b.to) = decide (a.to = b.to) := by rw [Bool.eq_iff_iff]; simp
  have e2 : (a.pr == b.pr) = decide (a.pr = b.pr) := by rw [Bool.eq_iff_iff]; simp
  simp only [Op.eqFields, n0, n1, n2, t0, t1, t2, o0, o1, o2, ne_eq, not_false_eq_true, if_true, Sem.run_bind, hpi w (mvL a) 0 (by rw [la]; decide), hpi w (mvL b) 0 (by rw [la]; decide), g0, Result.andThen_ok, hqi, e0]
  cases decide (a.fr = b.fr)
  · simp
  simp only [Bool.not_true, Bool.false_eq_true, if_false, Bool.true_and, Sem.run_bind, hpi w (mvL a) 1 (by rw [la]; decide), hpi w (mvL b) 1 (by rw [la]; decide), g1, Result.andThen_ok, hqi, e1]
  cases decide (a.to = b.to)
  · simp
  simp only [Bool.not_true, Bool.false_eq_true, if_false, Bool.true_and, Sem.run_bind, hpi w (mvL a) 2 (by rw [la]; decide), hpi w (mvL b) 2 (by rw [la]; decide), g2, Result.andThen_ok, hqi, e2]
  cases decide (a.pr = b.pr)
  · simp
  simp
/-- Of all old blocks none but one has changed. -/
def Alone (g : Nat) (w w' : World) : Prop := Below 0 w w' ∧ ∀ j, j < w.heap.size → j ≠ g → w'.heap[j]? = w.heap[j]?
theorem Alone.below {g : Nat} {w w' : World} (h : Alone g w w') {B : Nat} {a : World} (hB : B ≤ g) (hs : B ≤ w.heap.size) (hb : Below B a w) : Below B a w' :=
  hb.trans ⟨h.1.os, h.1.tape, h.1.output, h.1.size, fun k hk => h.2 k (by omega) (by omega)⟩
theorem Alone.trans {g : Nat} {w w1 w2 : World} (h : Alone g w w1) (k : Alone g w1 w2) : Alone g w w2 :=
  ⟨h.1.trans k.1, fun j hj hg => (k.2 j (Nat.lt_of_lt_of_le hj h.1.size) hg).trans (h.2 j hj hg)⟩
theorem Alone.of {g : Nat} {w w' : World} (h : Below w.heap.size w w') : Alone g w w' := ⟨h.mono (Nat.zero_le _), fun j hj _ => h.block j hj⟩
theorem Alone.drew {g : Nat} {w w' : World} (h : Alone g w w') : Alone g w w'.drew := ⟨h.1.drew, h.2⟩
/-- The engine's position. -/
def PosRow (p : List Int) (tn pg bg : Nat) (w : World) : Prop := ∃ v2, w.heap[pg]? = some (.cells (posW bg (casText (p.getD 65 0)) v2 (p.getD 67 0) (p.getD 68 0) tn (p.getD 66 0) (checkedB p tn)) 103 (0, 0))
def FindPost (p : List Int) (tn pg bg kt : Nat) (w : World) (e : Ending) (w' : World) : Prop :=
  Alone pg w w' ∧ PosRow p tn pg bg w' ∧ ((kt = (fullE p tn).length ∧ e = .returned (.pointer none)) ∨ ∃ x h, (fullE p tn)[kt]? = some x ∧ e = .returned (.pointer (some ⟨h, 0, none⟩)) ∧ w.heap.size ≤ h ∧ MvAt h (tgN x.2) x.1.fr x.1.to x.1.pr w')
theorem find_none {p : List Int} {tn pg bg kt : Nat} {w w' : World} (h1 : Alone pg w w') (h2 : PosRow p tn pg bg w') (h3 : kt = (fullE p tn).length) : FindPost p tn pg bg kt w (.returned (.pointer none)) w' := ⟨h1, h2, Or.inl ⟨h3, rfl⟩⟩
theorem find_some {p : List Int} {tn pg bg kt : Nat} {w w' : World} (h1 : Alone pg w w') (h2 : PosRow p tn pg bg w') {x : Mv × Tg} {h : Nat} (h3 : (fullE p tn)[kt]? = some x) (h4 : w.heap.size ≤ h) (h5 : MvAt h (tgN x.2) x.1.fr x.1.to x.1.pr w') : FindPost p tn pg bg kt w (.returned (.pointer (some ⟨h, 0, none⟩))) w' := ⟨h1, h2, Or.inr ⟨x, h, h3, rfl, h4, h5⟩⟩
theorem yb_find (p : List Int) (tn : Nat) (hF : Fair p tn) (h218 : (legalL p).length ≤ 218) (m : Mv) (kt : Nat) (hkt : kt ≤ (fullE p tn).length) (hno : ∀ j x, j < kt → (fullE p tn)[j]? = some x → x.1 ≠ m) (hat : ∀ x, (fullE p tn)[kt]? = some x → x.1 = m) (pg bg : Nat) (w : World)
    (hpg : w.heap[pg]? = some (.cells (posW bg (casText (p.getD 65 0)) (.slice none 0 0) (p.getD 67 0) (p.getD 68 0) tn (p.getD 66 0) (checkedB p tn)) 103 (0, 0))) (hbg : w.heap[bg]? = some (.cells (brd p) 144 (0, 0))) (hne : bg ≠ pg) (hT : Tabs w) (hA : IntSl w 0 .i8 allL) (hP : IntSl w 1 .i8 [2, 3, 4, 5]) :
    Calls Tryz.prog 70 #[.pointer (some ⟨pg, 0, none⟩), .agg (ints (mvL m))] w (FindPost p tn pg bg kt w) := by
  have hpl : pg < w.heap.size := (Array.getElem?_eq_some_iff.1 hpg).1
  have hoks := lay (full_ok p tn hF)
  have hn218 : Shut ((fullE p tn).length ≤ 218) := by show _ ≤ _; rw [full_len p tn hF]; exact h218
  have hBW : Below w.heap.size w (w.alloc (.cells (ints (mvL m)) 35)) := (Below.refl _ _).alloc (Nat.le_refl _) _
  have hva := lay (wv_valid p tn hF h218 pg bg (p.getD 67 0) (p.getD 68 0) (w.alloc (.cells (ints (mvL m)) 35)) ((hBW.block pg hpl).trans hpg) ((hBW.block bg (Array.getElem?_eq_some_iff.1 hbg).1).trans hbg) hne (hT.below hBW (Nat.le_refl _)) (hA.below hBW) (hP.below hBW))
  have hmr : (w.alloc (.cells (ints (mvL m)) 35)).heap[w.heap.size]? = some (.cells (ints (mvL m)) 35 (0, 0)) := heap_alloc_new w _
  have hmr := lay hmr
  have hno := lay hno
  have hat := lay hat
  have hkt := lay hkt
  have hBW := lay hBW
  have hplS := lay hpl
  clear hF h218 hpg hbg hT hA hP hne hpl
  go_enter Tryz.func70, Tryz.ntmps70
  go_wp2_with fail
  change Calls _ _ _ (w.alloc (.cells (ints (mvL m)) 35)) _
  have hWs : w.heap.size < (w.alloc (.cells (ints (mvL m)) 35)).heap.size := by simp
  have hWs := lay hWs
  generalize w.alloc (.cells (ints (mvL m)) 35) = W at *
  refine hva.out.mono ?_
  rintro e2 w2 ⟨u, rfl, hmv, hp2, _, hO, hK⟩
  have hal : Alone pg W w2 := ⟨hK 0 W (Nat.zero_le _) (Nat.zero_le _) (Below.refl _ _), hO⟩
  have hal2 : Shut (Alone pg w w2) := (Alone.of hBW.out).trans hal
  have hmr2 : Shut (w2.heap[w.heap.size]? = some (.cells (ints (mvL m)) 35 (0, 0))) := (hO _ hWs.out (by have := hplS.out; omega)).trans hmr.out
  have hps2 : Shut (PosRow p tn pg bg w2) := hp2
  clear hva hO hK hp2 hal hmr
  rcases hmv with ⟨hn0, rfl⟩ | ⟨g, c, rfl, hls⟩
  · have hn0 := lay hn0
    go_wp2_with fail
    go_loopw [10] (fun i wx => i = .int .i64 0 ∧ wx = w2) (fun i _ => 0)
    case atStart => exact ⟨rfl, rfl⟩
    case round =>
      obtain ⟨rfl, rfl⟩ := hrel
      go_wp2_with fail
      go_ret
      exact find_none hal2.out hps2.out (by have := hkt.out; have := hn0.out; omega)
  · obtain ⟨n, hn⟩ : ∃ n, (fullE p tn).length = n := ⟨_, rfl⟩
    have hns := lay hn
    rw [hn]
    have hlss := lay hls
    clear hn hls
    go_wp2_with fail
    go_loopw [10] (fun i wx => ∃ k : Nat, k ≤ kt ∧ k ≤ n ∧ i = .int .i64 (k : Int) ∧ Alone pg w wx ∧ w2.heap.size ≤ wx.heap.size ∧ wx.rangeAt g 0 (flat (ents (fullE p tn))) ∧ wx.heap[w.heap.size]? = some (.cells (ints (mvL m)) 35 (0, 0)) ∧ PosRow p tn pg bg wx) (fun i _ => ((n : Int) - intOf i).toNat)
    case atStart => exact ⟨0, by omega, by omega, rfl, hal2.out, Nat.le_refl _, hlss.out, hmr2.out, hps2.out⟩
    case round =>
      obtain ⟨k, hkk, hk, rfl, hb3, hb4, hl3, r3, r4⟩ := hrel
      by_cases hlt : k < n
      · obtain ⟨x, hx⟩ : ∃ x, (fullE p tn)[k]? = some x := ⟨_, List.getElem?_eq_getElem (by rw [hns.out]; exact hlt)⟩
        have hle := lay (range_ent hl3 k x hx)
        have hl3 := lay hl3
        have hxs := lay hx
        have hb3 := lay hb3
        have hb4 := lay hb4
        have r3 := lay r3
        have r4 := lay r4
        have hkks := lay hkk
        have hltz : (k : Int) < (n : Int) := by omega
        have hltS := lay hltz
        obtain ⟨cs, hcs⟩ : ∃ cs, entK x = cs := ⟨_, rfl⟩
        have hsz : Shut (cs.size = 11) := by show _ = _; rw [← hcs]; rfl
        have hon : Shut (cs.all (·.oneCell') = true) := by show _ = _; rw [← hcs]; exact mvK_one _ _ _ _
        have hnf : Shut ((Tryz.prog.info? 73).map (·.size) = some cs.size) := by
          show _ = _
          rw [hsz.out]
          kernel_rfl
        rw [hcs] at hle
        have hcss := lay hcs
        clear hcs hx
        go_upto_region 4 with (first
          | ((with_reducible refine at_load_mid cs hle.out Tryz.underlying73 rfl ?_ ?_ ?_); exact hnf.out; rfl)
          | ((with_reducible refine at_new_row cs ?_ ?_ ?_ ?_ ?_ ?_); exact hnf.out; (rw [hsz.out]; kernel_rfl); exact hon.out; rfl; rfl; intro W5 r5 hb5))
        have hmv5 : Shut (MvAt wr.heap.size (tgN x.2) x.1.fr x.1.to x.1.pr W5) := by
          show _ = _
          rw [← hcss.out] at r5
          exact r5
        have hok := hoks.out x (List.mem_iff_getElem?.2 ⟨k, hxs.out⟩)
        have hpm := lay (ya_plain wr.heap.size (tgN x.2) x.1 hok W5.drew hmv5.out)
        have hbP : Shut (Below wr.heap.size wr (plW x.1 W5.drew)) := (hb5.drew).trans ((plW_below x.1 W5.drew).mono hb5.size)
        have hR5 : Shut (W5.rangeAt w.heap.size 0 ((mvL m).map (Value.int .i64))) := range_of_row ((hb5.block _ (Array.getElem?_eq_some_iff.1 r3.out).1).trans r3.out)
        have hRp : Shut ((plW x.1 W5.drew).rangeAt w.heap.size 0 ((mvL m).map (Value.int .i64))) := range_of_row ((hbP.out.block _ (Array.getElem?_eq_some_iff.1 r3.out).1).trans r3.out)
        have hmvP : Shut (MvAt wr.heap.size (tgN x.2) x.1.fr x.1.to x.1.pr (plW x.1 W5.drew)) := ((plW_below x.1 W5.drew).block _ (Array.getElem?_eq_some_iff.1 hmv5.out).1).trans hmv5.out
        have halP : Shut (Alone pg w (plW x.1 W5.drew)) := hb3.out.trans (Alone.of hbP.out)
        have hb4P : Shut (w2.heap.size ≤ (plW x.1 W5.drew).heap.size) := Nat.le_trans hb4.out hbP.out.size
        have hlP : Shut ((plW x.1 W5.drew).rangeAt g 0 (flat (ents (fullE p tn)))) := fun j u hj => (hbP.out.cell (p := ⟨g, 0 + j, none⟩) (World.block_lt_of_cell? wr _ (hl3.out j u hj))).trans (hl3.out j u hj)
        have r3P : Shut ((plW x.1 W5.drew).heap[w.heap.size]? = some (.cells (ints (mvL m)) 35 (0, 0))) := (hbP.out.block _ (Array.getElem?_eq_some_iff.1 r3.out).1).trans r3.out
        have r4P : Shut (PosRow p tn pg bg (plW x.1 W5.drew)) := by
          obtain ⟨v2, h2⟩ := r4.out
          exact ⟨v2, (hbP.out.block _ (Array.getElem?_eq_some_iff.1 h2).1).trans h2⟩
        have hwh : Shut (w.heap.size ≤ wr.heap.size) := hb3.out.1.size
        clear r5 hb5 hsz hon hnf hok hle
        by_cases hkq : k = kt
        · have hEq : ∀ V, (Op.equalIn 10000 35 (.agg (ints (mvL x.1))) (.agg (List.map (Value.int .i64) (mvL m)).toArray)).run Tryz.prog V = .ok true V := fun V => by
            have h1 := ye_eq x.1 m V
            rw [hat.out x (by rw [← hkq]; exact hxs.out)] at h1 ⊢
            rw [decide_eq_true rfl] at h1
            exact h1
          have hkqs := lay hkq
          clear hkq hkk
          refine wp_region_held_drew (S := fun V : World => V.rangeAt w.heap.size 0 ((mvL m).map (Value.int .i64))) (by kernel_rfl) hR5.out (fun hHeld => ?_)
          refine' takeA (i := 1) (v := _) rfl (yieldsIf_load_mid (by rfl) _ _ rfl _ _ rfl _ _ (fun _ h => h) Tryz.underlying35 rfl (by kernel_rfl)) hHeld ?_
          try simp only [zA, zB, zC, Act.put, zD, zE, zF]
          refine wpAnyH_ready (rs := [0]) (by kernel_rfl) (by simp) ?_
          refine AllReadyH.cons rfl (fun K hK => ?_) AllReadyH.nil
          try simp only [zA, zB, zC, Act.put, zD, zE, zF]
          try rw [if_pos (by rfl)]
          go_simp
          refine hpm.out.mono ?_
          rintro e3 w3 ⟨rfl, rfl⟩
          go_wp2_with fail
          refine hK.out _ _ (hRp.out) (fun hHeld => ?_)
          clear hK K
          try simp only [zA, zB, zC, Act.put, zD, zE, zF]
          refine takeA (i := 2) (v := ?va) rfl (Or.inl ⟨by rfl, ?ya⟩) hHeld ?ra
          case ya => (intro wq hSw; clear hSw; go_simp; try with_reducible rfl)
          try simp only [zA, zB, zC, Act.put, zD, zE, zF]
          refine wpAnyH_done (by kernel_rfl) ?_ _
          go_wp2_with fail
          go_ret
          exact find_some halP.out r4P.out (by rw [← hkqs.out]; exact hxs.out) hwh.out hmvP.out
        · have hEq : ∀ V, (Op.equalIn 10000 35 (.agg (ints (mvL x.1))) (.agg (List.map (Value.int .i64) (mvL m)).toArray)).run Tryz.prog V = .ok false V := fun V => by
            have h1 := ye_eq x.1 m V
            rw [decide_eq_false (hno.out k x (by have := hkks.out; omega) hxs.out)] at h1
            exact h1
          have hkqs : Shut (k + 1 ≤ kt) := by show _ ≤ _; have := hkks.out; omega
          have hkb : (k : Int) ≤ 218 := by
            have := hltS.out
            have := hn218.out
            have := hns.out
            omega
          clear hkq hkk
          refine wp_region_held_drew (S := fun V : World => V.rangeAt w.heap.size 0 ((mvL m).map (Value.int .i64))) (by kernel_rfl) hR5.out (fun hHeld => ?_)
          refine' takeA (i := 1) (v := _) rfl (yieldsIf_load_mid (by rfl) _ _ rfl _ _ rfl _ _ (fun _ h => h) Tryz.underlying35 rfl (by kernel_rfl)) hHeld ?_
          try simp only [zA, zB, zC, Act.put, zD, zE, zF]
          refine wpAnyH_ready (rs := [0]) (by kernel_rfl) (by simp) ?_
          refine AllReadyH.cons rfl (fun K hK => ?_) AllReadyH.nil
          try simp only [zA, zB, zC, Act.put, zD, zE, zF]
          try rw [if_pos (by rfl)]
          go_simp
          refine hpm.out.mono ?_
          rintro e3 w3 ⟨rfl, rfl⟩
          go_wp2_with fail
          refine hK.out _ _ (hRp.out) (fun hHeld => ?_)
          clear hK K
          try simp only [zA, zB, zC, Act.put, zD, zE, zF]
          refine takeA (i := 2) (v := ?vb) rfl (Or.inl ⟨by rfl, ?yb⟩) hHeld ?rb
          case yb => (intro wq hSw; clear hSw; go_simp; try with_reducible rfl)
          try simp only [zA, zB, zC, Act.put, zD, zE, zF]
          refine wpAnyH_done (by kernel_rfl) ?_ _
          go_wp2_with fail
          go_roundw
          case rel => exact ⟨k + 1, hkqs.out, by (have := hltS.out; omega), by go_num, halP.out, hb4P.out, hlP.out, r3P.out, r4P.out⟩
          case measure => (have := hltS.out; simp [intOf]; omega)
      · have hkn : k = n := by omega
        subst hkn
        go_wp2_with fail
        go_ret
        exact find_none hb3 r4 (by have := hkt.out; have := hns.out; omega)
end Go.Proofs.YtnjdgooljnbebaaGreatDoor
namespace Go.Proofs.YtnjdgooljnbebaaGreatDoor
open Go Go.RowKit
open List renaming getElem_toArray → zA, getElem_cons_zero → zB, getElem_cons_succ → zC, setIfInBounds_toArray → zD, set_cons_zero → zE, set_cons_succ → zF
set_option maxHeartbeats 8000000
set_option linter.unusedSimpArgs false
set_option linter.unusedVariables false
set_option maxRecDepth 100000

def ValidPost (p : List Int) (tn pg bg kt : Nat) (w : World) (e : Ending) (w' : World) : Prop :=
  Alone pg w w' ∧ PosRow p tn pg bg w' ∧ ∃ x h, (fullE p tn)[kt]? = some x ∧ e = .returned (.pointer (some ⟨h, 0, none⟩)) ∧ w.heap.size ≤ h ∧ MvAt h (tgN x.2) x.1.fr x.1.to x.1.pr w'
theorem yc_valid (p : List Int) (tn : Nat) (hF : Fair p tn) (h218 : (legalL p).length ≤ 218) (m : Mv) (kt : Nat) (hkt : kt < (fullE p tn).length) (hno : ∀ j x, j < kt → (fullE p tn)[j]? = some x → x.1 ≠ m) (hat : ∀ x, (fullE p tn)[kt]? = some x → x.1 = m) (pg bg : Nat) (w : World)
    (hpg : w.heap[pg]? = some (.cells (posW bg (casText (p.getD 65 0)) (.slice none 0 0) (p.getD 67 0) (p.getD 68 0) tn (p.getD 66 0) (checkedB p tn)) 103 (0, 0))) (hbg : w.heap[bg]? = some (.cells (brd p) 144 (0, 0))) (hne : bg ≠ pg) (hT : Tabs w) (hA : IntSl w 0 .i8 allL) (hP : IntSl w 1 .i8 [2, 3, 4, 5]) :
    Calls Tryz.prog 38 #[.pointer (some ⟨pg, 0, none⟩), .agg (ints (mvL m))] w (ValidPost p tn pg bg kt w) := by
  have hpl : pg < w.heap.size := (Array.getElem?_eq_some_iff.1 hpg).1
  have hBW : Below w.heap.size w (w.alloc (.cells (ints (mvL m)) 35)) := (Below.refl _ _).alloc (Nat.le_refl _) _
  have hfi := lay (yb_find p tn hF h218 m kt (Nat.le_of_lt hkt) hno hat pg bg (w.alloc (.cells (ints (mvL m)) 35)) ((hBW.block pg hpl).trans hpg) ((hBW.block bg (Array.getElem?_eq_some_iff.1 hbg).1).trans hbg) hne (hT.below hBW (Nat.le_refl _)) (hA.below hBW) (hP.below hBW))
  have hmr : (w.alloc (.cells (ints (mvL m)) 35)).heap[w.heap.size]? = some (.cells (ints (mvL m)) 35 (0, 0)) := heap_alloc_new w _
  have hkts := lay hkt
  have hBs := lay hBW
  have hlm : (mvL m).length = 3 := rfl
  clear hF h218 hno hat hpg hbg hne hT hA hP hBW hpl hkt
  go_enter Tryz.func38, Tryz.ntmps38
  go_wp2_with ((with_reducible refine at_load_row hmr Tryz.underlying35 rfl ?_ ?_ ?_); (rw [ints_size, hlm]; kernel_rfl); rfl)
  change Calls _ _ _ (w.alloc (.cells (ints (mvL m)) 35)) _
  generalize w.alloc (.cells (ints (mvL m)) 35) = W at *
  refine hfi.out.mono ?_
  rintro e1 w1 ⟨h1, h2, ⟨h3, rfl⟩ | ⟨x, h, h4, rfl, h5, h6⟩⟩
  · exfalso
    have := hkts.out
    omega
  have hp : ValidPost p tn pg bg kt w (.returned (.pointer (some ⟨h, 0, none⟩))) w1 := ⟨(Alone.of hBs.out).trans h1, h2, x, h, h4, rfl, Nat.le_trans hBs.out.size h5, h6⟩
  have hp := lay hp
  clear h1 h2 h4 h5 h6
  go_wp2_with fail
  go_ret
  exact hp.out
theorem full_first (p : List Int) (tn : Nat) (hF : Fair p tn) (kt : Nat) (x : Mv × Tg) (hx : (fullE p tn)[kt]? = some x) : ∀ j y, j < kt → (fullE p tn)[j]? = some y → y.1 ≠ x.1 := by
  intro j y hj hy e
  have hn := full_nodup p tn hF
  have h1 : ((fullE p tn).map (·.1))[j]? = some y.1 := by rw [List.getElem?_map, hy]; rfl
  have h2 : ((fullE p tn).map (·.1))[kt]? = some x.1 := by rw [List.getElem?_map, hx]; rfl
  have hjl := (List.getElem?_eq_some_iff.1 h1).1
  have := (List.getElem?_inj hjl hn).1 (h1.trans ((congrArg some e).trans h2.symm))
  omega
end Go.Proofs.YtnjdgooljnbebaaGreatDoor
namespace Go.Proofs.YtnjdgooljnbebaaGreatDoor
open Go Go.RowKit
open List renaming getElem_toArray → zA, getElem_cons_zero → zB, getElem_cons_succ → zC, setIfInBounds_toArray → zD, set_cons_zero → zE, set_cons_succ → zF
set_option maxHeartbeats 8000000
set_option linter.unusedSimpArgs false
set_option linter.unusedVariables false
set_option maxRecDepth 100000

theorem askedB_lg {p : List Int} (h : askedB p = true) : (legalL p).length ≤ 218 := by
  rw [askedB, Bool.and_eq_true, Bool.and_eq_true, Bool.and_eq_true] at h; exact of_decide_eq_true h.2.2.2
end Go.Proofs.YtnjdgooljnbebaaGreatDoor
