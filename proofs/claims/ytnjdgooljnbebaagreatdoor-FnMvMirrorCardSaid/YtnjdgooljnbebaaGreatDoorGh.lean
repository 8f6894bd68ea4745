/- spec.Made: the position behind a move. For every position of pieces from 0 to 12, and moves of squares.
The plain law of moves: the position behind a move of squares is one of pieces; the moves of spec.Pseudo are moves of squares. For every position of pieces from 0 to 12.
spec.Legal: the legal moves, in some order. For every position of pieces from 0 to 12 with a king of the side to move. (Printed by gen_lg.py.)
laws.mvRight: whether the statements ask of a position. For every position. -/
import Derived.Test.YtnjdgooljnbebaaGreatDoorG0
import Derived.Deep.DeepCutAuto
import Derived.Test.YtnjdgooljnbebaaGreatDoorGc
import Derived.Test.YtnjdgooljnbebaaGreatDoorGa
import Derived.Test.YtnjdgooljnbebaaGreatDoorGd
namespace Go.Proofs.YtnjdgooljnbebaaGreatDoor
open Go Go.RowKit
open List renaming getElem_toArray → zA, getElem_cons_zero → zB, getElem_cons_succ → zC, setIfInBounds_toArray → zD, set_cons_zero → zE, set_cons_succ → zF
set_option maxHeartbeats 4000000
set_option linter.unusedSimpArgs false
set_option linter.unusedVariables false
set_option maxRecDepth 100000

def castM (p : List Int) (m : Mv) : Bool := decide (kindOf (pcAt p m.fr) = 1) && (decide (m.to = m.fr + 2) || decide (m.to = m.fr - 2))
def dblM (p : List Int) (m : Mv) : Bool := decide (kindOf (pcAt p m.fr) = 6) && (decide (m.to = m.fr + 16) || decide (m.to = m.fr - 16))
def cornerM (m : Mv) : Int := if m.to < m.fr then 8 * (m.fr / 8) else 8 * (m.fr / 8) + 7
def mdA (p : List Int) (m : Mv) : List Int := if tkIs p m = true then p.set (tkSq p m).toNat 0 else p
def mdB (p : List Int) (m : Mv) : List Int := ((mdA p m).set m.fr.toNat 0).set m.to.toNat (pcAt p m.fr)
def mdC (p : List Int) (m : Mv) : List Int := if m.pr = 0 then mdB p m else (mdB p m).set m.to.toNat (m.pr + 6 * p.getD 64 0)
def mdD (p : List Int) (m : Mv) : List Int := if castM p m = true then ((mdC p m).set (cornerM m).toNat 0).set ((m.fr + m.to) / 2).toNat (3 + 6 * p.getD 64 0) else mdC p m
def mdE (p : List Int) (m : Mv) : List Int := ((mdD p m).set 65 (leftB (p.getD 65 0) m)).set 66 (-1)
def mdF (p : List Int) (m : Mv) : List Int := if dblM p m = true then (mdE p m).set 66 ((m.fr + m.to) / 2) else mdE p m
def mdG (p : List Int) (m : Mv) : List Int := (mdF p m).set 67 (p.getD 67 0 + 1)
def mdH (p : List Int) (m : Mv) : List Int := if (tkIs p m || decide (kindOf (pcAt p m.fr) = 6)) = true then (mdG p m).set 67 0 else mdG p m
/-- The position behind a move. -/
def madeB (p : List Int) (m : Mv) : List Int := ((mdH p m).set 68 (p.getD 68 0 + p.getD 64 0)).set 64 (1 - p.getD 64 0)

structure MdW (p : List Int) (m : Mv) (L : List Int) (b g : Nat) (w wx : World) : Prop where
 pos : PosAt p b wx
 mv : wx.heap[b + 1]? = some (.cells (ints (mvL m)) 35 (0, 0))
 res : wx.heap[b + 1 + 1]? = some (.cells (ints (List.replicate 69 0)) 24 (0, 0))
 out : PosAt L g wx
 bel : Below b w wx
 ap : b + 1 + 1 < g
theorem MdW.set {p : List Int} {m : Mv} {L : List Int} {b g : Nat} {w wx : World} (h : MdW p m L b g w wx) (i : Nat) (z : Int) : MdW p m (L.set i z) b g w (wx.setCell ⟨g, i, none⟩ (.int .i64 z)) := by
 obtain ⟨h1, h2, h3, h4, h5, h6⟩ := h
 exact ⟨(heap_setCell_other wx ⟨g, i, none⟩ b _ (by show b ≠ g; omega)).trans h1, (heap_setCell_other wx ⟨g, i, none⟩ (b + 1) _ (by show b + 1 ≠ g; omega)).trans h2, (heap_setCell_other wx ⟨g, i, none⟩ (b + 1 + 1) _ (by show b + 1 + 1 ≠ g; omega)).trans h3, row_set h4 i z, h5.setCell (p := ⟨g, i, none⟩) (by show b ≤ g; omega) _, h6⟩
theorem MdW.drewN {p : List Int} {m : Mv} {L : List Int} {b g : Nat} {w wx : World} (h : MdW p m L b g w wx) (n : Nat) : MdW p m L b g w (wx.drewN n) := ⟨h.pos, h.mv, h.res, h.out, below_drewN h.bel n, h.ap⟩
theorem MdW.next {p : List Int} {m : Mv} {L : List Int} {b g : Nat} {w wx wy : World} (h : MdW p m L b g w wx) (hb : Below wx.heap.size wx wy) : MdW p m L b g w wy :=
 ⟨h.pos.below hb, (hb.block _ (Array.getElem?_eq_some_iff.1 h.mv).1).trans h.mv, (hb.block _ (Array.getElem?_eq_some_iff.1 h.res).1).trans h.res, h.out.below hb, h.bel.trans (hb.mono (by have := h.out.lt; have := h.ap; omega)), h.ap⟩
theorem MdW.fr {p : List Int} {m : Mv} {L : List Int} {b g : Nat} {w wx : World} (h : MdW p m L b g w wx) : wx.cell? ⟨b + 1, 0, none⟩ = some (.int .i64 m.fr) := row_cell h.mv 0 (by simp [mvL])
theorem MdW.to {p : List Int} {m : Mv} {L : List Int} {b g : Nat} {w wx : World} (h : MdW p m L b g w wx) : wx.cell? ⟨b + 1, 1, none⟩ = some (.int .i64 m.to) := row_cell h.mv 1 (by simp [mvL])
theorem MdW.pr {p : List Int} {m : Mv} {L : List Int} {b g : Nat} {w wx : World} (h : MdW p m L b g w wx) : wx.cell? ⟨b + 1, 2, none⟩ = some (.int .i64 m.pr) := row_cell h.mv 2 (by simp [mvL])
theorem mdA_len (p : List Int) (m : Mv) (hl : p.length = 69) : (mdA p m).length = 69 := by unfold mdA; split <;> simp [hl]
theorem mdB_len (p : List Int) (m : Mv) (hl : p.length = 69) : (mdB p m).length = 69 := by simp [mdB, mdA_len p m hl]
theorem mdC_len (p : List Int) (m : Mv) (hl : p.length = 69) : (mdC p m).length = 69 := by unfold mdC; split <;> simp [mdB_len p m hl]
theorem mdD_len (p : List Int) (m : Mv) (hl : p.length = 69) : (mdD p m).length = 69 := by unfold mdD; split <;> simp [mdC_len p m hl]
theorem mdE_len (p : List Int) (m : Mv) (hl : p.length = 69) : (mdE p m).length = 69 := by simp [mdE, mdD_len p m hl]
theorem mdF_len (p : List Int) (m : Mv) (hl : p.length = 69) : (mdF p m).length = 69 := by unfold mdF; split <;> simp [mdE_len p m hl]
theorem mdG_len (p : List Int) (m : Mv) (hl : p.length = 69) : (mdG p m).length = 69 := by simp [mdG, mdF_len p m hl]
theorem mdH_len (p : List Int) (m : Mv) (hl : p.length = 69) : (mdH p m).length = 69 := by unfold mdH; split <;> simp [mdG_len p m hl]
theorem madeB_len (p : List Int) (m : Mv) (hl : p.length = 69) : (madeB p m).length = 69 := by simp [madeB, mdH_len p m hl]
theorem tk_range (p : List Int) (m : Mv) (hm : MvOk m) (h : tkIs p m = true) : 0 ≤ tkSq p m ∧ tkSq p m ≤ 63 := by
 obtain ⟨f0, f1, t0, t1, -, -⟩ := hm
 unfold tkSq
 by_cases c : pcAt p m.to ≠ 0
 ·rw [if_pos c]; omega
 ·rw [if_neg c]
  have hp : passing p m = true := by
   unfold tkIs at h
   rw [decide_eq_false c] at h
   simpa using h
  rw [if_pos hp]
  unfold atSq
  rw [if_neg (by omega)]
  omega

theorem me_made (p : List Int) (hp : Pos p) (m : Mv) (hm : MvOk m) (ht0 : 0 ≤ p.getD 64 0) (ht1 : p.getD 64 0 ≤ 1) (hc0 : 0 ≤ p.getD 65 0) (hc1 : p.getD 65 0 ≤ 15) (hh0 : 0 ≤ p.getD 67 0) (hh1 : p.getD 67 0 ≤ 1000000) (hf0 : 0 ≤ p.getD 68 0) (hf1 : p.getD 68 0 ≤ 1000000) (hM67 : (mdF p m).getD 67 0 = p.getD 67 0) (hM68 : (mdH p m).getD 68 0 = p.getD 68 0) (w : World) :
  Calls Tryz.prog 23 #[.agg (ints p), .agg (ints (mvL m))] w fun e w' => e = .returned (.agg (ints (madeB p m))) ∧ Below w.heap.size w w' := by
 have hrow : PosAt p w.heap.size (((w.alloc (.cells (ints p) 24)).alloc (.cells (ints (mvL m)) 35)).alloc (.cells (ints (List.replicate 69 0)) 24)) := heap_keep ((heap_alloc_old _ _ (by simp)).trans (heap_alloc_new w _))
 have hmv : (((w.alloc (.cells (ints p) 24)).alloc (.cells (ints (mvL m)) 35)).alloc (.cells (ints (List.replicate 69 0)) 24)).heap[w.heap.size + 1]? = some (.cells (ints (mvL m)) 35 (0, 0)) := heap_keep (heap_at _ _ _ (by simp))
 have hres : (((w.alloc (.cells (ints p) 24)).alloc (.cells (ints (mvL m)) 35)).alloc (.cells (ints (List.replicate 69 0)) 24)).heap[w.heap.size + 1 + 1]? = some (.cells (ints (List.replicate 69 0)) 24 (0, 0)) := heap_at _ _ _ (by simp)
 have hBW : Below w.heap.size w (((w.alloc (.cells (ints p) 24)).alloc (.cells (ints (mvL m)) 35)).alloc (.cells (ints (List.replicate 69 0)) 24)) := (((Below.refl _ _).alloc (Nat.le_refl _) _).alloc (by simp) _).alloc (by simp; omega) _
 obtain ⟨f0, f1, t0, t1, p0, p1⟩ := hm
 have hlp := hp.len
 have hT0 : p.getD 64 0 = p.getD 64 0 := rfl
 have hC0 : p.getD 65 0 = p.getD 65 0 := rfl
 generalize hT1 : p.getD 64 0 = tn at *
 generalize hC1 : p.getD 65 0 = ca at *
 generalize hH1 : p.getD 67 0 = hn at *
 generalize hF1 : p.getD 68 0 = fn at *
 have hT := show Shut _ from hT1
 have hC := show Shut _ from hC1
 have hH := show Shut _ from hH1
 have hF := show Shut _ from hF1
 have hM67s := show Shut _ from hM67
 have hM68s := show Shut _ from hM68
 clear hT0 hC0 hT1 hC1 hH1 hF1 hM67 hM68
 go_enter Tryz.func23, Tryz.ntmps23
 go_upto_region 1 with (fail)
 change Code.wp _ _ _ _ (((w.alloc (.cells (ints p) 24)).alloc (.cells (ints (mvL m)) 35)).alloc (.cells (ints (List.replicate 69 0)) 24))
 generalize ((w.alloc (.cells (ints p) 24)).alloc (.cells (ints (mvL m)) 35)).alloc (.cells (ints (List.replicate 69 0)) 24) = W at *
 have cf : W.cell? ⟨w.heap.size + 1, 0, none⟩ = some (.int .i64 m.fr) := row_cell hmv 0 (by simp [mvL])
 have co : W.cell? ⟨w.heap.size + 1, 1, none⟩ = some (.int .i64 m.to) := row_cell hmv 1 (by simp [mvL])
 have cp : W.cell? ⟨w.heap.size + 1, 2, none⟩ = some (.int .i64 m.pr) := row_cell hmv 2 (by simp [mvL])
 have cx : W.cell? ⟨w.heap.size, m.fr.toNat, none⟩ = some (.int .i64 (pcAt p m.fr)) := row_cell hrow _ (by rw [hp.len]; omega)
 have x0 : 0 ≤ pcAt p m.fr := hp.lo _ (by omega)
 have x1 : pcAt p m.fr ≤ 12 := hp.hi _ (by omega)
 have hss := show Shut _ from And.intro hrow (And.intro hmv (And.intro hres hBW))
 clear hmv hres hBW
 have hrowU : W.heap[w.heap.size]? = some (.cells (ints p) 24 (0, 0)) := hrow
 clear hrow
 go_upto_region 2 with (fail)
 go_upto_region 3 with (first
  | ((with_reducible refine at_load_row hrowU Tryz.underlying24 rfl ?_ ?_ ?_); (rw [ints_size, hlp]; kernel_rfl); rfl)
  | (go_at_call 45; refine (tk_takes p hp m ⟨f0, f1, t0, t1, p0, p1⟩ _).mono ?_; rintro e1 w1 ⟨rfl, hb1⟩))
 have hrow1 := hss.out.1.below hb1
 have hmv1 := (hb1.block _ (Array.getElem?_eq_some_iff.1 hss.out.2.1).1).trans hss.out.2.1
 have hres1 := (hb1.block _ (Array.getElem?_eq_some_iff.1 hss.out.2.2.1).1).trans hss.out.2.2.1
 have hB1 := hss.out.2.2.2.trans (hb1.mono hss.out.2.2.2.size)
 have hg2 := (Array.getElem?_eq_some_iff.1 hres1).1
 have hrow1U : w1.heap[w.heap.size]? = some (.cells (ints p) 24 (0, 0)) := hrow1
 clear hb1 hss cf co cp cx hrowU
 go_upto_if 22 with (first
  | ((with_reducible refine at_load_row hrow1U Tryz.underlying24 rfl ?_ ?_ ?_); (rw [ints_size, hlp]; kernel_rfl); rfl)
  | ((with_reducible refine at_new_row (ints p) ?_ ?_ ?_ ?_ ?_ ?_); (rw [ints_size, hlp]; kernel_rfl); (rw [ints_size, hlp]; kernel_rfl); exact ints_one _; rfl; rfl; intro W2 rO hC2))
 have hW : MdW p m p w.heap.size w1.heap.size w W2 := ⟨hrow1.below hC2, (hC2.block _ (Array.getElem?_eq_some_iff.1 hmv1).1).trans hmv1, (hC2.block _ (Array.getElem?_eq_some_iff.1 hres1).1).trans hres1, rO, hB1.trans (hC2.mono hB1.size), hg2⟩
 clear hrow1U hrow1 hmv1 hres1 hB1 rO hC2 hg2
 generalize w1.heap.size = g at *
 have h64 := show Shut (∀ (L : List Int) (wx : World), MdW p m L w.heap.size g w wx → wx.cell? ⟨w.heap.size, 64, none⟩ = some (.int .i64 tn)) from fun L wx h => (h.pos.cell 64 (by omega)).trans (by rw [hT.out])
 have h65 := show Shut (∀ (L : List Int) (wx : World), MdW p m L w.heap.size g w wx → wx.cell? ⟨w.heap.size, 65, none⟩ = some (.int .i64 ca)) from fun L wx h => (h.pos.cell 65 (by omega)).trans (by rw [hC.out])
 go_cut [6, 7] (fun s6 s7 wx => s6 = .int .i64 (tkSq p m) ∧ s7 = .bool (tkIs p m) ∧ MdW p m (mdA p m) w.heap.size g w wx)
 case first =>
  cases hI : tkIs p m with
  | true =>
   obtain ⟨k0, k1⟩ := tk_range p m ⟨f0, f1, t0, t1, p0, p1⟩ hI
   have hA : mdA p m = p.set (tkSq p m).toNat 0 := if_pos hI
   have hAs := show Shut _ from hA
   have hc := hW.out.cell (tkSq p m).toNat (by omega)
   have hf := frozen_of_row W2 g (tkSq p m).toNat _ _ hW.out
   have hIs := show Shut _ from hI
   clear hA hI
   generalize tkSq p m = tk at *
   go_wp2_with fail
   go_meet
   exact ⟨rfl, by rw [hIs.out], by rw [hAs.out]; exact hW.set _ 0⟩
  | false =>
   have hA : mdA p m = p := if_neg (by rw [hI]; decide)
   have hAs := show Shut _ from hA
   have hIs := show Shut _ from hI
   clear hA hI
   go_wp2_with fail
   go_meet
   exact ⟨rfl, by rw [hIs.out], by rw [hAs.out]; exact hW⟩
 case rest =>
  obtain ⟨rfl, rfl, hWa⟩ := hcut
  clear hW
  have hla := mdA_len p m hlp
  have cf := hWa.fr
  have co := hWa.to
  have cp := hWa.pr
  have hc := hWa.out.cell m.fr.toNat (by omega)
  have hf := frozen_of_row wc g m.fr.toNat _ _ hWa.out
  go_upto_region 7 with (fail)
  have hWb := hWa.set m.fr.toNat 0
  clear hWa hc hf cf co cp
  generalize wc.setCell ⟨g, m.fr.toNat, none⟩ (.int .i64 0) = w2 at *
  have cf := hWb.fr
  have co := hWb.to
  have cp := hWb.pr
  have hc := hWb.out.cell m.to.toNat (by rw [List.length_set]; omega)
  have hf := frozen_of_row w2 g m.to.toNat _ _ hWb.out
  go_upto_region 8 with (fail)
  have hWc : MdW p m (mdB p m) w.heap.size g w _ := hWb.set m.to.toNat (pcAt p m.fr)
  clear hWb hc hf cf co cp hla
  generalize w2.setCell ⟨g, m.to.toNat, none⟩ (.int .i64 (pcAt p m.fr)) = w3 at *
  have cf := hWc.fr
  have co := hWc.to
  have cp := hWc.pr
  go_upto_if 37 with (fail)
  go_cut [] (fun wx => MdW p m (mdC p m) w.heap.size g w wx)
  case first =>
   by_cases hpr : m.pr = 0
   ·have hA : mdC p m = mdB p m := if_pos hpr
    have hAs := show Shut _ from hA
    have hpb : (m.pr != 0) = false := by simpa using hpr
    clear hA hpr
    go_wp2_with fail
    go_meet
    rw [hAs.out]
    exact hWc
   ·have hA : mdC p m = (mdB p m).set m.to.toNat (m.pr + 6 * tn) := by rw [← hT.out]; exact if_neg hpr
    have hAs := show Shut _ from hA
    have hpb : (m.pr != 0) = true := by simpa using hpr
    have hlb := mdB_len p m hlp
    have hWs := hWc
    have tt : m.to < 64 := by omega
    clear hA hpr
    go_wp2_with fail

    have hWd : MdW p m (mdB p m) w.heap.size g w w3.drew := ⟨hWc.pos, hWc.mv, hWc.res, hWc.out, hWc.bel.drew, hWc.ap⟩
    refine wp_region_held_drew (S := fun w' : World => ∃ L, MdW p m L w.heap.size g w w') (by kernel_rfl) ⟨_, hWd⟩ (fun hHeld => ?_)
    refine takeC (i := 0) rfl hHeld ?_
    try simp only [zA, zB, zC, Act.put, zD, zE, zF]
    refine takeA (i := 1) (v := ?vm9_2_1) rfl (Or.inl ⟨by rfl, ?ym9_2_1⟩) hHeld ?rm9_2_1
    case ym9_2_1 => (intro wq hSw; obtain ⟨L, hL⟩ := hSw; have hq := hL.to; clear hL; go_simp; try with_reducible rfl)
    try simp only [zA, zB, zC, Act.put, zD, zE, zF]
    refine takeC (i := 2) rfl hHeld ?_
    try simp only [zA, zB, zC, Act.put, zD, zE, zF]
    refine takeA (i := 3) (v := ?vm9_4_3) rfl (Or.inl ⟨by rfl, ?ym9_4_3⟩) hHeld ?rm9_4_3
    case ym9_4_3 => (intro wq hSw; obtain ⟨L, hL⟩ := hSw; have hq := hL.pr; clear hL; go_simp; try with_reducible rfl)
    try simp only [zA, zB, zC, Act.put, zD, zE, zF]
    refine takeC (i := 4) rfl hHeld ?_
    try simp only [zA, zB, zC, Act.put, zD, zE, zF]
    refine takeA (i := 5) (v := ?vm9_6_5) rfl (Or.inl ⟨by rfl, ?ym9_6_5⟩) hHeld ?rm9_6_5
    case ym9_6_5 => (intro wq hSw; obtain ⟨L, hL⟩ := hSw; have hq := h64.out _ _ hL; clear hL; go_simp; try with_reducible rfl)
    try simp only [zA, zB, zC, Act.put, zD, zE, zF]
    refine takeC (i := 7) rfl hHeld ?_
    try simp only [zA, zB, zC, Act.put, zD, zE, zF]
    refine wpAnyH_ready (rs := [6]) (by kernel_rfl) (by simp) ?_
    refine AllReadyH.cons rfl (fun K hK => ?_) AllReadyH.nil
    try simp only [zA, zB, zC, Act.put, zD, zE, zF]
    try rw [if_pos (by rfl)]
    go_simp
    refine (po_of _ _ _ p0 p1 ht0 ht1).mono ?_
    rintro e1 w4 ⟨rfl, rfl⟩
    go_wp2_with fail
    refine hK.out _ _ (hHeld) (fun hHeld => ?_)
    clear hK K
    try simp only [zA, zB, zC, Act.put, zD, zE, zF]
    refine takeC (i := 8) rfl hHeld ?_
    try simp only [zA, zB, zC, Act.put, zD, zE, zF]
    refine wpAnyH_ready (rs := [9]) (by kernel_rfl) (by simp) ?_
    refine AllReadyH.cons rfl (fun K hK => ?_) AllReadyH.nil
    try simp only [zA, zB, zC, Act.put, zD, zE, zF]
    rw [if_pos (by rfl)]
    refine wp_store_one 3 _ _ rfl g m.to.toNat (.int .i64 (m.pr + 6 * tn)) (by rfl) (by rfl) rfl rfl 24 _ hWd.out (by rw [ints_size]; first | omega | (rw [List.length_set]; omega)) (by kernel_rfl) ?_
    have hWn := hWd.set m.to.toNat (m.pr + 6 * tn)
    rw [← hAs.out] at hWn
    clear hWd hWc hHeld
    generalize w3.drew.setCell ⟨g, m.to.toNat, none⟩ (.int .i64 (m.pr + 6 * tn)) = w5 at *
    refine hK.out _ _ ⟨_, hWn⟩ (fun _ => ?_)
    clear hK K
    try simp only [zA, zB, zC, Act.put, zD, zE, zF]
    refine wpAnyH_done (by kernel_rfl) ?_ _
    go_wp2_with fail
    go_meet
    exact hWn
  case rest =>
   have hW4 := hcut
   clear hWc cf co cp
   have cf := hW4.fr
   have co := hW4.to
   go_upto_region 10 with (fail)
   go_cut [65] (fun s65 wx => s65 = .bool (castM p m) ∧ MdW p m (mdC p m) w.heap.size g w wx)
   case first =>
    by_cases k1 : kindOf (pcAt p m.fr) = 1
    ·by_cases e1 : m.to = m.fr + 2
     ·have hM : castM p m = true := by simp [castM, k1, e1]
      have hMs := show Shut _ from hM
      have k1b : (kindOf (pcAt p m.fr) == 1) = true := by simpa using k1
      have e1b : (m.to == m.fr + 2) = true := by simpa using e1
      have ee := show Shut _ from And.intro k1 e1
      clear hM k1 e1
      go_wp2_with (first | (go_at_call 47; refine (po_kindOf _ _ (by omega)).mono ?_; rintro e1 w1 ⟨rfl, rfl⟩))
      go_meet
      exact ⟨by rw [hMs.out], hW4⟩
     ·have e1b : (m.to == m.fr + 2) = false := by simpa using e1
      have k1b : (kindOf (pcAt p m.fr) == 1) = true := by simpa using k1
      by_cases e2 : m.to = m.fr - 2
      ·have hM : castM p m = true := by simp [castM, k1, e2]
       have hMs := show Shut _ from hM
       have e2b : (m.to == m.fr - 2) = true := by simpa using e2
       have ee := show Shut _ from And.intro k1 e2
       clear hM k1 e1 e2
       go_wp2_with (first | (go_at_call 47; refine (po_kindOf _ _ (by omega)).mono ?_; rintro e1 w1 ⟨rfl, rfl⟩))
       go_meet
       exact ⟨by rw [hMs.out], hW4⟩
      ·have hM : castM p m = false := by simp [castM, e1, e2]
       have hMs := show Shut _ from hM
       have e2b : (m.to == m.fr - 2) = false := by simpa using e2
       clear hM k1 e1 e2
       go_wp2_with (first | (go_at_call 47; refine (po_kindOf _ _ (by omega)).mono ?_; rintro e1 w1 ⟨rfl, rfl⟩))
       go_meet
       exact ⟨by rw [hMs.out], hW4⟩
    ·have hM : castM p m = false := by simp [castM, k1]
     have hMs := show Shut _ from hM
     have k1b : (kindOf (pcAt p m.fr) == 1) = false := by simpa using k1
     clear hM k1
     go_wp2_with (first | (go_at_call 47; refine (po_kindOf _ _ (by omega)).mono ?_; rintro e1 w1 ⟨rfl, rfl⟩))
     go_meet
     exact ⟨by rw [hMs.out], hW4⟩
   case rest =>
    obtain ⟨rfl, hW5⟩ := hcut
    clear hW4 cf co
    go_upto_if 65 with (fail)
    go_cut [] (fun wx => MdW p m (mdD p m) w.heap.size g w wx)
    case first =>
     have hlc := mdC_len p m hlp
     cases hM : castM p m with
     | false =>
      have hA : mdD p m = mdC p m := if_neg (by rw [hM]; decide)
      have hAs := show Shut _ from hA
      clear hA hM
      go_wp2_with fail
      go_meet
      rw [hAs.out]
      exact hW5
     | true =>
      have hA : mdD p m = ((mdC p m).set (cornerM m).toNat 0).set ((m.fr + m.to) / 2).toNat (3 + 6 * tn) := by rw [← hT.out]; exact if_pos hM
      have hAs := show Shut _ from hA
      have hcr : 0 ≤ cornerM m ∧ cornerM m ≤ 63 := by unfold cornerM; split <;> omega
      obtain ⟨r0, r1⟩ := hcr
      have c7 : atSq 7 (m.fr / 8) = 8 * (m.fr / 8) + 7 := by unfold atSq; rw [if_neg (by omega)]
      have c00 : atSq 0 (m.fr / 8) = 8 * (m.fr / 8) := by unfold atSq; rw [if_neg (by omega)]; omega
      have hcd : cornerM m = if m.to < m.fr then 8 * (m.fr / 8) else 8 * (m.fr / 8) + 7 := rfl
      have hA7 : ∀ W : World, Calls Tryz.prog 48 #[.int .i64 7, .int .i64 (m.fr / 8)] W fun e w' => e = .returned (.int .i64 (8 * (m.fr / 8) + 7)) ∧ W = w' := fun W => by have := po_at 7 (m.fr / 8) W (by omega) (by omega) (by omega) (by omega); rw [c7] at this; exact this
      have hA0 : ∀ W : World, Calls Tryz.prog 48 #[.int .i64 0, .int .i64 (m.fr / 8)] W fun e w' => e = .returned (.int .i64 (8 * (m.fr / 8))) ∧ W = w' := fun W => by have := po_at 0 (m.fr / 8) W (by omega) (by omega) (by omega) (by omega); rw [c00] at this; exact this
      have hAt := show Shut _ from And.intro hA7 hA0
      have hMs := show Shut _ from hM
      have cf := hW5.fr
      have co := hW5.to
      clear hA hM c7 c00 hA7 hA0
      by_cases hlt : m.to < m.fr
      ·rw [if_pos hlt] at hcd
       rw [hcd] at hAs r0 r1
       clear hcd
       generalize hcn : 8 * (m.fr / 8) = cn at *
       have hcs := show Shut _ from hcn
       clear hcn
       have hc := hW5.out.cell cn.toNat (by omega)
       have hf := frozen_of_row wc g cn.toNat _ _ hW5.out
       go_upto_region 15 with (first
        | (go_at_call 49; refine (po_rank _ _ (by omega) (by omega)).mono ?_; rintro e1 w1 ⟨rfl, rfl⟩)
        | (go_at_call 48; with_reducible refine (hAt.out.1 _).mono ?_; rintro e1 w1 ⟨rfl, rfl⟩)
        | (go_at_call 48; with_reducible refine (hAt.out.2 _).mono ?_; rintro e1 w1 ⟨rfl, rfl⟩))
       have hWd := hW5.set cn.toNat 0
       clear hc hf cf co hW5
       generalize wc.setCell ⟨g, cn.toNat, none⟩ (.int .i64 0) = w6 at *
       have hWe : MdW p m ((mdC p m).set cn.toNat 0) w.heap.size g w w6.drew := ⟨hWd.pos, hWd.mv, hWd.res, hWd.out, hWd.bel.drew, hWd.ap⟩
       have hws : IntKind.i64.wrap (m.fr + m.to) = m.fr + m.to := by rw [IntKind.wrap_i64]; omega
       have htd : Int.tdiv (m.fr + m.to) 2 = (m.fr + m.to) / 2 := by rw [Int.tdiv_eq_ediv_of_nonneg (by omega)]
       have hwt : IntKind.i64.wrap ((m.fr + m.to) / 2) = (m.fr + m.to) / 2 := by rw [IntKind.wrap_i64]; omega
       have hh0 : 0 ≤ (m.fr + m.to) / 2 := by omega
       have hh1 : (m.fr + m.to) / 2 ≤ 63 := by omega
       have hh2 : (m.fr + m.to) / 2 < 64 := by omega
       refine wp_region_held_drew (S := fun w' : World => ∃ L, MdW p m L w.heap.size g w w') (by kernel_rfl) ⟨_, hWe⟩ (fun hHeld => ?_)
       refine takeC (i := 0) rfl hHeld ?_
       try simp only [zA, zB, zC, Act.put, zD, zE, zF]
       refine takeA (i := 1) (v := ?vca_2_1) rfl (Or.inl ⟨by rfl, ?yca_2_1⟩) hHeld ?rca_2_1
       case yca_2_1 => (intro wq hSw; obtain ⟨L, hL⟩ := hSw; have hq := hL.fr; clear hL; go_simp; try with_reducible rfl)
       try simp only [zA, zB, zC, Act.put, zD, zE, zF]
       refine takeC (i := 2) rfl hHeld ?_
       try simp only [zA, zB, zC, Act.put, zD, zE, zF]
       refine takeA (i := 3) (v := ?vca_4_3) rfl (Or.inl ⟨by rfl, ?yca_4_3⟩) hHeld ?rca_4_3
       case yca_4_3 => (intro wq hSw; obtain ⟨L, hL⟩ := hSw; have hq := hL.to; clear hL; go_simp; try with_reducible rfl)
       try simp only [zA, zB, zC, Act.put, zD, zE, zF]
       refine takeC (i := 4) rfl hHeld ?_
       try simp only [zA, zB, zC, Act.put, zD, zE, zF]
       refine takeC (i := 5) rfl hHeld ?_
       try simp only [zA, zB, zC, Act.put, zD, zE, zF]
       refine takeC (i := 6) rfl hHeld ?_
       try simp only [zA, zB, zC, Act.put, zD, zE, zF]
       refine takeA (i := 7) (v := ?vca_8_7) rfl (Or.inl ⟨by rfl, ?yca_8_7⟩) hHeld ?rca_8_7
       case yca_8_7 => (intro wq hSw; obtain ⟨L, hL⟩ := hSw; have hq := h64.out _ _ hL; clear hL; go_simp; try with_reducible rfl)
       try simp only [zA, zB, zC, Act.put, zD, zE, zF]
       refine takeC (i := 9) rfl hHeld ?_
       try simp only [zA, zB, zC, Act.put, zD, zE, zF]
       refine wpAnyH_ready (rs := [8]) (by kernel_rfl) (by simp) ?_
       refine AllReadyH.cons rfl (fun K hK => ?_) AllReadyH.nil
       try simp only [zA, zB, zC, Act.put, zD, zE, zF]
       try rw [if_pos (by rfl)]
       go_simp
       refine (po_of _ _ _ (by decide) (by decide) ht0 ht1).mono ?_
       rintro e1 w7 ⟨rfl, rfl⟩
       go_wp2_with fail
       refine hK.out _ _ (hHeld) (fun hHeld => ?_)
       clear hK K
       try simp only [zA, zB, zC, Act.put, zD, zE, zF]
       refine takeC (i := 10) rfl hHeld ?_
       try simp only [zA, zB, zC, Act.put, zD, zE, zF]
       refine wpAnyH_ready (rs := [11]) (by kernel_rfl) (by simp) ?_
       refine AllReadyH.cons rfl (fun K hK => ?_) AllReadyH.nil
       try simp only [zA, zB, zC, Act.put, zD, zE, zF]
       rw [if_pos (by rfl)]
       refine wp_store_one 3 _ _ rfl g ((m.fr + m.to) / 2).toNat (.int .i64 (3 + 6 * tn)) (by rfl) (by rfl) rfl rfl 24 _ hWe.out (by rw [ints_size]; first | omega | (rw [List.length_set]; omega)) (by kernel_rfl) ?_
       have hWn := hWe.set ((m.fr + m.to) / 2).toNat (3 + 6 * tn)
       rw [← hAs.out] at hWn
       clear hWe hWd hHeld
       generalize w6.drew.setCell ⟨g, ((m.fr + m.to) / 2).toNat, none⟩ (.int .i64 (3 + 6 * tn)) = w8 at *
       refine hK.out _ _ ⟨_, hWn⟩ (fun _ => ?_)
       clear hK K
       try simp only [zA, zB, zC, Act.put, zD, zE, zF]
       refine wpAnyH_done (by kernel_rfl) ?_ _
       go_wp2_with fail
       go_meet
       exact hWn
      ·rw [if_neg hlt] at hcd
       rw [hcd] at hAs r0 r1
       clear hcd
       generalize hcn : 8 * (m.fr / 8) + 7 = cn at *
       have hcs := show Shut _ from hcn
       clear hcn
       have hc := hW5.out.cell cn.toNat (by omega)
       have hf := frozen_of_row wc g cn.toNat _ _ hW5.out
       go_upto_region 15 with (first
        | (go_at_call 49; refine (po_rank _ _ (by omega) (by omega)).mono ?_; rintro e1 w1 ⟨rfl, rfl⟩)
        | (go_at_call 48; with_reducible refine (hAt.out.1 _).mono ?_; rintro e1 w1 ⟨rfl, rfl⟩))
       have hWd := hW5.set cn.toNat 0
       clear hc hf cf co hW5
       generalize wc.setCell ⟨g, cn.toNat, none⟩ (.int .i64 0) = w6 at *
       have hWe : MdW p m ((mdC p m).set cn.toNat 0) w.heap.size g w w6.drew := ⟨hWd.pos, hWd.mv, hWd.res, hWd.out, hWd.bel.drew, hWd.ap⟩
       have hws : IntKind.i64.wrap (m.fr + m.to) = m.fr + m.to := by rw [IntKind.wrap_i64]; omega
       have htd : Int.tdiv (m.fr + m.to) 2 = (m.fr + m.to) / 2 := by rw [Int.tdiv_eq_ediv_of_nonneg (by omega)]
       have hwt : IntKind.i64.wrap ((m.fr + m.to) / 2) = (m.fr + m.to) / 2 := by rw [IntKind.wrap_i64]; omega
       have hh0 : 0 ≤ (m.fr + m.to) / 2 := by omega
       have hh1 : (m.fr + m.to) / 2 ≤ 63 := by omega
       have hh2 : (m.fr + m.to) / 2 < 64 := by omega
       refine wp_region_held_drew (S := fun w' : World => ∃ L, MdW p m L w.heap.size g w w') (by kernel_rfl) ⟨_, hWe⟩ (fun hHeld => ?_)
       refine takeC (i := 0) rfl hHeld ?_
       try simp only [zA, zB, zC, Act.put, zD, zE, zF]
       refine takeA (i := 1) (v := ?vcb_2_1) rfl (Or.inl ⟨by rfl, ?ycb_2_1⟩) hHeld ?rcb_2_1
       case ycb_2_1 => (intro wq hSw; obtain ⟨L, hL⟩ := hSw; have hq := hL.fr; clear hL; go_simp; try with_reducible rfl)
       try simp only [zA, zB, zC, Act.put, zD, zE, zF]
       refine takeC (i := 2) rfl hHeld ?_
       try simp only [zA, zB, zC, Act.put, zD, zE, zF]
       refine takeA (i := 3) (v := ?vcb_4_3) rfl (Or.inl ⟨by rfl, ?ycb_4_3⟩) hHeld ?rcb_4_3
       case ycb_4_3 => (intro wq hSw; obtain ⟨L, hL⟩ := hSw; have hq := hL.to; clear hL; go_simp; try with_reducible rfl)
       try simp only [zA, zB, zC, Act.put, zD, zE, zF]
       refine takeC (i := 4) rfl hHeld ?_
       try simp only [zA, zB, zC, Act.put, zD, zE, zF]
       refine takeC (i := 5) rfl hHeld ?_
       try simp only [zA, zB, zC, Act.put, zD, zE, zF]
       refine takeC (i := 6) rfl hHeld ?_
       try simp only [zA, zB, zC, Act.put, zD, zE, zF]
       refine takeA (i := 7) (v := ?vcb_8_7) rfl (Or.inl ⟨by rfl, ?ycb_8_7⟩) hHeld ?rcb_8_7
       case ycb_8_7 => (intro wq hSw; obtain ⟨L, hL⟩ := hSw; have hq := h64.out _ _ hL; clear hL; go_simp; try with_reducible rfl)
       try simp only [zA, zB, zC, Act.put, zD, zE, zF]
       refine takeC (i := 9) rfl hHeld ?_
       try simp only [zA, zB, zC, Act.put, zD, zE, zF]
       refine wpAnyH_ready (rs := [8]) (by kernel_rfl) (by simp) ?_
       refine AllReadyH.cons rfl (fun K hK => ?_) AllReadyH.nil
       try simp only [zA, zB, zC, Act.put, zD, zE, zF]
       try rw [if_pos (by rfl)]
       go_simp
       refine (po_of _ _ _ (by decide) (by decide) ht0 ht1).mono ?_
       rintro e1 w7 ⟨rfl, rfl⟩
       go_wp2_with fail
       refine hK.out _ _ (hHeld) (fun hHeld => ?_)
       clear hK K
       try simp only [zA, zB, zC, Act.put, zD, zE, zF]
       refine takeC (i := 10) rfl hHeld ?_
       try simp only [zA, zB, zC, Act.put, zD, zE, zF]
       refine wpAnyH_ready (rs := [11]) (by kernel_rfl) (by simp) ?_
       refine AllReadyH.cons rfl (fun K hK => ?_) AllReadyH.nil
       try simp only [zA, zB, zC, Act.put, zD, zE, zF]
       rw [if_pos (by rfl)]
       refine wp_store_one 3 _ _ rfl g ((m.fr + m.to) / 2).toNat (.int .i64 (3 + 6 * tn)) (by rfl) (by rfl) rfl rfl 24 _ hWe.out (by rw [ints_size]; first | omega | (rw [List.length_set]; omega)) (by kernel_rfl) ?_
       have hWn := hWe.set ((m.fr + m.to) / 2).toNat (3 + 6 * tn)
       rw [← hAs.out] at hWn
       clear hWe hWd hHeld
       generalize w6.drew.setCell ⟨g, ((m.fr + m.to) / 2).toNat, none⟩ (.int .i64 (3 + 6 * tn)) = w8 at *
       refine hK.out _ _ ⟨_, hWn⟩ (fun _ => ?_)
       clear hK K
       try simp only [zA, zB, zC, Act.put, zD, zE, zF]
       refine wpAnyH_done (by kernel_rfl) ?_ _
       go_wp2_with fail
       go_meet
       exact hWn
    case rest =>
     have hW6 := hcut
     clear hW5
     have cf := hW6.fr
     have co := hW6.to
     have cp := hW6.pr
     have c65 := h65.out _ _ hW6
     have hld := mdD_len p m hlp
     go_upto_region 17 with (first | (go_at_call 50; refine (md_left ca m hc0 hc1 _).mono ?_; rintro e1 w9 ⟨rfl, hb9⟩; have hW7 := hW6.next hb9; have hc := hW7.out.cell 65 (by omega); have hf := frozen_of_row w9 g 65 _ _ hW7.out))
     have hW8 := hW7.set 65 (leftB ca m)
     clear hc hf cf co cp c65 hb9 hW7 hW6
     generalize w9.setCell ⟨g, 65, none⟩ (.int .i64 (leftB ca m)) = w10 at *
     have hc := hW8.out.cell 66 (by rw [List.length_set]; omega)
     have hf := frozen_of_row w10 g 66 _ _ hW8.out
     go_upto_region 18 with (fail)
     have hW9 : MdW p m (mdE p m) w.heap.size g w (w10.setCell ⟨g, 66, none⟩ (.int .i64 (-1))) := by
      have h := hW8.set 66 (-1)
      unfold mdE
      rw [hC.out]
      exact h
     clear hc hf hW8 hld
     generalize w10.setCell ⟨g, 66, none⟩ (.int .i64 (-1)) = w11 at *
     have cf := hW9.fr
     have co := hW9.to
     go_cut [117] (fun s117 wx => s117 = .bool (dblM p m) ∧ MdW p m (mdE p m) w.heap.size g w wx)
     case first =>
      by_cases k1 : kindOf (pcAt p m.fr) = 6
      ·by_cases e1 : m.to = m.fr + 16
       ·have hM : dblM p m = true := by simp [dblM, k1, e1]
        have hMs := show Shut _ from hM
        have k1b : (kindOf (pcAt p m.fr) == 6) = true := by simpa using k1
        have e1b : (m.to == m.fr + 16) = true := by simpa using e1
        clear hM k1 e1
        go_wp2_with (first | (go_at_call 47; refine (po_kindOf _ _ (by omega)).mono ?_; rintro e1 w1 ⟨rfl, rfl⟩))
        go_meet
        exact ⟨by rw [hMs.out], hW9⟩
       ·have e1b : (m.to == m.fr + 16) = false := by simpa using e1
        have k1b : (kindOf (pcAt p m.fr) == 6) = true := by simpa using k1
        by_cases e2 : m.to = m.fr - 16
        ·have hM : dblM p m = true := by simp [dblM, k1, e2]
         have hMs := show Shut _ from hM
         have e2b : (m.to == m.fr - 16) = true := by simpa using e2
         clear hM k1 e1 e2
         go_wp2_with (first | (go_at_call 47; refine (po_kindOf _ _ (by omega)).mono ?_; rintro e1 w1 ⟨rfl, rfl⟩))
         go_meet
         exact ⟨by rw [hMs.out], hW9⟩
        ·have hM : dblM p m = false := by simp [dblM, e1, e2]
         have hMs := show Shut _ from hM
         have e2b : (m.to == m.fr - 16) = false := by simpa using e2
         clear hM k1 e1 e2
         go_wp2_with (first | (go_at_call 47; refine (po_kindOf _ _ (by omega)).mono ?_; rintro e1 w1 ⟨rfl, rfl⟩))
         go_meet
         exact ⟨by rw [hMs.out], hW9⟩
      ·have hM : dblM p m = false := by simp [dblM, k1]
       have hMs := show Shut _ from hM
       have k1b : (kindOf (pcAt p m.fr) == 6) = false := by simpa using k1
       clear hM k1
       go_wp2_with (first | (go_at_call 47; refine (po_kindOf _ _ (by omega)).mono ?_; rintro e1 w1 ⟨rfl, rfl⟩))
       go_meet
       exact ⟨by rw [hMs.out], hW9⟩
     case rest =>
      obtain ⟨rfl, hW10⟩ := hcut
      clear hW9 cf co
      go_upto_if 117 with (fail)
      go_cut [] (fun wx => MdW p m (mdF p m) w.heap.size g w wx)
      case first =>
       cases hM : dblM p m with
       | false =>
        have hA : mdF p m = mdE p m := if_neg (by rw [hM]; decide)
        have hAs := show Shut _ from hA
        clear hA hM
        go_wp2_with fail
        go_meet
        rw [hAs.out]
        exact hW10
       | true =>
        have hA : mdF p m = (mdE p m).set 66 ((m.fr + m.to) / 2) := if_pos hM
        have hAs := show Shut _ from hA
        have hle := mdE_len p m hlp
        have cf := hW10.fr
        have co := hW10.to
        have hc := hW10.out.cell 66 (by omega)
        have hf := frozen_of_row wc g 66 _ _ hW10.out
        clear hA hM
        go_wp2_with fail
        go_meet
        rw [hAs.out]
        exact hW10.set 66 _
      case rest =>
       have hW11 := hcut
       clear hW10
       have hlf := mdF_len p m hlp
       have hc : wc.cell? ⟨g, 67, none⟩ = some (.int .i64 hn) := (hW11.out.cell 67 (by omega)).trans (by rw [hM67s.out])
       have hf := frozen_of_row wc g 67 _ _ hW11.out
       go_upto_region 21 with (fail)
       have hW12 : MdW p m (mdG p m) w.heap.size g w (wc.setCell ⟨g, 67, none⟩ (.int .i64 (hn + 1))) := by
        have h := hW11.set 67 (hn + 1)
        unfold mdG
        rw [hH.out]
        exact h
       clear hc hf hW11 hlf
       generalize wc.setCell ⟨g, 67, none⟩ (.int .i64 (hn + 1)) = w12 at *
       go_cut [7, 134] (fun s7 s134 wx => s7 = .bool (tkIs p m) ∧ s134 = .bool (tkIs p m || decide (kindOf (pcAt p m.fr) = 6)) ∧ MdW p m (mdG p m) w.heap.size g w wx)
       case first =>
        cases hI : tkIs p m with
        | true =>
         have hIs := show Shut _ from hI
         clear hI
         go_wp2_with (first | (go_at_call 47; refine (po_kindOf _ _ (by omega)).mono ?_; rintro e1 w1 ⟨rfl, rfl⟩))
         go_meet
         exact ⟨by rw [hIs.out], by rw [hIs.out]; rfl, hW12⟩
        | false =>
         have hIs := show Shut _ from hI
         clear hI
         by_cases k1 : kindOf (pcAt p m.fr) = 6
         ·have k1b : (kindOf (pcAt p m.fr) == 6) = true := by simpa using k1
          have ks := show Shut _ from k1
          clear k1
          go_wp2_with (first | (go_at_call 47; refine (po_kindOf _ _ (by omega)).mono ?_; rintro e1 w1 ⟨rfl, rfl⟩))
          go_meet
          exact ⟨by rw [hIs.out], by rw [hIs.out, decide_eq_true ks.out]; rfl, hW12⟩
         ·have k1b : (kindOf (pcAt p m.fr) == 6) = false := by simpa using k1
          have ks := show Shut _ from k1
          clear k1
          go_wp2_with (first | (go_at_call 47; refine (po_kindOf _ _ (by omega)).mono ?_; rintro e1 w1 ⟨rfl, rfl⟩))
          go_meet
          exact ⟨by rw [hIs.out], by rw [hIs.out, decide_eq_false ks.out]; rfl, hW12⟩
       case rest =>
        obtain ⟨rfl, rfl, hW13⟩ := hcut
        clear hW12
        go_upto_if 134 with (fail)
        go_cut [] (fun wx => MdW p m (mdH p m) w.heap.size g w wx)
        case first =>
         cases hM : (tkIs p m || decide (kindOf (pcAt p m.fr) = 6)) with
         | false =>
          have hA : mdH p m = mdG p m := if_neg (by rw [hM]; decide)
          have hAs := show Shut _ from hA
          clear hA hM
          go_wp2_with fail
          go_meet
          rw [hAs.out]
          exact hW13
         | true =>
          have hA : mdH p m = (mdG p m).set 67 0 := if_pos hM
          have hAs := show Shut _ from hA
          have hlg := mdG_len p m hlp
          have hc := hW13.out.cell 67 (by omega)
          have hf := frozen_of_row wc g 67 _ _ hW13.out
          clear hA hM
          go_wp2_with fail
          go_meet
          rw [hAs.out]
          exact hW13.set 67 _
        case rest =>
         have hW14 := hcut
         clear hW13
         have hlh := mdH_len p m hlp
         have c64 := h64.out _ _ hW14
         have hc : wc.cell? ⟨g, 68, none⟩ = some (.int .i64 fn) := (hW14.out.cell 68 (by omega)).trans (by rw [hM68s.out])
         have hf := frozen_of_row wc g 68 _ _ hW14.out
         go_upto_region 24 with (fail)
         have hW15 := hW14.set 68 (fn + tn)
         clear hc hf c64 hW14
         generalize wc.setCell ⟨g, 68, none⟩ (.int .i64 (fn + tn)) = w14 at *
         have c64 := h64.out _ _ hW15
         have hc := hW15.out.cell 64 (by rw [List.length_set]; omega)
         have hf := frozen_of_row w14 g 64 _ _ hW15.out
         go_upto_region 25 with (fail)
         have hW16 : MdW p m (madeB p m) w.heap.size g w (w14.setCell ⟨g, 64, none⟩ (.int .i64 (1 - tn))) := by
          have h := hW15.set 64 (1 - tn)
          unfold madeB
          rw [hF.out, hT.out]
          exact h
         clear hc hf c64 hW15
         generalize w14.setCell ⟨g, 64, none⟩ (.int .i64 (1 - tn)) = w15 at *
         have hlm := madeB_len p m hlp
         have hoU : w15.heap[g]? = some (.cells (ints (madeB p m)) 24 (0, 0)) := hW16.out
         have hrU := hW16.res
         have hB := hW16.bel
         generalize hmp : madeB p m = mp at *
         have hmps := show Shut _ from hmp
         clear hmp
         go_wp2_with (first
          | ((with_reducible refine at_load_row hoU Tryz.underlying24 rfl ?_ ?_ ?_); (rw [ints_size, hlm]; kernel_rfl); rfl)
          | ((with_reducible refine at_store_row (ints mp) hrU ?_ ?_ ?_ ?_ ?_ ?_); (rw [ints_size, hlm]; kernel_rfl); (rw [ints_size, ints_size, hlm, List.length_replicate]); exact ints_one _; rfl; rfl))
         (try simp only [Exit.inBlock, Exit.then])
         exact bodyPost_ret (results_cell1 rfl _ _ (w.heap.size + 1 + 1) 24 (ints mp) (0, 0) _ rfl (setRow_heap _ _ _ (ints mp) _ _ hrU) Tryz.underlying24 rfl (by rw [ints_size, hlm]; kernel_rfl)) rfl ⟨by rw [hmps.out], below_setRow hB (by omega) _⟩

end Go.Proofs.YtnjdgooljnbebaaGreatDoor
namespace Go.Proofs.YtnjdgooljnbebaaGreatDoor
open Go Go.RowKit
open List renaming getElem_toArray → zA, getElem_cons_zero → zB, getElem_cons_succ → zC, setIfInBounds_toArray → zD, set_cons_zero → zE, set_cons_succ → zF
set_option maxHeartbeats 4000000
set_option linter.unusedSimpArgs false
set_option linter.unusedVariables false
set_option maxRecDepth 100000

theorem getD_set (l : List Int) (i j : Nat) (z : Int) : (l.set i z).getD j 0 = if i = j ∧ j < l.length then z else l.getD j 0 := by
 simp only [List.getD_eq_getElem?_getD, List.getElem?_set]
 by_cases h : i = j
 ·subst h
  by_cases hl : i < l.length
  ·simp [hl]
  ·simp [hl]
 ·simp [h]
theorem set_far (l : List Int) (i j : Nat) (z : Int) (h : i ≠ j) : (l.set i z).getD j 0 = l.getD j 0 := by
 rw [getD_set, if_neg (fun e => h e.1)]
theorem mdA_far (p : List Int) (m : Mv) (hm : MvOk m) (j : Nat) (hj : 64 ≤ j) : (mdA p m).getD j 0 = p.getD j 0 := by
 unfold mdA
 by_cases h : tkIs p m = true
 ·rw [if_pos h]
  have := tk_range p m hm h
  exact set_far _ _ _ _ (by omega)
 ·rw [if_neg h]
theorem mdD_far (p : List Int) (m : Mv) (hm : MvOk m) (j : Nat) (hj : 64 ≤ j) : (mdD p m).getD j 0 = p.getD j 0 := by
 have hA := mdA_far p m hm j hj
 obtain ⟨f0, f1, t0, t1, p0, p1⟩ := hm
 have hB : (mdB p m).getD j 0 = p.getD j 0 := by
  unfold mdB
  rw [set_far _ _ _ _ (by omega), set_far _ _ _ _ (by omega), hA]
 have hC : (mdC p m).getD j 0 = p.getD j 0 := by
  unfold mdC
  split
  ·exact hB
  ·rw [set_far _ _ _ _ (by omega), hB]
 unfold mdD
 by_cases h : castM p m = true
 ·rw [if_pos h]
  have hc : cornerM m ≤ 63 := by unfold cornerM; split <;> omega
  rw [set_far _ _ _ _ (by omega), set_far _ _ _ _ (by omega), hC]
 ·rw [if_neg h, hC]
theorem mdF_far (p : List Int) (m : Mv) (hm : MvOk m) (j : Nat) (hj : 67 ≤ j) : (mdF p m).getD j 0 = p.getD j 0 := by
 have hD := mdD_far p m hm j (by omega)
 have hE : (mdE p m).getD j 0 = p.getD j 0 := by
  unfold mdE
  rw [set_far _ _ _ _ (by omega), set_far _ _ _ _ (by omega), hD]
 unfold mdF
 split
 ·rw [set_far _ _ _ _ (by omega), hE]
 ·exact hE
theorem mdH_far (p : List Int) (m : Mv) (hm : MvOk m) : (mdH p m).getD 68 0 = p.getD 68 0 := by
 have hG : (mdG p m).getD 68 0 = p.getD 68 0 := by
  unfold mdG
  rw [set_far _ _ _ _ (by omega), mdF_far p m hm 68 (by omega)]
 unfold mdH
 split
 ·rw [set_far _ _ _ _ (by omega), hG]
 ·exact hG
/-- A list whose first 64 numbers are pieces. -/
def Pcs (l : List Int) : Prop := ∀ s : Nat, s < 64 → 0 ≤ l.getD s 0 ∧ l.getD s 0 ≤ 12
theorem Pcs.set {l : List Int} (h : Pcs l) (i : Nat) (z : Int) (hz : i < 64 → 0 ≤ z ∧ z ≤ 12) : Pcs (l.set i z) := fun s hs => by
 rw [getD_set]
 by_cases c : i = s ∧ s < l.length
 ·rw [if_pos c]; exact hz (by omega)
 ·rw [if_neg c]; exact h s hs
theorem madeB_pos (p : List Int) (hp : Pos p) (m : Mv) (hm : MvOk m) (ht0 : 0 ≤ p.getD 64 0) (ht1 : p.getD 64 0 ≤ 1) : Pos (madeB p m) := by
 have h0 : Pcs p := fun s hs => ⟨hp.lo s hs, hp.hi s hs⟩
 obtain ⟨f0, f1, t0, t1, p0, p1⟩ := hm
 have hx : 0 ≤ pcAt p m.fr ∧ pcAt p m.fr ≤ 12 := h0 m.fr.toNat (by omega)
 have hA : Pcs (mdA p m) := by
  unfold mdA
  split
  ·exact h0.set _ _ (fun _ => by omega)
  ·exact h0
 have hB : Pcs (mdB p m) := (hA.set _ 0 (fun _ => by omega)).set _ _ (fun _ => hx)
 have hC : Pcs (mdC p m) := by
  unfold mdC
  split
  ·exact hB
  ·exact hB.set _ _ (fun _ => by omega)
 have hD : Pcs (mdD p m) := by
  unfold mdD
  split
  ·exact (hC.set _ 0 (fun _ => by omega)).set _ _ (fun _ => by omega)
  ·exact hC
 have hE : Pcs (mdE p m) := (hD.set 65 _ (fun h => absurd h (by decide))).set 66 _ (fun h => absurd h (by decide))
 have hF : Pcs (mdF p m) := by
  unfold mdF
  split
  ·exact hE.set 66 _ (fun h => absurd h (by decide))
  ·exact hE
 have hG : Pcs (mdG p m) := hF.set 67 _ (fun h => absurd h (by decide))
 have hH : Pcs (mdH p m) := by
  unfold mdH
  split
  ·exact hG.set 67 _ (fun h => absurd h (by decide))
  ·exact hG
 have hZ : Pcs (madeB p m) := (hH.set 68 _ (fun h => absurd h (by decide))).set 64 _ (fun h => absurd h (by decide))
 exact ⟨madeB_len p m hp.len, fun s hs => (hZ s hs).1, fun s hs => (hZ s hs).2⟩

theorem promos_ok (f tq : Int) (f0 : 0 ≤ f) (f1 : f ≤ 63) (t0 : 0 ≤ tq) (t1 : tq ≤ 63) : ∀ n, n ≤ 4 → ∀ m ∈ promos f tq n, MvOk m
 | 0, _, m, h => by cases h
 | n + 1, hn, m, h => by
  rw [promos, List.mem_append] at h
  rcases h with h | h
  ·exact promos_ok f tq f0 f1 t0 t1 n (by omega) m h
  ·simp only [List.mem_cons, List.not_mem_nil, or_false] at h
   subst h
   exact ⟨f0, f1, t0, t1, by show (0 : Int) ≤ (n : Int) + 2; omega, by show (n : Int) + 2 ≤ 6; omega⟩
theorem pmOf_ok (p : List Int) (f tq : Int) (f0 : 0 ≤ f) (f1 : f ≤ 63) (t0 : 0 ≤ tq) (t1 : tq ≤ 63) : ∀ m ∈ pmOf p f tq, MvOk m := by
 intro m h
 unfold pmOf at h
 split at h
 ·cases h
 ·split at h
  ·simp only [List.mem_cons, List.not_mem_nil, or_false] at h
   subst h
   exact ⟨f0, f1, t0, t1, by show (0 : Int) ≤ 0; decide, by show (0 : Int) ≤ 6; decide⟩
  ·exact promos_ok f tq f0 f1 t0 t1 4 (by omega) m h
theorem pmTo_ok (p : List Int) (f : Int) (f0 : 0 ≤ f) (f1 : f ≤ 63) (L : List Int) (hL : ∀ t ∈ L, 0 ≤ t ∧ t ≤ 63) : ∀ n, n ≤ L.length → ∀ m ∈ pmTo p f L n, MvOk m
 | 0, _, m, h => by cases h
 | n + 1, hn, m, h => by
  rw [pmTo, List.mem_append] at h
  rcases h with h | h
  ·exact pmTo_ok p f f0 f1 L hL n (by omega) m h
  ·obtain ⟨g0, g1⟩ := hL (L.getD n 0) (by simp [show n < L.length by omega])
   exact pmOf_ok p f _ f0 f1 g0 g1 m h
theorem pseudoTo_ok (p : List Int) : ∀ n, n ≤ 64 → ∀ m ∈ pseudoTo p n, MvOk m
 | 0, _, m, h => by cases h
 | n + 1, hn, m, h => by
  rw [pseudoTo, List.mem_append] at h
  rcases h with h | h
  ·exact pseudoTo_ok p n (by omega) m h
  ·unfold pseudoOf at h
   split at h
   ·cases h
   ·exact pmTo_ok p (n : Int) (by omega) (by omega) _ (sqL_range p (n : Int) (by omega) (by omega)) _ (Nat.le_refl _) m h
theorem castOne_ok (p : List Int) (r : Nat) (hr : r < 4) : ∀ m ∈ castOne p r, MvOk m := by
 intro m h
 have hk : 4 ≤ homeK r ∧ homeK r ≤ 60 := by unfold homeK; omega
 have hw : castWay r = 1 ∨ castWay r = -1 := by unfold castWay; split <;> simp
 unfold castOne at h
 split at h
 ·cases h
 ·split at h
  ·simp only [List.mem_cons, List.not_mem_nil, or_false] at h
   subst h
   exact ⟨by show 0 ≤ homeK r; omega, by show homeK r ≤ 63; omega, by show 0 ≤ homeK r + 2 * castWay r; omega, by show homeK r + 2 * castWay r ≤ 63; omega, by show (0 : Int) ≤ 0; decide, by show (0 : Int) ≤ 6; decide⟩
  ·cases h
theorem pseudoL_ok (p : List Int) (ht0 : 0 ≤ p.getD 64 0) (ht1 : p.getD 64 0 ≤ 1) : ∀ m ∈ pseudoL p, MvOk m := by
 intro m h
 rw [pseudoL, List.mem_append] at h
 rcases h with h | h
 ·exact pseudoTo_ok p 64 (Nat.le_refl _) m h
 ·unfold castL at h
  simp only [castTo, List.nil_append, List.mem_append] at h
  rcases h with h | h
  ·exact castOne_ok p _ (by omega) m h
  ·exact castOne_ok p _ (by omega) m h
end Go.Proofs.YtnjdgooljnbebaaGreatDoor
namespace Go.Proofs.YtnjdgooljnbebaaGreatDoor
open Go Go.RowKit
open List renaming getElem_toArray → zA, getElem_cons_zero → zB, getElem_cons_succ → zC, setIfInBounds_toArray → zD, set_cons_zero → zE, set_cons_succ → zF
set_option maxHeartbeats 8000000
set_option linter.unusedSimpArgs false
set_option linter.unusedVariables false
set_option maxRecDepth 100000

/-- Where the king of the side to move stands behind a move. -/
def kingBy (p : List Int) (m : Mv) : Int := if m.fr = kingAt p (p.getD 64 0) then m.to else kingAt p (p.getD 64 0)
/-- Whether a move leaves the own king out of check. -/
def keepM (p : List Int) (m : Mv) : Bool := !attackedB (madeB p m) (kingBy p m) (1 - p.getD 64 0)
/-- The legal moves. -/
def legalL (p : List Int) : List Mv := (pseudoL p).filter (keepM p)
theorem mvs_slice {w : World} {base : Nat} {v : Value} {l : List Mv} (h : ownMvs w base v l) : ∃ a c, v = .slice a l.length c ∧ (0 < l.length → ∃ g, a = some ⟨g, 0, none⟩) := by
 obtain ⟨hn, ⟨rfl, h0⟩ | ⟨g, cap, cur, rfl, hge, hg, _⟩⟩ := h
 ·exact ⟨none, 0, by rw [h0], fun hi => by omega⟩
 ·exact ⟨_, _, rfl, fun _ => ⟨g, rfl⟩⟩
theorem take_filterM (f : Mv → Bool) (l : List Mv) (k : Nat) (h : k < l.length) : (l.take (k + 1)).filter f = (l.take k).filter f ++ (if f (l.getD k ⟨0, 0, 0⟩) then [l.getD k ⟨0, 0, 0⟩] else []) := by
 rw [List.take_succ_eq_append_getElem h, List.filter_append]
 have e : l.getD k ⟨0, 0, 0⟩ = l[k] := by simp [h]
 rw [e]
 by_cases c : f l[k] <;> simp [c]
theorem own_block {w w' : World} {base : Nat} {v : Value} {l : List Mv} (h : ownMvs w base v l) (hb : ∀ q, v.ownBlock = some q → w'.heap[q]? = w.heap[q]?) : ownMvs w' base v l := by
 obtain ⟨h1, h2 | ⟨g, cap, cur, rfl, b, c, d⟩⟩ := h
 ·exact ⟨h1, Or.inl h2⟩
 ·exact ⟨h1, Or.inr ⟨g, cap, cur, rfl, b, (hb g rfl).trans c, d⟩⟩
theorem lg_legal (p : List Int) (hp : Pos p) (tn : Nat) (hT : p.getD 64 0 = (tn : Int)) (ht : tn ≤ 1) (hc0 : 0 ≤ p.getD 65 0) (hc1 : p.getD 65 0 ≤ 15) (hep : -1 ≤ p.getD 66 0 ∧ p.getD 66 0 ≤ 63) (hh0 : 0 ≤ p.getD 67 0) (hh1 : p.getD 67 0 ≤ 1000000) (hf0 : 0 ≤ p.getD 68 0) (hf1 : p.getD 68 0 ≤ 1000000) (hkg : 0 ≤ kingAt p (p.getD 64 0)) (w : World) :
  Calls Tryz.prog 24 #[.agg (ints p)] w fun e w' => ∃ v l', e = .returned v ∧ l'.Perm (legalL p) ∧ ownMvs w' w.heap.size v l' ∧ Below w.heap.size w w' := by
 obtain ⟨i0, hi, hz0, hz1, hz2⟩ := info_parts mv_info
 have hlp := hp.len
 have hrow : PosAt p w.heap.size (w.alloc (.cells (ints p) 24)) := heap_alloc_new w (.cells (ints p) 24)
 have hBW : Below w.heap.size w (w.alloc (.cells (ints p) 24)) := (Below.refl _ _).alloc (Nat.le_refl _) _
 have ht0 : 0 ≤ p.getD 64 0 := by omega
 have ht1 : p.getD 64 0 ≤ 1 := by omega
 have h64 := show Shut (∀ W : World, PosAt p w.heap.size W → W.cell? ⟨w.heap.size, 64, none⟩ = some (.int .i64 (tn : Int))) from fun W h => (h.cell 64 (by omega)).trans (by rw [hT])
 have hPs := show Shut (∀ W : World, Calls Tryz.prog 51 #[.agg (ints p)] W fun e w' => ∃ v l', e = .returned v ∧ l'.Perm (pseudoL p) ∧ ownMvs w' W.heap.size v l' ∧ Below W.heap.size W w') from fun W => ps_pseudo p hp tn hT ht hc0 hc1 hep W
 have hKg := show Shut (∀ W : World, Calls Tryz.prog 52 #[.agg (ints p), .int .i64 (tn : Int)] W fun e w' => e = .returned (.int .i64 (kingAt p (tn : Int))) ∧ Below W.heap.size W w') from fun W => br_kingAt p hlp (tn : Int) (by omega) (by omega) W
 have hMd := show Shut (∀ m, MvOk m → ∀ W : World, Calls Tryz.prog 23 #[.agg (ints p), .agg (ints (mvL m))] W fun e w' => e = .returned (.agg (ints (madeB p m))) ∧ Below W.heap.size W w') from fun m hm W => me_made p hp m hm ht0 ht1 hc0 hc1 hh0 hh1 hf0 hf1 (mdF_far p m hm 67 (by omega)) (mdH_far p m hm) W
 have hAt := show Shut (∀ m, MvOk m → ∀ s c : Int, 0 ≤ s → s ≤ 63 → ∀ W : World, Calls Tryz.prog 53 #[.agg (ints (madeB p m)), .int .i64 s, .int .i64 c] W fun e w' => e = .returned (.bool (attackedB (madeB p m) s c)) ∧ Below W.heap.size W w') from fun m hm s c h0 h1 W => at_attacked (madeB p m) (madeB_pos p hp m hm ht0 ht1) s c h0 h1 W
 have hKp := show Shut (∀ m, keepM p m = !attackedB (madeB p m) (if m.fr = kingAt p (tn : Int) then m.to else kingAt p (tn : Int)) (1 - (tn : Int))) from fun m => by unfold keepM kingBy; rw [hT]
 have hkr := kingAt_range p (tn : Int)
 rw [hT] at hkg
 have hok := show Shut (∀ l' : List Mv, l'.Perm (pseudoL p) → ∀ m ∈ l', MvOk m) from fun l' h m hm => pseudoL_ok p ht0 ht1 m (h.subset hm)
 have hlen0 : (pseudoL p).length ≤ 15000 := by
  have h1 := pseudoTo_le p 64
  have h2 : (castL p).length ≤ 2 := castTo_le p _ 2
  have h3 : (pseudoL p).length = (pseudoTo p 64).length + (castL p).length := by rw [pseudoL, List.length_append]
  rw [h3]
  omega
 have hlen := show Shut _ from hlen0
 clear hlen0
 clear hT ht0 ht1
 generalize hkd : kingAt p (tn : Int) = kg at *
 have hkds := show Shut _ from hkd
 clear hkd
 go_enter Tryz.func24, Tryz.ntmps24
 go_upto_region 1 with (fail)
 generalize w.alloc (.cells (ints p) 24) = W at *
 have hu : W.heap[w.heap.size]? = some (.cells (ints p) 24 (0, 0)) := hrow
 go_wp2_with (first
  | ((with_reducible refine at_load_row hu Tryz.underlying24 rfl ?_ ?_ ?_); (rw [ints_size, hlp]; kernel_rfl); rfl))
 refine (hPs.out _).mono ?_
 rintro e1 w1 ⟨v1, l1, rfl, hperm, hown1, hb1⟩
 have hrow1 := hrow.below hb1
 have hu1 : w1.heap[w.heap.size]? = some (.cells (ints p) 24 (0, 0)) := hrow1
 have ct1 := h64.out w1 hrow1
 have hB1 := hBW.trans (hb1.mono hBW.size)
 clear hb1 hu hrow hBW
 go_wp2_with (first
  | ((with_reducible refine at_load_row hu1 Tryz.underlying24 rfl ?_ ?_ ?_); (rw [ints_size, hlp]; kernel_rfl); rfl))
 refine (hKg.out _).mono ?_
 rintro e2 w2 ⟨rfl, hb2⟩
 have hrow2 := hrow1.below hb2
 have hownL := own_next hown1 hb2
 have hB2 := hB1.trans (hb2.mono hB1.size)
 have hlt2 := hrow2.lt
 have hoks := show Shut _ from hok.out l1 hperm
 have hl15 : l1.length ≤ 15000 := by rw [hperm.length_eq]; exact hlen.out
 have hpf := show Shut ((l1.filter (keepM p)).Perm (legalL p)) from hperm.filter _
 clear hb2 hu1 hrow1 hown1 ct1 hB1 hperm hok hlen
 obtain ⟨a1, c1, rfl, hform⟩ := mvs_slice hownL
 have hformS := show Shut _ from hform
 clear hform
 have hSt := show Shut _ from And.intro hrow2 (And.intro hownL hB2)
 clear hrow2 hownL hB2
 go_wp2_with fail
 go_loopw [3, 6] (fun o i wr => ∃ k : Nat, k ≤ l1.length ∧ i = .int .i64 (k : Int) ∧ PosAt p w.heap.size wr ∧ ownMvs wr W.heap.size (.slice a1 l1.length c1) l1 ∧ ownMvs wr w2.heap.size o ((l1.take k).filter (keepM p)) ∧ Below w.heap.size w wr ∧ w2.heap.size ≤ wr.heap.size) (fun _ i _ => l1.length - (intOf i).toNat)
 case atStart => exact ⟨0, by omega, rfl, hSt.out.1, hSt.out.2.1, World.ownsRow_nil _ _ _ _, hSt.out.2.2, Nat.le_refl _⟩
 case round =>
  obtain ⟨k, hk, rfl, hrow, hownL, hown, hB, hsw⟩ := hrel
  by_cases hlt : k < l1.length
  ·obtain ⟨g, rfl⟩ := hformS.out (by omega)
   clear hformS
   have hlr := own_row hownL
   have hglt : g < w2.heap.size := (own_row hSt.out.2.1).lt
   have hst := take_filterM (keepM p) l1 k hlt
   have hlf : ((l1.take k).filter (keepM p)).length ≤ 15000 := by
    have h1 := List.length_filter_le (keepM p) (l1.take k)
    have h2 : (l1.take k).length ≤ k := List.length_take_le _ _
    omega
   have hmo := hoks.out (l1.getD k ⟨0, 0, 0⟩) (by simp [hlt])
   have cf : wr.cell? ⟨g, k * 3, none⟩ = some (.int .i64 (l1.getD k ⟨0, 0, 0⟩).fr) := by rw [Nat.mul_comm]; exact hlr.cell k 0 hlt (by omega)
   have co : wr.cell? ⟨g, k * 3 + 1, none⟩ = some (.int .i64 (l1.getD k ⟨0, 0, 0⟩).to) := by rw [Nat.mul_comm]; exact hlr.cell k 1 hlt (by omega)
   have cp : wr.cell? ⟨g, k * 3 + 2, none⟩ = some (.int .i64 (l1.getD k ⟨0, 0, 0⟩).pr) := by rw [Nat.mul_comm]; exact hlr.cell k 2 hlt (by omega)
   have hra := show Shut (∀ W' : World, ownMvs W' W.heap.size (.slice (some ⟨g, 0, none⟩) l1.length c1) l1 → W'.rangeAt g (k * 3) (mvC (l1.getD k ⟨0, 0, 0⟩))) from fun W' h => by have := (own_row h).range k hlt; rw [Nat.mul_comm] at this; exact this
   have hcs := show Shut (∀ W' : World, ownMvs W' W.heap.size (.slice (some ⟨g, 0, none⟩) l1.length c1) l1 → W'.cell? ⟨g, k * 3, none⟩ = some (.int .i64 (l1.getD k ⟨0, 0, 0⟩).fr) ∧ W'.cell? ⟨g, k * 3 + 1, none⟩ = some (.int .i64 (l1.getD k ⟨0, 0, 0⟩).to) ∧ W'.cell? ⟨g, k * 3 + 2, none⟩ = some (.int .i64 (l1.getD k ⟨0, 0, 0⟩).pr)) from fun W' h => by
    have hl := own_row h
    rw [Nat.mul_comm]
    exact ⟨hl.cell k 0 hlt (by omega), hl.cell k 1 hlt (by omega), hl.cell k 2 hlt (by omega)⟩
   generalize hmd : l1.getD k ⟨0, 0, 0⟩ = m at *
   generalize hxs : (l1.take k).filter (keepM p) = xs at *
   have hkp := hKp.out m
   have hid := show Shut _ from And.intro hst (And.intro hmo hkp)
   obtain ⟨f0, f1, t0, t1, -, -⟩ := hmo
   have hkb : (k : Int) < (l1.length : Int) := by omega
   have hk0 : (0 : Int) ≤ (k : Int) := by omega
   have hSr := show Shut _ from And.intro hrow (And.intro hownL (And.intro hown (And.intro hB hsw)))
   clear hst hkp hlr hmd hxs hrow hownL hown hB hsw
   by_cases hfk : m.fr = kg
   ·have hfb : (m.fr == kg) = true := by simpa using hfk
    have hkv := hid.out.2.2
    rw [if_pos hfk] at hkv
    have hkvs := show Shut _ from hkv
    clear hfk hkv
    go_wp2_with fail
    have hnl : decide (m.to < 0) = false := decide_eq_false (by omega)
    have hwt : IntKind.i64.wrap (1 - (tn : Int)) = 1 - (tn : Int) := by rw [IntKind.wrap_i64]; omega
    refine wp_region_held_drew (S := fun w' : World => PosAt p w.heap.size w' ∧ ownMvs w' W.heap.size (.slice (some ⟨g, 0, none⟩) l1.length c1) l1 ∧ ownMvs w' w2.heap.size u3 xs ∧ Below w.heap.size w w' ∧ w2.heap.size ≤ w'.heap.size) (by kernel_rfl) ⟨hSr.out.1, hSr.out.2.1, hSr.out.2.2.1, hSr.out.2.2.2.1.drew, hSr.out.2.2.2.2⟩ (fun hHeld => ?_)
    clear cf co cp
    refine takeC (i := 0) rfl hHeld ?_
    try simp only [zA, zB, zC, Act.put, zD, zE, zF]
    refine takeC (i := 1) rfl hHeld ?_
    try simp only [zA, zB, zC, Act.put, zD, zE, zF]
    refine takeC (i := 2) rfl hHeld ?_
    try simp only [zA, zB, zC, Act.put, zD, zE, zF]
    refine' takeA (i := 3) (v := _) rfl (yieldsIf_load_mid (by rfl) _ _ rfl _ _ rfl _ _ (fun _ h => h.1.range) Tryz.underlying24 rfl (pos_info p hlp)) hHeld ?_
    try simp only [zA, zB, zC, Act.put, zD, zE, zF]
    refine takeC (i := 4) rfl hHeld ?_
    try simp only [zA, zB, zC, Act.put, zD, zE, zF]
    refine takeC (i := 5) rfl hHeld ?_
    try simp only [zA, zB, zC, Act.put, zD, zE, zF]
    refine takeC (i := 6) rfl hHeld ?_
    try simp only [zA, zB, zC, Act.put, zD, zE, zF]
    refine' takeA (i := 7) (v := _) rfl (yieldsIf_load_mid (by rfl) _ _ rfl _ _ rfl _ _ (fun _ h => hra.out _ h.2.1) Tryz.underlying35 rfl (by kernel_rfl)) hHeld ?_
    try simp only [zA, zB, zC, Act.put, zD, zE, zF]
    refine takeC (i := 9) rfl hHeld ?_
    try simp only [zA, zB, zC, Act.put, zD, zE, zF]
    refine takeC (i := 10) rfl hHeld ?_
    try simp only [zA, zB, zC, Act.put, zD, zE, zF]
    refine takeA (i := 11) (v := ?vla_11_11) rfl (Or.inl ⟨by rfl, ?yla_11_11⟩) hHeld ?rla_11_11
    case yla_11_11 => (intro wq hSw; have hq := h64.out _ hSw.1; clear hSw; go_simp; try with_reducible rfl)
    try simp only [zA, zB, zC, Act.put, zD, zE, zF]
    refine takeC (i := 12) rfl hHeld ?_
    try simp only [zA, zB, zC, Act.put, zD, zE, zF]
    refine wpAnyH_ready (rs := [8]) (by kernel_rfl) (by simp) ?_
    refine AllReadyH.cons rfl (fun K hK => ?_) AllReadyH.nil
    try simp only [zA, zB, zC, Act.put, zD, zE, zF]
    try rw [if_pos (by rfl)]
    go_simp
    refine (hMd.out m hid.out.2.1 _).mono ?_
    rintro e3 w3 ⟨rfl, hb3⟩
    go_wp2_with fail
    refine hK.out _ _ (by have hs := hHeld.2.2.2.1.size; have hz := hb3.size; exact ⟨hHeld.1.below hb3, own_next hHeld.2.1 hb3, own_next hHeld.2.2.1 hb3, hHeld.2.2.2.1.trans (hb3.mono hs), by have := hHeld.2.2.2.2; omega⟩) (fun hHeld => ?_)
    clear hK K
    try simp only [zA, zB, zC, Act.put, zD, zE, zF]
    refine wpAnyH_ready (rs := [13]) (by kernel_rfl) (by simp) ?_
    refine AllReadyH.cons rfl (fun K hK => ?_) AllReadyH.nil
    try simp only [zA, zB, zC, Act.put, zD, zE, zF]
    try rw [if_pos (by rfl)]
    go_simp
    refine (hAt.out m hid.out.2.1 (m.to) (1 - (tn : Int)) t0 t1 _).mono ?_
    rintro e4 w4 ⟨rfl, hb4⟩
    go_wp2_with fail
    refine hK.out _ _ (by have hs := hHeld.2.2.2.1.size; have hz := hb4.size; exact ⟨hHeld.1.below hb4, own_next hHeld.2.1 hb4, own_next hHeld.2.2.1 hb4, hHeld.2.2.2.1.trans (hb4.mono hs), by have := hHeld.2.2.2.2; omega⟩) (fun hHeld => ?_)
    clear hK K
    try simp only [zA, zB, zC, Act.put, zD, zE, zF]
    refine takeC (i := 14) rfl hHeld ?_
    try simp only [zA, zB, zC, Act.put, zD, zE, zF]
    refine takeC (i := 15) rfl hHeld ?_
    try simp only [zA, zB, zC, Act.put, zD, zE, zF]
    refine wpAnyH_done (by kernel_rfl) ?_ _
    have hS4 := show Shut _ from hHeld
    clear hHeld
    generalize hatt : attackedB (madeB p m) (m.to) (1 - (tn : Int)) = at0 at *
    have hats := show Shut _ from hatt
    clear hatt
    cases at0 with
    | true =>
     have hKf : keepM p m = false := by rw [hkvs.out]; rfl
     have hKs := show Shut _ from hKf
     clear hKf
     go_wp2_with fail
     go_roundw
     case rel =>
      have R : ∃ k' : Nat, k' ≤ l1.length ∧ Value.int .i64 ((k : Int) + 1) = .int .i64 (k' : Int) ∧ PosAt p w.heap.size w4 ∧ ownMvs w4 W.heap.size (.slice (some ⟨g, 0, none⟩) l1.length c1) l1 ∧ ownMvs w4 w2.heap.size u3 ((l1.take k').filter (keepM p)) ∧ Below w.heap.size w w4 ∧ w2.heap.size ≤ w4.heap.size := ⟨k + 1, by omega, by go_num, hS4.out.1, hS4.out.2.1, by rw [hid.out.1, hKs.out, if_neg (by decide), List.append_nil]; exact hS4.out.2.2.1, hS4.out.2.2.2.1, hS4.out.2.2.2.2⟩
      first | exact R | ((repeat apply Exists.intro); exact ⟨R, rfl⟩)
     case measure => simp [intOf]; omega
    | false =>
     have hKf : keepM p m = true := by rw [hkvs.out]; rfl
     have hKs := show Shut _ from hKf
     clear hKf
     obtain ⟨cf, co, cp⟩ := hcs.out w4 hS4.out.2.1
     have hownA := hS4.out.2.2.1
     have hszA : w2.heap.size ≤ w4.heap.size := hS4.out.2.2.2.2
     go_wp2_with (with_reducible refine at_appendk (esz := 3) [.int .i64 m.fr, .int .i64 m.to, .int .i64 m.pr] rfl Tryz.underlying30 hi hz0 hz1 hz2 rfl (by decide) (by decide) ?_ w2.heap.size _ _ _ hownA ?_ hszA ?_ ?_ ?_)
     ·intro u hu; simp at hu; rcases hu with rfl | rfl | rfl <;> rfl
     ·omega
     ·rfl
     ·rfl
     intro v' w' hown' hbel' hkeep' hap' hsz'
     have hown2' : ownMvs w' W.heap.size (.slice (some ⟨g, 0, none⟩) l1.length c1) l1 := own_block hS4.out.2.1 (fun q hq => hbel'.block q (by simp [Value.ownBlock] at hq; omega))
     have R : ∃ k' : Nat, k' ≤ l1.length ∧ Value.int .i64 ((k : Int) + 1) = .int .i64 (k' : Int) ∧ PosAt p w.heap.size w' ∧ ownMvs w' W.heap.size (.slice (some ⟨g, 0, none⟩) l1.length c1) l1 ∧ ownMvs w' w2.heap.size v' ((l1.take k').filter (keepM p)) ∧ Below w.heap.size w w' ∧ w2.heap.size ≤ w'.heap.size := by
      refine ⟨k + 1, by omega, by go_num, (hbel'.block w.heap.size hlt2).trans hS4.out.1, hown2', ?_, hS4.out.2.2.2.1.trans (hbel'.mono (by omega)), by omega⟩
      rw [hid.out.1, hKs.out, if_pos rfl]
      unfold ownMvs mvsC
      rw [List.length_append, List.flatMap_append]
      exact hown'
     have RS := show Shut _ from R
     clear R hown' hbel' hkeep' hap' hownA cf co cp
     go_wp2_with fail
     go_roundw
     case rel =>
      have R := RS.out
      first | exact R | ((repeat apply Exists.intro); exact ⟨R, rfl⟩)
     case measure => simp [intOf]; omega
   ·have hfb : (m.fr == kg) = false := by simpa using hfk
    have hkv := hid.out.2.2
    rw [if_neg hfk] at hkv
    have hkvs := show Shut _ from hkv
    clear hfk hkv
    go_wp2_with fail
    have hnl : decide (kg < 0) = false := decide_eq_false (by omega)
    have hwt : IntKind.i64.wrap (1 - (tn : Int)) = 1 - (tn : Int) := by rw [IntKind.wrap_i64]; omega
    refine wp_region_held_drew (S := fun w' : World => PosAt p w.heap.size w' ∧ ownMvs w' W.heap.size (.slice (some ⟨g, 0, none⟩) l1.length c1) l1 ∧ ownMvs w' w2.heap.size u3 xs ∧ Below w.heap.size w w' ∧ w2.heap.size ≤ w'.heap.size) (by kernel_rfl) ⟨hSr.out.1, hSr.out.2.1, hSr.out.2.2.1, hSr.out.2.2.2.1.drew, hSr.out.2.2.2.2⟩ (fun hHeld => ?_)
    clear cf co cp
    refine takeC (i := 0) rfl hHeld ?_
    try simp only [zA, zB, zC, Act.put, zD, zE, zF]
    refine takeC (i := 1) rfl hHeld ?_
    try simp only [zA, zB, zC, Act.put, zD, zE, zF]
    refine takeC (i := 2) rfl hHeld ?_
    try simp only [zA, zB, zC, Act.put, zD, zE, zF]
    refine' takeA (i := 3) (v := _) rfl (yieldsIf_load_mid (by rfl) _ _ rfl _ _ rfl _ _ (fun _ h => h.1.range) Tryz.underlying24 rfl (pos_info p hlp)) hHeld ?_
    try simp only [zA, zB, zC, Act.put, zD, zE, zF]
    refine takeC (i := 4) rfl hHeld ?_
    try simp only [zA, zB, zC, Act.put, zD, zE, zF]
    refine takeC (i := 5) rfl hHeld ?_
    try simp only [zA, zB, zC, Act.put, zD, zE, zF]
    refine takeC (i := 6) rfl hHeld ?_
    try simp only [zA, zB, zC, Act.put, zD, zE, zF]
    refine' takeA (i := 7) (v := _) rfl (yieldsIf_load_mid (by rfl) _ _ rfl _ _ rfl _ _ (fun _ h => hra.out _ h.2.1) Tryz.underlying35 rfl (by kernel_rfl)) hHeld ?_
    try simp only [zA, zB, zC, Act.put, zD, zE, zF]
    refine takeC (i := 9) rfl hHeld ?_
    try simp only [zA, zB, zC, Act.put, zD, zE, zF]
    refine takeC (i := 10) rfl hHeld ?_
    try simp only [zA, zB, zC, Act.put, zD, zE, zF]
    refine takeA (i := 11) (v := ?vlb_11_11) rfl (Or.inl ⟨by rfl, ?ylb_11_11⟩) hHeld ?rlb_11_11
    case ylb_11_11 => (intro wq hSw; have hq := h64.out _ hSw.1; clear hSw; go_simp; try with_reducible rfl)
    try simp only [zA, zB, zC, Act.put, zD, zE, zF]
    refine takeC (i := 12) rfl hHeld ?_
    try simp only [zA, zB, zC, Act.put, zD, zE, zF]
    refine wpAnyH_ready (rs := [8]) (by kernel_rfl) (by simp) ?_
    refine AllReadyH.cons rfl (fun K hK => ?_) AllReadyH.nil
    try simp only [zA, zB, zC, Act.put, zD, zE, zF]
    try rw [if_pos (by rfl)]
    go_simp
    refine (hMd.out m hid.out.2.1 _).mono ?_
    rintro e3 w3 ⟨rfl, hb3⟩
    go_wp2_with fail
    refine hK.out _ _ (by have hs := hHeld.2.2.2.1.size; have hz := hb3.size; exact ⟨hHeld.1.below hb3, own_next hHeld.2.1 hb3, own_next hHeld.2.2.1 hb3, hHeld.2.2.2.1.trans (hb3.mono hs), by have := hHeld.2.2.2.2; omega⟩) (fun hHeld => ?_)
    clear hK K
    try simp only [zA, zB, zC, Act.put, zD, zE, zF]
    refine wpAnyH_ready (rs := [13]) (by kernel_rfl) (by simp) ?_
    refine AllReadyH.cons rfl (fun K hK => ?_) AllReadyH.nil
    try simp only [zA, zB, zC, Act.put, zD, zE, zF]
    try rw [if_pos (by rfl)]
    go_simp
    refine (hAt.out m hid.out.2.1 (kg) (1 - (tn : Int)) hkg hkr.2 _).mono ?_
    rintro e4 w4 ⟨rfl, hb4⟩
    go_wp2_with fail
    refine hK.out _ _ (by have hs := hHeld.2.2.2.1.size; have hz := hb4.size; exact ⟨hHeld.1.below hb4, own_next hHeld.2.1 hb4, own_next hHeld.2.2.1 hb4, hHeld.2.2.2.1.trans (hb4.mono hs), by have := hHeld.2.2.2.2; omega⟩) (fun hHeld => ?_)
    clear hK K
    try simp only [zA, zB, zC, Act.put, zD, zE, zF]
    refine takeC (i := 14) rfl hHeld ?_
    try simp only [zA, zB, zC, Act.put, zD, zE, zF]
    refine takeC (i := 15) rfl hHeld ?_
    try simp only [zA, zB, zC, Act.put, zD, zE, zF]
    refine wpAnyH_done (by kernel_rfl) ?_ _
    have hS4 := show Shut _ from hHeld
    clear hHeld
    generalize hatt : attackedB (madeB p m) (kg) (1 - (tn : Int)) = at0 at *
    have hats := show Shut _ from hatt
    clear hatt
    cases at0 with
    | true =>
     have hKf : keepM p m = false := by rw [hkvs.out]; rfl
     have hKs := show Shut _ from hKf
     clear hKf
     go_wp2_with fail
     go_roundw
     case rel =>
      have R : ∃ k' : Nat, k' ≤ l1.length ∧ Value.int .i64 ((k : Int) + 1) = .int .i64 (k' : Int) ∧ PosAt p w.heap.size w4 ∧ ownMvs w4 W.heap.size (.slice (some ⟨g, 0, none⟩) l1.length c1) l1 ∧ ownMvs w4 w2.heap.size u3 ((l1.take k').filter (keepM p)) ∧ Below w.heap.size w w4 ∧ w2.heap.size ≤ w4.heap.size := ⟨k + 1, by omega, by go_num, hS4.out.1, hS4.out.2.1, by rw [hid.out.1, hKs.out, if_neg (by decide), List.append_nil]; exact hS4.out.2.2.1, hS4.out.2.2.2.1, hS4.out.2.2.2.2⟩
      first | exact R | ((repeat apply Exists.intro); exact ⟨R, rfl⟩)
     case measure => simp [intOf]; omega
    | false =>
     have hKf : keepM p m = true := by rw [hkvs.out]; rfl
     have hKs := show Shut _ from hKf
     clear hKf
     obtain ⟨cf, co, cp⟩ := hcs.out w4 hS4.out.2.1
     have hownA := hS4.out.2.2.1
     have hszA : w2.heap.size ≤ w4.heap.size := hS4.out.2.2.2.2
     go_wp2_with (with_reducible refine at_appendk (esz := 3) [.int .i64 m.fr, .int .i64 m.to, .int .i64 m.pr] rfl Tryz.underlying30 hi hz0 hz1 hz2 rfl (by decide) (by decide) ?_ w2.heap.size _ _ _ hownA ?_ hszA ?_ ?_ ?_)
     ·intro u hu; simp at hu; rcases hu with rfl | rfl | rfl <;> rfl
     ·omega
     ·rfl
     ·rfl
     intro v' w' hown' hbel' hkeep' hap' hsz'
     have hown2' : ownMvs w' W.heap.size (.slice (some ⟨g, 0, none⟩) l1.length c1) l1 := own_block hS4.out.2.1 (fun q hq => hbel'.block q (by simp [Value.ownBlock] at hq; omega))
     have R : ∃ k' : Nat, k' ≤ l1.length ∧ Value.int .i64 ((k : Int) + 1) = .int .i64 (k' : Int) ∧ PosAt p w.heap.size w' ∧ ownMvs w' W.heap.size (.slice (some ⟨g, 0, none⟩) l1.length c1) l1 ∧ ownMvs w' w2.heap.size v' ((l1.take k').filter (keepM p)) ∧ Below w.heap.size w w' ∧ w2.heap.size ≤ w'.heap.size := by
      refine ⟨k + 1, by omega, by go_num, (hbel'.block w.heap.size hlt2).trans hS4.out.1, hown2', ?_, hS4.out.2.2.2.1.trans (hbel'.mono (by omega)), by omega⟩
      rw [hid.out.1, hKs.out, if_pos rfl]
      unfold ownMvs mvsC
      rw [List.length_append, List.flatMap_append]
      exact hown'
     have RS := show Shut _ from R
     clear R hown' hbel' hkeep' hap' hownA cf co cp
     go_wp2_with fail
     go_roundw
     case rel =>
      have R := RS.out
      first | exact R | ((repeat apply Exists.intro); exact ⟨R, rfl⟩)
     case measure => simp [intOf]; omega
  ·obtain rfl : k = l1.length := by omega
   have hSr := show Shut _ from And.intro hown hB
   clear hrow hownL hown hB hsw
   go_wp2_with fail
   go_ret
   have hfin := hSr.out.1
   rw [List.take_length] at hfin
   first
   | exact ⟨_, _, rfl, hpf.out, own_mono hfin (by omega), hSr.out.2⟩
   | exact ⟨_, rfl, _, hpf.out, own_mono hfin (by omega), hSr.out.2⟩
end Go.Proofs.YtnjdgooljnbebaaGreatDoor
namespace Go.Proofs.YtnjdgooljnbebaaGreatDoor
open Go Go.RowKit
open List renaming getElem_toArray → zA, getElem_cons_zero → zB, getElem_cons_succ → zC, setIfInBounds_toArray → zD, set_cons_zero → zE, set_cons_succ → zF
set_option maxHeartbeats 8000000
set_option linter.unusedSimpArgs false
set_option linter.unusedVariables false
set_option maxRecDepth 100000

/-- What a valid position has. -/
structure Sound (p : List Int) (tn : Nat) : Prop where
 pos : Pos p
 turn : p.getD 64 0 = (tn : Int)
 one : tn ≤ 1
 ca0 : 0 ≤ p.getD 65 0
 ca1 : p.getD 65 0 ≤ 15
 ep : -1 ≤ p.getD 66 0 ∧ p.getD 66 0 ≤ 63
 hf : 0 ≤ p.getD 67 0
 fu : 1 ≤ p.getD 68 0
 n1 : cnt p 1 64 = 1
 n7 : cnt p 7 64 = 1
theorem Sound.king0 {p : List Int} {tn : Nat} (h : Sound p tn) : 0 ≤ kingAt p 0 := kingAt_some p 0 (by rw [show (1 : Int) + 6 * 0 = 1 from rfl, h.n1]; decide)
theorem Sound.king1 {p : List Int} {tn : Nat} (h : Sound p tn) : 0 ≤ kingAt p 1 := kingAt_some p 1 (by rw [show (1 : Int) + 6 * 1 = 7 from rfl, h.n7]; decide)
theorem Sound.king {p : List Int} {tn : Nat} (h : Sound p tn) : 0 ≤ kingAt p (tn : Int) := by
 have := h.one
 obtain rfl | rfl : tn = 0 ∨ tn = 1 := by omega
 ·exact h.king0
 ·exact h.king1
theorem valid_sound (p : List Int) (hl : p.length = 69) (h : validB p = true) : ∃ tn : Nat, Sound p tn := by
 rw [validB, Bool.and_eq_true, Bool.and_eq_true, Bool.and_eq_true, Bool.and_eq_true, Bool.and_eq_true, Bool.and_eq_true] at h
 obtain ⟨h1, h2, h3, h4, h5, h6, h7⟩ := h
 have hp := okSq_pos p hl (fun i hi => (List.all_eq_true.1 h1) i (List.mem_range.2 hi))
 simp only [headB, Bool.and_eq_true, Bool.or_eq_true, decide_eq_true_eq] at h2
 obtain ⟨a, b, c, d, e⟩ := h2
 refine ⟨(p.getD 64 0).toNat, hp, by omega, by omega, b, c, ?_, d, e, of_decide_eq_true h3, of_decide_eq_true h4⟩
 rw [passedB] at h6
 by_cases q : p.getD 66 0 < 0 ∨ 63 < p.getD 66 0
 ·rw [if_pos q] at h6
  have := of_decide_eq_true h6
  omega
 ·omega
/-- Whether a position is one that the statements ask of. -/
def askedB (p : List Int) : Bool := validB p && (decide (p.getD 67 0 ≤ 10000) && (decide (p.getD 68 0 ≤ 10000) && decide ((legalL p).length ≤ 218)))
theorem askedB_valid {p : List Int} (h : askedB p = true) : validB p = true := by
 rw [askedB, Bool.and_eq_true] at h; exact h.1
theorem askedB_hf {p : List Int} (h : askedB p = true) : p.getD 67 0 ≤ 10000 := by
 rw [askedB, Bool.and_eq_true, Bool.and_eq_true] at h; exact of_decide_eq_true h.2.1
theorem askedB_fu {p : List Int} (h : askedB p = true) : p.getD 68 0 ≤ 10000 := by
 rw [askedB, Bool.and_eq_true, Bool.and_eq_true, Bool.and_eq_true] at h; exact of_decide_eq_true h.2.2.1
theorem mvs_some {w : World} {base : Nat} {v : Value} {l : List Mv} (h : ownMvs w base v l) : ∃ a c, v = .slice a l.length c := by
 obtain ⟨a, c, h, _⟩ := mvs_slice h
 exact ⟨a, c, h⟩
theorem rt_right (p : List Int) (hl : p.length = 69) (w : World) :
  Calls Tryz.prog 9 #[.agg (ints p)] w fun e w' => e = .returned (.bool (askedB p)) ∧ Below w.heap.size w w' := by
 have hrow0 : PosAt p w.heap.size (w.alloc (.cells (ints p) 24)) := heap_alloc_new w (.cells (ints p) 24)
 have hBW : Below w.heap.size w (w.alloc (.cells (ints p) 24)) := (Below.refl _ _).alloc (Nat.le_refl _) _
 have hgl : w.heap.size < (w.alloc (.cells (ints p) 24)).heap.size := by simp
 have hV := show Shut (∀ W : World, Calls Tryz.prog 27 #[.agg (ints p)] W fun e w' => e = .returned (.bool (validB p)) ∧ Below W.heap.size W w') from fun W => va_valid p hl W
 have hrow : (w.alloc (.cells (ints p) 24)).heap[w.heap.size]? = some (.cells (ints p) 24 (0, 0)) := hrow0
 go_enter Tryz.func9, Tryz.ntmps9
 go_upto_region 1 with (fail)
 generalize w.alloc (.cells (ints p) 24) = W at *
 have hR0 := show Shut _ from hrow0
 clear hrow0
 by_cases hv : validB p = true
 ·obtain ⟨tn, hs⟩ := valid_sound p hl hv
  have hL := show Shut ((p.getD 67 0 ≤ 10000 → p.getD 68 0 ≤ 10000 → ∀ W : World, Calls Tryz.prog 24 #[.agg (ints p)] W fun e w' => ∃ v l', e = .returned v ∧ l'.Perm (legalL p) ∧ ownMvs w' W.heap.size v l' ∧ Below W.heap.size W w')) from fun a b W => lg_legal p hs.pos tn hs.turn hs.one hs.ca0 hs.ca1 hs.ep hs.hf (by omega) (by have := hs.fu; omega) (by omega) (by rw [hs.turn]; exact hs.king) W
  have hRB := show Shut (askedB p = (decide (p.getD 67 0 ≤ 10000) && (decide (p.getD 68 0 ≤ 10000) && decide ((legalL p).length ≤ 218)))) from (show _ = _ from by rw [askedB, hv, Bool.true_and])
  have c67 := show Shut (∀ W' : World, Below W.heap.size W W' → W'.cell? ⟨w.heap.size, 67, none⟩ = some (.int .i64 (p.getD 67 0))) from fun W' hb => PosAt.cell (p := p) (PosAt.below (p := p) hR0.out hb) 67 (by omega)
  have c68 := show Shut (∀ W' : World, Below W.heap.size W W' → W'.cell? ⟨w.heap.size, 68, none⟩ = some (.int .i64 (p.getD 68 0))) from fun W' hb => PosAt.cell (p := p) (PosAt.below (p := p) hR0.out hb) 68 (by omega)
  have hvs := show Shut _ from hv
  have hBs := show Shut _ from hBW
  clear hs hv hBW
  generalize p.getD 67 0 = hf at *
  generalize p.getD 68 0 = fu at *
  by_cases g1 : hf ≤ 10000
  ·by_cases g2 : fu ≤ 10000
   ·go_wp2_with (first
     | ((with_reducible refine at_load_row hrow Tryz.underlying24 rfl ?_ ?_ ?_); (rw [ints_size, hl]; kernel_rfl); rfl)
     | ((with_reducible refine at_load_rowG hrow1 Tryz.underlying24 rfl ?_ ?_ ?_ ?_); (rw [ints_size, hl]; kernel_rfl); rfl; (first | rfl | (simp [Region.wanted, yielded, g1, g2]; done)))
     | (go_at_call 27; refine (hV.out _).mono ?_; rintro e1 w1 ⟨rfl, hb1⟩; rw [hvs.out]; have hc7 := c67.out _ hb1; have hc8 := c68.out _ hb1; have hrow1 := (hb1.block w.heap.size hgl).trans hrow)
     | (go_at_call 24; refine (hL.out g1 g2 _).mono ?_; rintro e2 w2 ⟨v, l', rfl, hpl, hown, hb2⟩; obtain ⟨sa, sc, rfl⟩ := mvs_some hown; have hlen := hpl.length_eq; have hfin := show Shut _ from And.intro hlen (And.intro hb1 hb2)))
    go_ret
    exact ⟨by rw [hRB.out, ← hfin.out.1, decide_eq_true g1, decide_eq_true g2, Bool.true_and, Bool.true_and]; simp; try omega, hBs.out.trans ((hfin.out.2.1.trans (hfin.out.2.2.mono (by have := hfin.out.2.1.size; omega))).mono (by omega))⟩
   ·go_wp2_with (first
     | ((with_reducible refine at_load_row hrow Tryz.underlying24 rfl ?_ ?_ ?_); (rw [ints_size, hl]; kernel_rfl); rfl)
     | (go_at_call 27; refine (hV.out _).mono ?_; rintro e1 w1 ⟨rfl, hb1⟩; rw [hvs.out]; have hc7 := c67.out _ hb1; have hc8 := c68.out _ hb1))
    go_ret
    exact ⟨by rw [hRB.out, decide_eq_false (show ¬ fu ≤ 10000 by omega)]; simp, hBs.out.trans (hb1.mono (by omega))⟩
  ·go_wp2_with (first
    | ((with_reducible refine at_load_row hrow Tryz.underlying24 rfl ?_ ?_ ?_); (rw [ints_size, hl]; kernel_rfl); rfl)
    | (go_at_call 27; refine (hV.out _).mono ?_; rintro e1 w1 ⟨rfl, hb1⟩; rw [hvs.out]; have hc7 := c67.out _ hb1; have hc8 := c68.out _ hb1))
   go_ret
   exact ⟨by rw [hRB.out, decide_eq_false (show ¬ hf ≤ 10000 by omega)]; simp, hBs.out.trans (hb1.mono (by omega))⟩
 ·have hBs := show Shut _ from hBW
  clear hBW
  have hvf : validB p = false := by simpa using hv
  have hvs := show Shut _ from hvf
  clear hv hvf
  go_wp2_with (first
    | ((with_reducible refine at_load_row hrow Tryz.underlying24 rfl ?_ ?_ ?_); (rw [ints_size, hl]; kernel_rfl); rfl)
    | (go_at_call 27; refine (hV.out _).mono ?_; rintro e1 w1 ⟨rfl, hb1⟩; rw [hvs.out]))
  go_ret
  exact ⟨by rw [askedB, hvs.out]; simp, hBs.out.trans (hb1.mono (by omega))⟩
end Go.Proofs.YtnjdgooljnbebaaGreatDoor
