/- spec.Made: the position behind a move. For every position of pieces from 0 to 12, and moves of squares. -/
import Derived.Test.YtplkcmlpomjojaaDoorTk
import Derived.Test.YtplkcmlpomjojaaDoorHk
import Derived.Deep.DeepCutAuto
namespace Go.Proofs.YtplkcmlpomjojaaDoor
open Go Go.RowKit
set_option maxHeartbeats 4000000
set_option linter.unusedSimpArgs false
set_option linter.unusedVariables false
set_option maxRecDepth 100000

def castM (p : List Int) (m : Mv) : Bool := decide (kindOf (pcAt p m.fr) = 1) && (decide (m.to = m.fr + 2) || decide (m.to = m.fr - 2))
def dblM (p : List Int) (m : Mv) : Bool := decide (kindOf (pcAt p m.fr) = 6) && (decide (m.to = m.fr + 16) || decide (m.to = m.fr - 16))
def cornerM (m : Mv) : Int := if m.to < m.fr then 8 * (m.fr / 8) else 8 * (m.fr / 8) + 7
def mdA (p : List Int) (m : Mv) : List Int := if tkIs p m = true then p.set (tkSq p m).toNat 0 else p
def mdB (p : List Int) (m : Mv) : List Int := ((mdA p m).set m.fr.toNat 0).set m.to.toNat (pcAt p m.fr)
def mdC (p : List Int) (m : Mv) : List Int := if m.pr = 0 then mdB p m else (mdB p m).set m.to.toNat (m.pr + 6 * p.getD 64 0)
def mdD (p : List Int) (m : Mv) : List Int := if castM p m = true then ((mdC p m).set (cornerM m).toNat 0).set ((m.fr + m.to) / 2).toNat (3 + 6 * p.getD 64 0) else mdC p m
def mdE (p : List Int) (m : Mv) : List Int := ((mdD p m).set 65 (leftB (p.getD 65 0) m)).set 66 (-1)
def mdF (p : List Int) (m : Mv) : List Int := if dblM p m = true then (mdE p m).set 66 ((m.fr + m.to) / 2) else mdE p m
def mdG (p : List Int) (m : Mv) : List Int := (mdF p m).set 67 (p.getD 67 0 + 1)
def mdH (p : List Int) (m : Mv) : List Int := if (tkIs p m || decide (kindOf (pcAt p m.fr) = 6)) = true then (mdG p m).set 67 0 else mdG p m
/-- The position behind a move. -/
def madeB (p : List Int) (m : Mv) : List Int := ((mdH p m).set 68 (p.getD 68 0 + p.getD 64 0)).set 64 (1 - p.getD 64 0)

structure MdW (p : List Int) (m : Mv) (L : List Int) (b g : Nat) (w wx : World) : Prop where
  pos : PosAt p b wx
  mv : wx.heap[b + 1]? = some (.cells (ints (mvL m)) 52 (0, 0))
  res : wx.heap[b + 1 + 1]? = some (.cells (ints (List.replicate 69 0)) 24 (0, 0))
  out : PosAt L g wx
  bel : Below b w wx
  ap : b + 1 + 1 < g
theorem MdW.set {p : List Int} {m : Mv} {L : List Int} {b g : Nat} {w wx : World} (h : MdW p m L b g w wx) (i : Nat) (z : Int) : MdW p m (L.set i z) b g w (wx.setCell ⟨g, i, none⟩ (.int .i64 z)) := by
  obtain ⟨h1, h2, h3, h4, h5, h6⟩ := h
  exact ⟨(heap_setCell_other wx ⟨g, i, none⟩ b _ (by show b ≠ g; omega)).trans h1, (heap_setCell_other wx ⟨g, i, none⟩ (b + 1) _ (by show b + 1 ≠ g; omega)).trans h2, (heap_setCell_other wx ⟨g, i, none⟩ (b + 1 + 1) _ (by show b + 1 + 1 ≠ g; omega)).trans h3, row_set h4 i z, h5.setCell (p := ⟨g, i, none⟩) (by show b ≤ g; omega) _, h6⟩
theorem MdW.drewN {p : List Int} {m : Mv} {L : List Int} {b g : Nat} {w wx : World} (h : MdW p m L b g w wx) (n : Nat) : MdW p m L b g w (wx.drewN n) := ⟨h.pos, h.mv, h.res, h.out, below_drewN h.bel n, h.ap⟩
theorem MdW.next {p : List Int} {m : Mv} {L : List Int} {b g : Nat} {w wx wy : World} (h : MdW p m L b g w wx) (hb : Below wx.heap.size wx wy) : MdW p m L b g w wy :=
  ⟨h.pos.below hb, (hb.block _ (Array.getElem?_eq_some_iff.1 h.mv).1).trans h.mv, (hb.block _ (Array.getElem?_eq_some_iff.1 h.res).1).trans h.res, h.out.below hb, h.bel.trans (hb.mono (by have := h.out.lt; have := h.ap; omega)), h.ap⟩
theorem MdW.fr {p : List Int} {m : Mv} {L : List Int} {b g : Nat} {w wx : World} (h : MdW p m L b g w wx) : wx.cell? ⟨b + 1, 0, none⟩ = some (.int .i64 m.fr) := row_cell h.mv 0 (by simp [mvL])
theorem MdW.to {p : List Int} {m : Mv} {L : List Int} {b g : Nat} {w wx : World} (h : MdW p m L b g w wx) : wx.cell? ⟨b + 1, 1, none⟩ = some (.int .i64 m.to) := row_cell h.mv 1 (by simp [mvL])
theorem MdW.pr {p : List Int} {m : Mv} {L : List Int} {b g : Nat} {w wx : World} (h : MdW p m L b g w wx) : wx.cell? ⟨b + 1, 2, none⟩ = some (.int .i64 m.pr) := row_cell h.mv 2 (by simp [mvL])
theorem mdA_len (p : List Int) (m : Mv) (hl : p.length = 69) : (mdA p m).length = 69 := by unfold mdA; split <;> simp [hl]
theorem mdB_len (p : List Int) (m : Mv) (hl : p.length = 69) : (mdB p m).length = 69 := by simp [mdB, mdA_len p m hl]
theorem mdC_len (p : List Int) (m : Mv) (hl : p.length = 69) : (mdC p m).length = 69 := by unfold mdC; split <;> simp [mdB_len p m hl]
theorem mdD_len (p : List Int) (m : Mv) (hl : p.length = 69) : (mdD p m).length = 69 := by unfold mdD; split <;> simp [mdC_len p m hl]
theorem mdE_len (p : List Int) (m : Mv) (hl : p.length = 69) : (mdE p m).length = 69 := by simp [mdE, mdD_len p m hl]
theorem mdF_len (p : List Int) (m : Mv) (hl : p.length = 69) : (mdF p m).length = 69 := by unfold mdF; split <;> simp [mdE_len p m hl]
theorem mdG_len (p : List Int) (m : Mv) (hl : p.length = 69) : (mdG p m).length = 69 := by simp [mdG, mdF_len p m hl]
theorem mdH_len (p : List Int) (m : Mv) (hl : p.length = 69) : (mdH p m).length = 69 := by unfold mdH; split <;> simp [mdG_len p m hl]
theorem madeB_len (p : List Int) (m : Mv) (hl : p.length = 69) : (madeB p m).length = 69 := by simp [madeB, mdH_len p m hl]
theorem tk_range (p : List Int) (m : Mv) (hm : MvOk m) (h : tkIs p m = true) : 0 ≤ tkSq p m ∧ tkSq p m ≤ 63 := by
  obtain ⟨f0, f1, t0, t1, -, -⟩ := hm
  unfold tkSq
  by_cases c : pcAt p m.to ≠ 0
  · rw [if_pos c]; omega
  · rw [if_neg c]
    have hp : passing p m = true := by
      unfold tkIs at h
      rw [decide_eq_false c] at h
      simpa using h
    rw [if_pos hp]
    unfold atSq
    rw [if_neg (by omega)]
    omega

theorem me_made (p : List Int) (hp : Pos p) (m : Mv) (hm : MvOk m) (ht0 : 0 ≤ p.getD 64 0) (ht1 : p.getD 64 0 ≤ 1) (hc0 : 0 ≤ p.getD 65 0) (hc1 : p.getD 65 0 ≤ 15) (hh0 : 0 ≤ p.getD 67 0) (hh1 : p.getD 67 0 ≤ 1000000) (hf0 : 0 ≤ p.getD 68 0) (hf1 : p.getD 68 0 ≤ 1000000) (hM67 : (mdF p m).getD 67 0 = p.getD 67 0) (hM68 : (mdH p m).getD 68 0 = p.getD 68 0) (w : World) :
    Calls Tryd.prog 31 #[.agg (ints p), .agg (ints (mvL m))] w fun e w' => e = .returned (.agg (ints (madeB p m))) ∧ Below w.heap.size w w' := by
  have hrow : PosAt p w.heap.size (((w.alloc (.cells (ints p) 24)).alloc (.cells (ints (mvL m)) 52)).alloc (.cells (ints (List.replicate 69 0)) 24)) := heap_keep ((heap_alloc_old _ _ (by simp)).trans (heap_alloc_new w _))
  have hmv : (((w.alloc (.cells (ints p) 24)).alloc (.cells (ints (mvL m)) 52)).alloc (.cells (ints (List.replicate 69 0)) 24)).heap[w.heap.size + 1]? = some (.cells (ints (mvL m)) 52 (0, 0)) := heap_keep (heap_at _ _ _ (by simp))
  have hres : (((w.alloc (.cells (ints p) 24)).alloc (.cells (ints (mvL m)) 52)).alloc (.cells (ints (List.replicate 69 0)) 24)).heap[w.heap.size + 1 + 1]? = some (.cells (ints (List.replicate 69 0)) 24 (0, 0)) := heap_at _ _ _ (by simp)
  have hBW : Below w.heap.size w (((w.alloc (.cells (ints p) 24)).alloc (.cells (ints (mvL m)) 52)).alloc (.cells (ints (List.replicate 69 0)) 24)) := (((Below.refl _ _).alloc (Nat.le_refl _) _).alloc (by simp) _).alloc (by simp; omega) _
  obtain ⟨f0, f1, t0, t1, p0, p1⟩ := hm
  have hlp := hp.len
  have hT0 : p.getD 64 0 = p.getD 64 0 := rfl
  have hC0 : p.getD 65 0 = p.getD 65 0 := rfl
  generalize hT1 : p.getD 64 0 = tn at *
  generalize hC1 : p.getD 65 0 = ca at *
  generalize hH1 : p.getD 67 0 = hn at *
  generalize hF1 : p.getD 68 0 = fn at *
  have hT := show Shut _ from hT1
  have hC := show Shut _ from hC1
  have hH := show Shut _ from hH1
  have hF := show Shut _ from hF1
  have hM67s := show Shut _ from hM67
  have hM68s := show Shut _ from hM68
  clear hT0 hC0 hT1 hC1 hH1 hF1 hM67 hM68
  go_enter Tryd.func31, Tryd.ntmps31
  go_upto_region 1 with (fail)
  change Code.wp _ _ _ _ (((w.alloc (.cells (ints p) 24)).alloc (.cells (ints (mvL m)) 52)).alloc (.cells (ints (List.replicate 69 0)) 24))
  generalize ((w.alloc (.cells (ints p) 24)).alloc (.cells (ints (mvL m)) 52)).alloc (.cells (ints (List.replicate 69 0)) 24) = W at *
  have cf : W.cell? ⟨w.heap.size + 1, 0, none⟩ = some (.int .i64 m.fr) := row_cell hmv 0 (by simp [mvL])
  have co : W.cell? ⟨w.heap.size + 1, 1, none⟩ = some (.int .i64 m.to) := row_cell hmv 1 (by simp [mvL])
  have cp : W.cell? ⟨w.heap.size + 1, 2, none⟩ = some (.int .i64 m.pr) := row_cell hmv 2 (by simp [mvL])
  have cx : W.cell? ⟨w.heap.size, m.fr.toNat, none⟩ = some (.int .i64 (pcAt p m.fr)) := row_cell hrow _ (by rw [hp.len]; omega)
  have x0 : 0 ≤ pcAt p m.fr := hp.lo _ (by omega)
  have x1 : pcAt p m.fr ≤ 12 := hp.hi _ (by omega)
  have hss := show Shut _ from And.intro hrow (And.intro hmv (And.intro hres hBW))
  clear hmv hres hBW
  have hrowU : W.heap[w.heap.size]? = some (.cells (ints p) 24 (0, 0)) := hrow
  clear hrow
  go_upto_region 2 with (fail)
  go_upto_region 3 with (first
    | ((with_reducible refine at_load_row hrowU Tryd.underlying24 rfl ?_ ?_ ?_); (rw [ints_size, hlp]; kernel_rfl); rfl)
    | (go_at_call 46; refine (tk_takes p hp m ⟨f0, f1, t0, t1, p0, p1⟩ _).mono ?_; rintro e1 w1 ⟨rfl, hb1⟩))
  have hrow1 := hss.out.1.below hb1
  have hmv1 := (hb1.block _ (Array.getElem?_eq_some_iff.1 hss.out.2.1).1).trans hss.out.2.1
  have hres1 := (hb1.block _ (Array.getElem?_eq_some_iff.1 hss.out.2.2.1).1).trans hss.out.2.2.1
  have hB1 := hss.out.2.2.2.trans (hb1.mono hss.out.2.2.2.size)
  have hg2 := (Array.getElem?_eq_some_iff.1 hres1).1
  have hrow1U : w1.heap[w.heap.size]? = some (.cells (ints p) 24 (0, 0)) := hrow1
  clear hb1 hss cf co cp cx hrowU
  go_upto_if 22 with (first
    | ((with_reducible refine at_load_row hrow1U Tryd.underlying24 rfl ?_ ?_ ?_); (rw [ints_size, hlp]; kernel_rfl); rfl)
    | ((with_reducible refine at_new_row (ints p) ?_ ?_ ?_ ?_ ?_ ?_); (rw [ints_size, hlp]; kernel_rfl); (rw [ints_size, hlp]; kernel_rfl); exact ints_one _; rfl; rfl; intro W2 rO hC2))
  have hW : MdW p m p w.heap.size w1.heap.size w W2 := ⟨hrow1.below hC2, (hC2.block _ (Array.getElem?_eq_some_iff.1 hmv1).1).trans hmv1, (hC2.block _ (Array.getElem?_eq_some_iff.1 hres1).1).trans hres1, rO, hB1.trans (hC2.mono hB1.size), hg2⟩
  clear hrow1U hrow1 hmv1 hres1 hB1 rO hC2 hg2
  generalize w1.heap.size = g at *
  have h64 := show Shut (∀ (L : List Int) (wx : World), MdW p m L w.heap.size g w wx → wx.cell? ⟨w.heap.size, 64, none⟩ = some (.int .i64 tn)) from fun L wx h => (h.pos.cell 64 (by omega)).trans (by rw [hT.out])
  have h65 := show Shut (∀ (L : List Int) (wx : World), MdW p m L w.heap.size g w wx → wx.cell? ⟨w.heap.size, 65, none⟩ = some (.int .i64 ca)) from fun L wx h => (h.pos.cell 65 (by omega)).trans (by rw [hC.out])
  go_cut [6, 7] (fun s6 s7 wx => s6 = .int .i64 (tkSq p m) ∧ s7 = .bool (tkIs p m) ∧ MdW p m (mdA p m) w.heap.size g w wx)
  case first =>
    cases hI : tkIs p m with
    | true =>
      obtain ⟨k0, k1⟩ := tk_range p m ⟨f0, f1, t0, t1, p0, p1⟩ hI
      have hA : mdA p m = p.set (tkSq p m).toNat 0 := if_pos hI
      have hAs := show Shut _ from hA
      have hc := hW.out.cell (tkSq p m).toNat (by omega)
      have hf := frozen_of_row W2 g (tkSq p m).toNat _ _ hW.out
      have hIs := show Shut _ from hI
      clear hA hI
      generalize tkSq p m = tk at *
      go_wp2_with fail
      go_meet
      exact ⟨rfl, by rw [hIs.out], by rw [hAs.out]; exact hW.set _ 0⟩
    | false =>
      have hA : mdA p m = p := if_neg (by rw [hI]; decide)
      have hAs := show Shut _ from hA
      have hIs := show Shut _ from hI
      clear hA hI
      go_wp2_with fail
      go_meet
      exact ⟨rfl, by rw [hIs.out], by rw [hAs.out]; exact hW⟩
  case rest =>
    obtain ⟨rfl, rfl, hWa⟩ := hcut
    clear hW
    have hla := mdA_len p m hlp
    have cf := hWa.fr
    have co := hWa.to
    have cp := hWa.pr
    have hc := hWa.out.cell m.fr.toNat (by omega)
    have hf := frozen_of_row wc g m.fr.toNat _ _ hWa.out
    go_upto_region 7 with (fail)
    have hWb := hWa.set m.fr.toNat 0
    clear hWa hc hf cf co cp
    generalize wc.setCell ⟨g, m.fr.toNat, none⟩ (.int .i64 0) = w2 at *
    have cf := hWb.fr
    have co := hWb.to
    have cp := hWb.pr
    have hc := hWb.out.cell m.to.toNat (by rw [List.length_set]; omega)
    have hf := frozen_of_row w2 g m.to.toNat _ _ hWb.out
    go_upto_region 8 with (fail)
    have hWc : MdW p m (mdB p m) w.heap.size g w _ := hWb.set m.to.toNat (pcAt p m.fr)
    clear hWb hc hf cf co cp hla
    generalize w2.setCell ⟨g, m.to.toNat, none⟩ (.int .i64 (pcAt p m.fr)) = w3 at *
    have cf := hWc.fr
    have co := hWc.to
    have cp := hWc.pr
    go_upto_if 37 with (fail)
    go_cut [] (fun wx => MdW p m (mdC p m) w.heap.size g w wx)
    case first =>
      by_cases hpr : m.pr = 0
      · have hA : mdC p m = mdB p m := if_pos hpr
        have hAs := show Shut _ from hA
        have hpb : (m.pr != 0) = false := by simpa using hpr
        clear hA hpr
        go_wp2_with fail
        go_meet
        rw [hAs.out]
        exact hWc
      · have hA : mdC p m = (mdB p m).set m.to.toNat (m.pr + 6 * tn) := by rw [← hT.out]; exact if_neg hpr
        have hAs := show Shut _ from hA
        have hpb : (m.pr != 0) = true := by simpa using hpr
        have hlb := mdB_len p m hlp
        have hWs := hWc
        have tt : m.to < 64 := by omega
        clear hA hpr
        go_wp2_with fail

        have hWd : MdW p m (mdB p m) w.heap.size g w w3.drew := ⟨hWc.pos, hWc.mv, hWc.res, hWc.out, hWc.bel.drew, hWc.ap⟩
        refine wp_region_held_drew (S := fun w' : World => ∃ L, MdW p m L w.heap.size g w w') (by kernel_rfl) ⟨_, hWd⟩ (fun hHeld => ?_)
        refine wpAnyH_take (i := 0) (v := ?vm9_1_0) rfl (by kernel_rfl) (by kernel_rfl) (by kernel_rfl) (fun _ _ _ h => h) (Or.inl ⟨by rfl, ?ym9_1_0⟩) hHeld ?rm9_1_0
        case ym9_1_0 => (intro wq hSw; clear hSw; go_simp; try with_reducible rfl)
        try simp only [List.getElem_toArray, List.getElem_cons_zero, List.getElem_cons_succ, Act.put, List.setIfInBounds_toArray, List.set_cons_zero, List.set_cons_succ]
        refine wpAnyH_take (i := 1) (v := ?vm9_2_1) rfl (by kernel_rfl) (by kernel_rfl) (by kernel_rfl) (fun _ _ _ h => h) (Or.inl ⟨by rfl, ?ym9_2_1⟩) hHeld ?rm9_2_1
        case ym9_2_1 => (intro wq hSw; obtain ⟨L, hL⟩ := hSw; have hq := hL.to; clear hL; go_simp; try with_reducible rfl)
        try simp only [List.getElem_toArray, List.getElem_cons_zero, List.getElem_cons_succ, Act.put, List.setIfInBounds_toArray, List.set_cons_zero, List.set_cons_succ]
        refine wpAnyH_take (i := 2) (v := ?vm9_3_2) rfl (by kernel_rfl) (by kernel_rfl) (by kernel_rfl) (fun _ _ _ h => h) (Or.inl ⟨by rfl, ?ym9_3_2⟩) hHeld ?rm9_3_2
        case ym9_3_2 => (intro wq hSw; clear hSw; go_simp; try with_reducible rfl)
        try simp only [List.getElem_toArray, List.getElem_cons_zero, List.getElem_cons_succ, Act.put, List.setIfInBounds_toArray, List.set_cons_zero, List.set_cons_succ]
        refine wpAnyH_take (i := 3) (v := ?vm9_4_3) rfl (by kernel_rfl) (by kernel_rfl) (by kernel_rfl) (fun _ _ _ h => h) (Or.inl ⟨by rfl, ?ym9_4_3⟩) hHeld ?rm9_4_3
        case ym9_4_3 => (intro wq hSw; obtain ⟨L, hL⟩ := hSw; have hq := hL.pr; clear hL; go_simp; try with_reducible rfl)
        try simp only [List.getElem_toArray, List.getElem_cons_zero, List.getElem_cons_succ, Act.put, List.setIfInBounds_toArray, List.set_cons_zero, List.set_cons_succ]
        refine wpAnyH_take (i := 4) (v := ?vm9_5_4) rfl (by kernel_rfl) (by kernel_rfl) (by kernel_rfl) (fun _ _ _ h => h) (Or.inl ⟨by rfl, ?ym9_5_4⟩) hHeld ?rm9_5_4
        case ym9_5_4 => (intro wq hSw; clear hSw; go_simp; try with_reducible rfl)
        try simp only [List.getElem_toArray, List.getElem_cons_zero, List.getElem_cons_succ, Act.put, List.setIfInBounds_toArray, List.set_cons_zero, List.set_cons_succ]
        refine wpAnyH_take (i := 5) (v := ?vm9_6_5) rfl (by kernel_rfl) (by kernel_rfl) (by kernel_rfl) (fun _ _ _ h => h) (Or.inl ⟨by rfl, ?ym9_6_5⟩) hHeld ?rm9_6_5
        case ym9_6_5 => (intro wq hSw; obtain ⟨L, hL⟩ := hSw; have hq := h64.out _ _ hL; clear hL; go_simp; try with_reducible rfl)
        try simp only [List.getElem_toArray, List.getElem_cons_zero, List.getElem_cons_succ, Act.put, List.setIfInBounds_toArray, List.set_cons_zero, List.set_cons_succ]
        refine wpAnyH_take (i := 7) (v := ?vm9_7_7) rfl (by kernel_rfl) (by kernel_rfl) (by kernel_rfl) (fun _ _ _ h => h) (Or.inl ⟨by rfl, ?ym9_7_7⟩) hHeld ?rm9_7_7
        case ym9_7_7 => (intro wq hSw; clear hSw; go_simp; try with_reducible rfl)
        try simp only [List.getElem_toArray, List.getElem_cons_zero, List.getElem_cons_succ, Act.put, List.setIfInBounds_toArray, List.set_cons_zero, List.set_cons_succ]
        refine wpAnyH_ready (rs := [6]) (by kernel_rfl) (by simp) ?_
        refine AllReadyH.cons rfl (fun K hK => ?_) AllReadyH.nil
        try simp only [List.getElem_toArray, List.getElem_cons_zero, List.getElem_cons_succ, Act.put, List.setIfInBounds_toArray, List.set_cons_zero, List.set_cons_succ]
        try rw [if_pos (by rfl)]
        go_simp
        refine (po_of _ _ _ p0 p1 ht0 ht1).mono ?_
        rintro e1 w4 ⟨rfl, rfl⟩
        go_wp2_with fail
        refine hK.out _ _ (hHeld) (fun hHeld => ?_)
        clear hK K
        try simp only [List.getElem_toArray, List.getElem_cons_zero, List.getElem_cons_succ, Act.put, List.setIfInBounds_toArray, List.set_cons_zero, List.set_cons_succ]
        refine wpAnyH_take (i := 8) (v := ?vm9_8_8) rfl (by kernel_rfl) (by kernel_rfl) (by kernel_rfl) (fun _ _ _ h => h) (Or.inl ⟨by rfl, ?ym9_8_8⟩) hHeld ?rm9_8_8
        case ym9_8_8 => (intro wq hSw; clear hSw; go_simp; try with_reducible rfl)
        try simp only [List.getElem_toArray, List.getElem_cons_zero, List.getElem_cons_succ, Act.put, List.setIfInBounds_toArray, List.set_cons_zero, List.set_cons_succ]
        refine wpAnyH_ready (rs := [9]) (by kernel_rfl) (by simp) ?_
        refine AllReadyH.cons rfl (fun K hK => ?_) AllReadyH.nil
        try simp only [List.getElem_toArray, List.getElem_cons_zero, List.getElem_cons_succ, Act.put, List.setIfInBounds_toArray, List.set_cons_zero, List.set_cons_succ]
        rw [if_pos (by rfl)]
        refine wp_store_one 3 _ _ rfl g m.to.toNat (.int .i64 (m.pr + 6 * tn)) (by rfl) (by rfl) rfl rfl 24 _ hWd.out (by rw [ints_size]; first | omega | (rw [List.length_set]; omega)) (by kernel_rfl) ?_
        have hWn := hWd.set m.to.toNat (m.pr + 6 * tn)
        rw [← hAs.out] at hWn
        clear hWd hWc hHeld
        generalize w3.drew.setCell ⟨g, m.to.toNat, none⟩ (.int .i64 (m.pr + 6 * tn)) = w5 at *
        refine hK.out _ _ ⟨_, hWn⟩ (fun _ => ?_)
        clear hK K
        try simp only [List.getElem_toArray, List.getElem_cons_zero, List.getElem_cons_succ, Act.put, List.setIfInBounds_toArray, List.set_cons_zero, List.set_cons_succ]
        refine wpAnyH_done (by kernel_rfl) ?_ _
        go_wp2_with fail
        go_meet
        exact hWn
    case rest =>
      have hW4 := hcut
      clear hWc cf co cp
      have cf := hW4.fr
      have co := hW4.to
      go_upto_region 10 with (fail)
      go_cut [65] (fun s65 wx => s65 = .bool (castM p m) ∧ MdW p m (mdC p m) w.heap.size g w wx)
      case first =>
        by_cases k1 : kindOf (pcAt p m.fr) = 1
        · by_cases e1 : m.to = m.fr + 2
          · have hM : castM p m = true := by simp [castM, k1, e1]
            have hMs := show Shut _ from hM
            have k1b : (kindOf (pcAt p m.fr) == 1) = true := by simpa using k1
            have e1b : (m.to == m.fr + 2) = true := by simpa using e1
            have ee := show Shut _ from And.intro k1 e1
            clear hM k1 e1
            go_wp2_with (first | (go_at_call 24; refine (po_kindOf _ _ (by omega)).mono ?_; rintro e1 w1 ⟨rfl, rfl⟩))
            go_meet
            exact ⟨by rw [hMs.out], hW4⟩
          · have e1b : (m.to == m.fr + 2) = false := by simpa using e1
            have k1b : (kindOf (pcAt p m.fr) == 1) = true := by simpa using k1
            by_cases e2 : m.to = m.fr - 2
            · have hM : castM p m = true := by simp [castM, k1, e2]
              have hMs := show Shut _ from hM
              have e2b : (m.to == m.fr - 2) = true := by simpa using e2
              have ee := show Shut _ from And.intro k1 e2
              clear hM k1 e1 e2
              go_wp2_with (first | (go_at_call 24; refine (po_kindOf _ _ (by omega)).mono ?_; rintro e1 w1 ⟨rfl, rfl⟩))
              go_meet
              exact ⟨by rw [hMs.out], hW4⟩
            · have hM : castM p m = false := by simp [castM, e1, e2]
              have hMs := show Shut _ from hM
              have e2b : (m.to == m.fr - 2) = false := by simpa using e2
              clear hM k1 e1 e2
              go_wp2_with (first | (go_at_call 24; refine (po_kindOf _ _ (by omega)).mono ?_; rintro e1 w1 ⟨rfl, rfl⟩))
              go_meet
              exact ⟨by rw [hMs.out], hW4⟩
        · have hM : castM p m = false := by simp [castM, k1]
          have hMs := show Shut _ from hM
          have k1b : (kindOf (pcAt p m.fr) == 1) = false := by simpa using k1
          clear hM k1
          go_wp2_with (first | (go_at_call 24; refine (po_kindOf _ _ (by omega)).mono ?_; rintro e1 w1 ⟨rfl, rfl⟩))
          go_meet
          exact ⟨by rw [hMs.out], hW4⟩
      case rest =>
        obtain ⟨rfl, hW5⟩ := hcut
        clear hW4 cf co
        go_upto_if 65 with (fail)
        go_cut [] (fun wx => MdW p m (mdD p m) w.heap.size g w wx)
        case first =>
          have hlc := mdC_len p m hlp
          cases hM : castM p m with
          | false =>
            have hA : mdD p m = mdC p m := if_neg (by rw [hM]; decide)
            have hAs := show Shut _ from hA
            clear hA hM
            go_wp2_with fail
            go_meet
            rw [hAs.out]
            exact hW5
          | true =>
            have hA : mdD p m = ((mdC p m).set (cornerM m).toNat 0).set ((m.fr + m.to) / 2).toNat (3 + 6 * tn) := by rw [← hT.out]; exact if_pos hM
            have hAs := show Shut _ from hA
            have hcr : 0 ≤ cornerM m ∧ cornerM m ≤ 63 := by unfold cornerM; split <;> omega
            obtain ⟨r0, r1⟩ := hcr
            have c7 : atSq 7 (m.fr / 8) = 8 * (m.fr / 8) + 7 := by unfold atSq; rw [if_neg (by omega)]
            have c00 : atSq 0 (m.fr / 8) = 8 * (m.fr / 8) := by unfold atSq; rw [if_neg (by omega)]; omega
            have hcd : cornerM m = if m.to < m.fr then 8 * (m.fr / 8) else 8 * (m.fr / 8) + 7 := rfl
            have hA7 : ∀ W : World, Calls Tryd.prog 41 #[.int .i64 7, .int .i64 (m.fr / 8)] W fun e w' => e = .returned (.int .i64 (8 * (m.fr / 8) + 7)) ∧ W = w' := fun W => by have := po_at 7 (m.fr / 8) W (by omega) (by omega) (by omega) (by omega); rw [c7] at this; exact this
            have hA0 : ∀ W : World, Calls Tryd.prog 41 #[.int .i64 0, .int .i64 (m.fr / 8)] W fun e w' => e = .returned (.int .i64 (8 * (m.fr / 8))) ∧ W = w' := fun W => by have := po_at 0 (m.fr / 8) W (by omega) (by omega) (by omega) (by omega); rw [c00] at this; exact this
            have hAt := show Shut _ from And.intro hA7 hA0
            have hMs := show Shut _ from hM
            have cf := hW5.fr
            have co := hW5.to
            clear hA hM c7 c00 hA7 hA0
            by_cases hlt : m.to < m.fr
            · rw [if_pos hlt] at hcd
              rw [hcd] at hAs r0 r1
              clear hcd
              generalize hcn : 8 * (m.fr / 8) = cn at *
              have hcs := show Shut _ from hcn
              clear hcn
              have hc := hW5.out.cell cn.toNat (by omega)
              have hf := frozen_of_row wc g cn.toNat _ _ hW5.out
              go_upto_region 15 with (first
                | (go_at_call 25; refine (po_rank _ _ (by omega) (by omega)).mono ?_; rintro e1 w1 ⟨rfl, rfl⟩)
                | (go_at_call 41; with_reducible refine (hAt.out.1 _).mono ?_; rintro e1 w1 ⟨rfl, rfl⟩)
                | (go_at_call 41; with_reducible refine (hAt.out.2 _).mono ?_; rintro e1 w1 ⟨rfl, rfl⟩))
              have hWd := hW5.set cn.toNat 0
              clear hc hf cf co hW5
              generalize wc.setCell ⟨g, cn.toNat, none⟩ (.int .i64 0) = w6 at *
              have hWe : MdW p m ((mdC p m).set cn.toNat 0) w.heap.size g w w6.drew := ⟨hWd.pos, hWd.mv, hWd.res, hWd.out, hWd.bel.drew, hWd.ap⟩
              have hws : IntKind.i64.wrap (m.fr + m.to) = m.fr + m.to := by rw [IntKind.wrap_i64]; omega
              have htd : Int.tdiv (m.fr + m.to) 2 = (m.fr + m.to) / 2 := by rw [Int.tdiv_eq_ediv_of_nonneg (by omega)]
              have hwt : IntKind.i64.wrap ((m.fr + m.to) / 2) = (m.fr + m.to) / 2 := by rw [IntKind.wrap_i64]; omega
              have hh0 : 0 ≤ (m.fr + m.to) / 2 := by omega
              have hh1 : (m.fr + m.to) / 2 ≤ 63 := by omega
              have hh2 : (m.fr + m.to) / 2 < 64 := by omega
              refine wp_region_held_drew (S := fun w' : World => ∃ L, MdW p m L w.heap.size g w w') (by kernel_rfl) ⟨_, hWe⟩ (fun hHeld => ?_)
              refine wpAnyH_take (i := 0) (v := ?vca_1_0) rfl (by kernel_rfl) (by kernel_rfl) (by kernel_rfl) (fun _ _ _ h => h) (Or.inl ⟨by rfl, ?yca_1_0⟩) hHeld ?rca_1_0
              case yca_1_0 => (intro wq hSw; clear hSw; go_simp; try with_reducible rfl)
              try simp only [List.getElem_toArray, List.getElem_cons_zero, List.getElem_cons_succ, Act.put, List.setIfInBounds_toArray, List.set_cons_zero, List.set_cons_succ]
              refine wpAnyH_take (i := 1) (v := ?vca_2_1) rfl (by kernel_rfl) (by kernel_rfl) (by kernel_rfl) (fun _ _ _ h => h) (Or.inl ⟨by rfl, ?yca_2_1⟩) hHeld ?rca_2_1
              case yca_2_1 => (intro wq hSw; obtain ⟨L, hL⟩ := hSw; have hq := hL.fr; clear hL; go_simp; try with_reducible rfl)
              try simp only [List.getElem_toArray, List.getElem_cons_zero, List.getElem_cons_succ, Act.put, List.setIfInBounds_toArray, List.set_cons_zero, List.set_cons_succ]
              refine wpAnyH_take (i := 2) (v := ?vca_3_2) rfl (by kernel_rfl) (by kernel_rfl) (by kernel_rfl) (fun _ _ _ h => h) (Or.inl ⟨by rfl, ?yca_3_2⟩) hHeld ?rca_3_2
              case yca_3_2 => (intro wq hSw; clear hSw; go_simp; try with_reducible rfl)
              try simp only [List.getElem_toArray, List.getElem_cons_zero, List.getElem_cons_succ, Act.put, List.setIfInBounds_toArray, List.set_cons_zero, List.set_cons_succ]
              refine wpAnyH_take (i := 3) (v := ?vca_4_3) rfl (by kernel_rfl) (by kernel_rfl) (by kernel_rfl) (fun _ _ _ h => h) (Or.inl ⟨by rfl, ?yca_4_3⟩) hHeld ?rca_4_3
              case yca_4_3 => (intro wq hSw; obtain ⟨L, hL⟩ := hSw; have hq := hL.to; clear hL; go_simp; try with_reducible rfl)
              try simp only [List.getElem_toArray, List.getElem_cons_zero, List.getElem_cons_succ, Act.put, List.setIfInBounds_toArray, List.set_cons_zero, List.set_cons_succ]
              refine wpAnyH_take (i := 4) (v := ?vca_5_4) rfl (by kernel_rfl) (by kernel_rfl) (by kernel_rfl) (fun _ _ _ h => h) (Or.inl ⟨by rfl, ?yca_5_4⟩) hHeld ?rca_5_4
              case yca_5_4 => (intro wq hSw; clear hSw; go_simp; try with_reducible rfl)
              try simp only [List.getElem_toArray, List.getElem_cons_zero, List.getElem_cons_succ, Act.put, List.setIfInBounds_toArray, List.set_cons_zero, List.set_cons_succ]
              refine wpAnyH_take (i := 5) (v := ?vca_6_5) rfl (by kernel_rfl) (by kernel_rfl) (by kernel_rfl) (fun _ _ _ h => h) (Or.inl ⟨by rfl, ?yca_6_5⟩) hHeld ?rca_6_5
              case yca_6_5 => (intro wq hSw; clear hSw; go_simp; try with_reducible rfl)
              try simp only [List.getElem_toArray, List.getElem_cons_zero, List.getElem_cons_succ, Act.put, List.setIfInBounds_toArray, List.set_cons_zero, List.set_cons_succ]
              refine wpAnyH_take (i := 6) (v := ?vca_7_6) rfl (by kernel_rfl) (by kernel_rfl) (by kernel_rfl) (fun _ _ _ h => h) (Or.inl ⟨by rfl, ?yca_7_6⟩) hHeld ?rca_7_6
              case yca_7_6 => (intro wq hSw; clear hSw; go_simp; try with_reducible rfl)
              try simp only [List.getElem_toArray, List.getElem_cons_zero, List.getElem_cons_succ, Act.put, List.setIfInBounds_toArray, List.set_cons_zero, List.set_cons_succ]
              refine wpAnyH_take (i := 7) (v := ?vca_8_7) rfl (by kernel_rfl) (by kernel_rfl) (by kernel_rfl) (fun _ _ _ h => h) (Or.inl ⟨by rfl, ?yca_8_7⟩) hHeld ?rca_8_7
              case yca_8_7 => (intro wq hSw; obtain ⟨L, hL⟩ := hSw; have hq := h64.out _ _ hL; clear hL; go_simp; try with_reducible rfl)
              try simp only [List.getElem_toArray, List.getElem_cons_zero, List.getElem_cons_succ, Act.put, List.setIfInBounds_toArray, List.set_cons_zero, List.set_cons_succ]
              refine wpAnyH_take (i := 9) (v := ?vca_9_9) rfl (by kernel_rfl) (by kernel_rfl) (by kernel_rfl) (fun _ _ _ h => h) (Or.inl ⟨by rfl, ?yca_9_9⟩) hHeld ?rca_9_9
              case yca_9_9 => (intro wq hSw; clear hSw; go_simp; try with_reducible rfl)
              try simp only [List.getElem_toArray, List.getElem_cons_zero, List.getElem_cons_succ, Act.put, List.setIfInBounds_toArray, List.set_cons_zero, List.set_cons_succ]
              refine wpAnyH_ready (rs := [8]) (by kernel_rfl) (by simp) ?_
              refine AllReadyH.cons rfl (fun K hK => ?_) AllReadyH.nil
              try simp only [List.getElem_toArray, List.getElem_cons_zero, List.getElem_cons_succ, Act.put, List.setIfInBounds_toArray, List.set_cons_zero, List.set_cons_succ]
              try rw [if_pos (by rfl)]
              go_simp
              refine (po_of _ _ _ (by decide) (by decide) ht0 ht1).mono ?_
              rintro e1 w7 ⟨rfl, rfl⟩
              go_wp2_with fail
              refine hK.out _ _ (hHeld) (fun hHeld => ?_)
              clear hK K
              try simp only [List.getElem_toArray, List.getElem_cons_zero, List.getElem_cons_succ, Act.put, List.setIfInBounds_toArray, List.set_cons_zero, List.set_cons_succ]
              refine wpAnyH_take (i := 10) (v := ?vca_10_10) rfl (by kernel_rfl) (by kernel_rfl) (by kernel_rfl) (fun _ _ _ h => h) (Or.inl ⟨by rfl, ?yca_10_10⟩) hHeld ?rca_10_10
              case yca_10_10 => (intro wq hSw; clear hSw; go_simp; try with_reducible rfl)
              try simp only [List.getElem_toArray, List.getElem_cons_zero, List.getElem_cons_succ, Act.put, List.setIfInBounds_toArray, List.set_cons_zero, List.set_cons_succ]
              refine wpAnyH_ready (rs := [11]) (by kernel_rfl) (by simp) ?_
              refine AllReadyH.cons rfl (fun K hK => ?_) AllReadyH.nil
              try simp only [List.getElem_toArray, List.getElem_cons_zero, List.getElem_cons_succ, Act.put, List.setIfInBounds_toArray, List.set_cons_zero, List.set_cons_succ]
              rw [if_pos (by rfl)]
              refine wp_store_one 3 _ _ rfl g ((m.fr + m.to) / 2).toNat (.int .i64 (3 + 6 * tn)) (by rfl) (by rfl) rfl rfl 24 _ hWe.out (by rw [ints_size]; first | omega | (rw [List.length_set]; omega)) (by kernel_rfl) ?_
              have hWn := hWe.set ((m.fr + m.to) / 2).toNat (3 + 6 * tn)
              rw [← hAs.out] at hWn
              clear hWe hWd hHeld
              generalize w6.drew.setCell ⟨g, ((m.fr + m.to) / 2).toNat, none⟩ (.int .i64 (3 + 6 * tn)) = w8 at *
              refine hK.out _ _ ⟨_, hWn⟩ (fun _ => ?_)
              clear hK K
              try simp only [List.getElem_toArray, List.getElem_cons_zero, List.getElem_cons_succ, Act.put, List.setIfInBounds_toArray, List.set_cons_zero, List.set_cons_succ]
              refine wpAnyH_done (by kernel_rfl) ?_ _
              go_wp2_with fail
              go_meet
              exact hWn
            · rw [if_neg hlt] at hcd
              rw [hcd] at hAs r0 r1
              clear hcd
              generalize hcn : 8 * (m.fr / 8) + 7 = cn at *
              have hcs := show Shut _ from hcn
              clear hcn
              have hc := hW5.out.cell cn.toNat (by omega)
              have hf := frozen_of_row wc g cn.toNat _ _ hW5.out
              go_upto_region 15 with (first
                | (go_at_call 25; refine (po_rank _ _ (by omega) (by omega)).mono ?_; rintro e1 w1 ⟨rfl, rfl⟩)
                | (go_at_call 41; with_reducible refine (hAt.out.1 _).mono ?_; rintro e1 w1 ⟨rfl, rfl⟩))
              have hWd := hW5.set cn.toNat 0
              clear hc hf cf co hW5
              generalize wc.setCell ⟨g, cn.toNat, none⟩ (.int .i64 0) = w6 at *
              have hWe : MdW p m ((mdC p m).set cn.toNat 0) w.heap.size g w w6.drew := ⟨hWd.pos, hWd.mv, hWd.res, hWd.out, hWd.bel.drew, hWd.ap⟩
              have hws : IntKind.i64.wrap (m.fr + m.to) = m.fr + m.to := by rw [IntKind.wrap_i64]; omega
              have htd : Int.tdiv (m.fr + m.to) 2 = (m.fr + m.to) / 2 := by rw [Int.tdiv_eq_ediv_of_nonneg (by omega)]
              have hwt : IntKind.i64.wrap ((m.fr + m.to) / 2) = (m.fr + m.to) / 2 := by rw [IntKind.wrap_i64]; omega
              have hh0 : 0 ≤ (m.fr + m.to) / 2 := by omega
              have hh1 : (m.fr + m.to) / 2 ≤ 63 := by omega
              have hh2 : (m.fr + m.to) / 2 < 64 := by omega
              refine wp_region_held_drew (S := fun w' : World => ∃ L, MdW p m L w.heap.size g w w') (by kernel_rfl) ⟨_, hWe⟩ (fun hHeld => ?_)
              refine wpAnyH_take (i := 0) (v := ?vcb_1_0) rfl (by kernel_rfl) (by kernel_rfl) (by kernel_rfl) (fun _ _ _ h => h) (Or.inl ⟨by rfl, ?ycb_1_0⟩) hHeld ?rcb_1_0
              case ycb_1_0 => (intro wq hSw; clear hSw; go_simp; try with_reducible rfl)
              try simp only [List.getElem_toArray, List.getElem_cons_zero, List.getElem_cons_succ, Act.put, List.setIfInBounds_toArray, List.set_cons_zero, List.set_cons_succ]
              refine wpAnyH_take (i := 1) (v := ?vcb_2_1) rfl (by kernel_rfl) (by kernel_rfl) (by kernel_rfl) (fun _ _ _ h => h) (Or.inl ⟨by rfl, ?ycb_2_1⟩) hHeld ?rcb_2_1
              case ycb_2_1 => (intro wq hSw; obtain ⟨L, hL⟩ := hSw; have hq := hL.fr; clear hL; go_simp; try with_reducible rfl)
              try simp only [List.getElem_toArray, List.getElem_cons_zero, List.getElem_cons_succ, Act.put, List.setIfInBounds_toArray, List.set_cons_zero, List.set_cons_succ]
              refine wpAnyH_take (i := 2) (v := ?vcb_3_2) rfl (by kernel_rfl) (by kernel_rfl) (by kernel_rfl) (fun _ _ _ h => h) (Or.inl ⟨by rfl, ?ycb_3_2⟩) hHeld ?rcb_3_2
              case ycb_3_2 => (intro wq hSw; clear hSw; go_simp; try with_reducible rfl)
              try simp only [List.getElem_toArray, List.getElem_cons_zero, List.getElem_cons_succ, Act.put, List.setIfInBounds_toArray, List.set_cons_zero, List.set_cons_succ]
              refine wpAnyH_take (i := 3) (v := ?vcb_4_3) rfl (by kernel_rfl) (by kernel_rfl) (by kernel_rfl) (fun _ _ _ h => h) (Or.inl ⟨by rfl, ?ycb_4_3⟩) hHeld ?rcb_4_3
              case ycb_4_3 => (intro wq hSw; obtain ⟨L, hL⟩ := hSw; have hq := hL.to; clear hL; go_simp; try with_reducible rfl)
              try simp only [List.getElem_toArray, List.getElem_cons_zero, List.getElem_cons_succ, Act.put, List.setIfInBounds_toArray, List.set_cons_zero, List.set_cons_succ]
              refine wpAnyH_take (i := 4) (v := ?vcb_5_4) rfl (by kernel_rfl) (by kernel_rfl) (by kernel_rfl) (fun _ _ _ h => h) (Or.inl ⟨by rfl, ?ycb_5_4⟩) hHeld ?rcb_5_4
              case ycb_5_4 => (intro wq hSw; clear hSw; go_simp; try with_reducible rfl)
              try simp only [List.getElem_toArray, List.getElem_cons_zero, List.getElem_cons_succ, Act.put, List.setIfInBounds_toArray, List.set_cons_zero, List.set_cons_succ]
              refine wpAnyH_take (i := 5) (v := ?vcb_6_5) rfl (by kernel_rfl) (by kernel_rfl) (by kernel_rfl) (fun _ _ _ h => h) (Or.inl ⟨by rfl, ?ycb_6_5⟩) hHeld ?rcb_6_5
              case ycb_6_5 => (intro wq hSw; clear hSw; go_simp; try with_reducible rfl)
              try simp only [List.getElem_toArray, List.getElem_cons_zero, List.getElem_cons_succ, Act.put, List.setIfInBounds_toArray, List.set_cons_zero, List.set_cons_succ]
              refine wpAnyH_take (i := 6) (v := ?vcb_7_6) rfl (by kernel_rfl) (by kernel_rfl) (by kernel_rfl) (fun _ _ _ h => h) (Or.inl ⟨by rfl, ?ycb_7_6⟩) hHeld ?rcb_7_6
              case ycb_7_6 => (intro wq hSw; clear hSw; go_simp; try with_reducible rfl)
              try simp only [List.getElem_toArray, List.getElem_cons_zero, List.getElem_cons_succ, Act.put, List.setIfInBounds_toArray, List.set_cons_zero, List.set_cons_succ]
              refine wpAnyH_take (i := 7) (v := ?vcb_8_7) rfl (by kernel_rfl) (by kernel_rfl) (by kernel_rfl) (fun _ _ _ h => h) (Or.inl ⟨by rfl, ?ycb_8_7⟩) hHeld ?rcb_8_7
              case ycb_8_7 => (intro wq hSw; obtain ⟨L, hL⟩ := hSw; have hq := h64.out _ _ hL; clear hL; go_simp; try with_reducible rfl)
              try simp only [List.getElem_toArray, List.getElem_cons_zero, List.getElem_cons_succ, Act.put, List.setIfInBounds_toArray, List.set_cons_zero, List.set_cons_succ]
              refine wpAnyH_take (i := 9) (v := ?vcb_9_9) rfl (by kernel_rfl) (by kernel_rfl) (by kernel_rfl) (fun _ _ _ h => h) (Or.inl ⟨by rfl, ?ycb_9_9⟩) hHeld ?rcb_9_9
              case ycb_9_9 => (intro wq hSw; clear hSw; go_simp; try with_reducible rfl)
              try simp only [List.getElem_toArray, List.getElem_cons_zero, List.getElem_cons_succ, Act.put, List.setIfInBounds_toArray, List.set_cons_zero, List.set_cons_succ]
              refine wpAnyH_ready (rs := [8]) (by kernel_rfl) (by simp) ?_
              refine AllReadyH.cons rfl (fun K hK => ?_) AllReadyH.nil
              try simp only [List.getElem_toArray, List.getElem_cons_zero, List.getElem_cons_succ, Act.put, List.setIfInBounds_toArray, List.set_cons_zero, List.set_cons_succ]
              try rw [if_pos (by rfl)]
              go_simp
              refine (po_of _ _ _ (by decide) (by decide) ht0 ht1).mono ?_
              rintro e1 w7 ⟨rfl, rfl⟩
              go_wp2_with fail
              refine hK.out _ _ (hHeld) (fun hHeld => ?_)
              clear hK K
              try simp only [List.getElem_toArray, List.getElem_cons_zero, List.getElem_cons_succ, Act.put, List.setIfInBounds_toArray, List.set_cons_zero, List.set_cons_succ]
              refine wpAnyH_take (i := 10) (v := ?vcb_10_10) rfl (by kernel_rfl) (by kernel_rfl) (by kernel_rfl) (fun _ _ _ h => h) (Or.inl ⟨by rfl, ?ycb_10_10⟩) hHeld ?rcb_10_10
              case ycb_10_10 => (intro wq hSw; clear hSw; go_simp; try with_reducible rfl)
              try simp only [List.getElem_toArray, List.getElem_cons_zero, List.getElem_cons_succ, Act.put, List.setIfInBounds_toArray, List.set_cons_zero, List.set_cons_succ]
              refine wpAnyH_ready (rs := [11]) (by kernel_rfl) (by simp) ?_
              refine AllReadyH.cons rfl (fun K hK => ?_) AllReadyH.nil
              try simp only [List.getElem_toArray, List.getElem_cons_zero, List.getElem_cons_succ, Act.put, List.setIfInBounds_toArray, List.set_cons_zero, List.set_cons_succ]
              rw [if_pos (by rfl)]
              refine wp_store_one 3 _ _ rfl g ((m.fr + m.to) / 2).toNat (.int .i64 (3 + 6 * tn)) (by rfl) (by rfl) rfl rfl 24 _ hWe.out (by rw [ints_size]; first | omega | (rw [List.length_set]; omega)) (by kernel_rfl) ?_
              have hWn := hWe.set ((m.fr + m.to) / 2).toNat (3 + 6 * tn)
              rw [← hAs.out] at hWn
              clear hWe hWd hHeld
              generalize w6.drew.setCell ⟨g, ((m.fr + m.to) / 2).toNat, none⟩ (.int .i64 (3 + 6 * tn)) = w8 at *
              refine hK.out _ _ ⟨_, hWn⟩ (fun _ => ?_)
              clear hK K
              try simp only [List.getElem_toArray, List.getElem_cons_zero, List.getElem_cons_succ, Act.put, List.setIfInBounds_toArray, List.set_cons_zero, List.set_cons_succ]
              refine wpAnyH_done (by kernel_rfl) ?_ _
              go_wp2_with fail
              go_meet
              exact hWn
        case rest =>
          have hW6 := hcut
          clear hW5
          have cf := hW6.fr
          have co := hW6.to
          have cp := hW6.pr
          have c65 := h65.out _ _ hW6
          have hld := mdD_len p m hlp
          go_upto_region 17 with (first | (go_at_call 47; refine (md_left ca m hc0 hc1 _).mono ?_; rintro e1 w9 ⟨rfl, hb9⟩; have hW7 := hW6.next hb9; have hc := hW7.out.cell 65 (by omega); have hf := frozen_of_row w9 g 65 _ _ hW7.out))
          have hW8 := hW7.set 65 (leftB ca m)
          clear hc hf cf co cp c65 hb9 hW7 hW6
          generalize w9.setCell ⟨g, 65, none⟩ (.int .i64 (leftB ca m)) = w10 at *
          have hc := hW8.out.cell 66 (by rw [List.length_set]; omega)
          have hf := frozen_of_row w10 g 66 _ _ hW8.out
          go_upto_region 18 with (fail)
          have hW9 : MdW p m (mdE p m) w.heap.size g w (w10.setCell ⟨g, 66, none⟩ (.int .i64 (-1))) := by
            have h := hW8.set 66 (-1)
            unfold mdE
            rw [hC.out]
            exact h
          clear hc hf hW8 hld
          generalize w10.setCell ⟨g, 66, none⟩ (.int .i64 (-1)) = w11 at *
          have cf := hW9.fr
          have co := hW9.to
          go_cut [117] (fun s117 wx => s117 = .bool (dblM p m) ∧ MdW p m (mdE p m) w.heap.size g w wx)
          case first =>
            by_cases k1 : kindOf (pcAt p m.fr) = 6
            · by_cases e1 : m.to = m.fr + 16
              · have hM : dblM p m = true := by simp [dblM, k1, e1]
                have hMs := show Shut _ from hM
                have k1b : (kindOf (pcAt p m.fr) == 6) = true := by simpa using k1
                have e1b : (m.to == m.fr + 16) = true := by simpa using e1
                clear hM k1 e1
                go_wp2_with (first | (go_at_call 24; refine (po_kindOf _ _ (by omega)).mono ?_; rintro e1 w1 ⟨rfl, rfl⟩))
                go_meet
                exact ⟨by rw [hMs.out], hW9⟩
              · have e1b : (m.to == m.fr + 16) = false := by simpa using e1
                have k1b : (kindOf (pcAt p m.fr) == 6) = true := by simpa using k1
                by_cases e2 : m.to = m.fr - 16
                · have hM : dblM p m = true := by simp [dblM, k1, e2]
                  have hMs := show Shut _ from hM
                  have e2b : (m.to == m.fr - 16) = true := by simpa using e2
                  clear hM k1 e1 e2
                  go_wp2_with (first | (go_at_call 24; refine (po_kindOf _ _ (by omega)).mono ?_; rintro e1 w1 ⟨rfl, rfl⟩))
                  go_meet
                  exact ⟨by rw [hMs.out], hW9⟩
                · have hM : dblM p m = false := by simp [dblM, e1, e2]
                  have hMs := show Shut _ from hM
                  have e2b : (m.to == m.fr - 16) = false := by simpa using e2
                  clear hM k1 e1 e2
                  go_wp2_with (first | (go_at_call 24; refine (po_kindOf _ _ (by omega)).mono ?_; rintro e1 w1 ⟨rfl, rfl⟩))
                  go_meet
                  exact ⟨by rw [hMs.out], hW9⟩
            · have hM : dblM p m = false := by simp [dblM, k1]
              have hMs := show Shut _ from hM
              have k1b : (kindOf (pcAt p m.fr) == 6) = false := by simpa using k1
              clear hM k1
              go_wp2_with (first | (go_at_call 24; refine (po_kindOf _ _ (by omega)).mono ?_; rintro e1 w1 ⟨rfl, rfl⟩))
              go_meet
              exact ⟨by rw [hMs.out], hW9⟩
          case rest =>
            obtain ⟨rfl, hW10⟩ := hcut
            clear hW9 cf co
            go_upto_if 117 with (fail)
            go_cut [] (fun wx => MdW p m (mdF p m) w.heap.size g w wx)
            case first =>
              cases hM : dblM p m with
              | false =>
                have hA : mdF p m = mdE p m := if_neg (by rw [hM]; decide)
                have hAs := show Shut _ from hA
                clear hA hM
                go_wp2_with fail
                go_meet
                rw [hAs.out]
                exact hW10
              | true =>
                have hA : mdF p m = (mdE p m).set 66 ((m.fr + m.to) / 2) := if_pos hM
                have hAs := show Shut _ from hA
                have hle := mdE_len p m hlp
                have cf := hW10.fr
                have co := hW10.to
                have hc := hW10.out.cell 66 (by omega)
                have hf := frozen_of_row wc g 66 _ _ hW10.out
                clear hA hM
                go_wp2_with fail
                go_meet
                rw [hAs.out]
                exact hW10.set 66 _
            case rest =>
              have hW11 := hcut
              clear hW10
              have hlf := mdF_len p m hlp
              have hc : wc.cell? ⟨g, 67, none⟩ = some (.int .i64 hn) := (hW11.out.cell 67 (by omega)).trans (by rw [hM67s.out])
              have hf := frozen_of_row wc g 67 _ _ hW11.out
              go_upto_region 21 with (fail)
              have hW12 : MdW p m (mdG p m) w.heap.size g w (wc.setCell ⟨g, 67, none⟩ (.int .i64 (hn + 1))) := by
                have h := hW11.set 67 (hn + 1)
                unfold mdG
                rw [hH.out]
                exact h
              clear hc hf hW11 hlf
              generalize wc.setCell ⟨g, 67, none⟩ (.int .i64 (hn + 1)) = w12 at *
              go_cut [7, 134] (fun s7 s134 wx => s7 = .bool (tkIs p m) ∧ s134 = .bool (tkIs p m || decide (kindOf (pcAt p m.fr) = 6)) ∧ MdW p m (mdG p m) w.heap.size g w wx)
              case first =>
                cases hI : tkIs p m with
                | true =>
                  have hIs := show Shut _ from hI
                  clear hI
                  go_wp2_with (first | (go_at_call 24; refine (po_kindOf _ _ (by omega)).mono ?_; rintro e1 w1 ⟨rfl, rfl⟩))
                  go_meet
                  exact ⟨by rw [hIs.out], by rw [hIs.out]; rfl, hW12⟩
                | false =>
                  have hIs := show Shut _ from hI
                  clear hI
                  by_cases k1 : kindOf (pcAt p m.fr) = 6
                  · have k1b : (kindOf (pcAt p m.fr) == 6) = true := by simpa using k1
                    have ks := show Shut _ from k1
                    clear k1
                    go_wp2_with (first | (go_at_call 24; refine (po_kindOf _ _ (by omega)).mono ?_; rintro e1 w1 ⟨rfl, rfl⟩))
                    go_meet
                    exact ⟨by rw [hIs.out], by rw [hIs.out, decide_eq_true ks.out]; rfl, hW12⟩
                  · have k1b : (kindOf (pcAt p m.fr) == 6) = false := by simpa using k1
                    have ks := show Shut _ from k1
                    clear k1
                    go_wp2_with (first | (go_at_call 24; refine (po_kindOf _ _ (by omega)).mono ?_; rintro e1 w1 ⟨rfl, rfl⟩))
                    go_meet
                    exact ⟨by rw [hIs.out], by rw [hIs.out, decide_eq_false ks.out]; rfl, hW12⟩
              case rest =>
                obtain ⟨rfl, rfl, hW13⟩ := hcut
                clear hW12
                go_upto_if 134 with (fail)
                go_cut [] (fun wx => MdW p m (mdH p m) w.heap.size g w wx)
                case first =>
                  cases hM : (tkIs p m || decide (kindOf (pcAt p m.fr) = 6)) with
                  | false =>
                    have hA : mdH p m = mdG p m := if_neg (by rw [hM]; decide)
                    have hAs := show Shut _ from hA
                    clear hA hM
                    go_wp2_with fail
                    go_meet
                    rw [hAs.out]
                    exact hW13
                  | true =>
                    have hA : mdH p m = (mdG p m).set 67 0 := if_pos hM
                    have hAs := show Shut _ from hA
                    have hlg := mdG_len p m hlp
                    have hc := hW13.out.cell 67 (by omega)
                    have hf := frozen_of_row wc g 67 _ _ hW13.out
                    clear hA hM
                    go_wp2_with fail
                    go_meet
                    rw [hAs.out]
                    exact hW13.set 67 _
                case rest =>
                  have hW14 := hcut
                  clear hW13
                  have hlh := mdH_len p m hlp
                  have c64 := h64.out _ _ hW14
                  have hc : wc.cell? ⟨g, 68, none⟩ = some (.int .i64 fn) := (hW14.out.cell 68 (by omega)).trans (by rw [hM68s.out])
                  have hf := frozen_of_row wc g 68 _ _ hW14.out
                  go_upto_region 24 with (fail)
                  have hW15 := hW14.set 68 (fn + tn)
                  clear hc hf c64 hW14
                  generalize wc.setCell ⟨g, 68, none⟩ (.int .i64 (fn + tn)) = w14 at *
                  have c64 := h64.out _ _ hW15
                  have hc := hW15.out.cell 64 (by rw [List.length_set]; omega)
                  have hf := frozen_of_row w14 g 64 _ _ hW15.out
                  go_upto_region 25 with (fail)
                  have hW16 : MdW p m (madeB p m) w.heap.size g w (w14.setCell ⟨g, 64, none⟩ (.int .i64 (1 - tn))) := by
                    have h := hW15.set 64 (1 - tn)
                    unfold madeB
                    rw [hF.out, hT.out]
                    exact h
                  clear hc hf c64 hW15
                  generalize w14.setCell ⟨g, 64, none⟩ (.int .i64 (1 - tn)) = w15 at *
                  have hlm := madeB_len p m hlp
                  have hoU : w15.heap[g]? = some (.cells (ints (madeB p m)) 24 (0, 0)) := hW16.out
                  have hrU := hW16.res
                  have hB := hW16.bel
                  generalize hmp : madeB p m = mp at *
                  have hmps := show Shut _ from hmp
                  clear hmp
                  go_wp2_with (first
                    | ((with_reducible refine at_load_row hoU Tryd.underlying24 rfl ?_ ?_ ?_); (rw [ints_size, hlm]; kernel_rfl); rfl)
                    | ((with_reducible refine at_store_row (ints mp) hrU ?_ ?_ ?_ ?_ ?_ ?_); (rw [ints_size, hlm]; kernel_rfl); (rw [ints_size, ints_size, hlm, List.length_replicate]); exact ints_one _; rfl; rfl))
                  (try simp only [Exit.inBlock, Exit.then])
                  exact bodyPost_ret (results_cell1 rfl _ _ (w.heap.size + 1 + 1) 24 (ints mp) (0, 0) _ rfl (setRow_heap _ _ _ (ints mp) _ _ hrU) Tryd.underlying24 rfl (by rw [ints_size, hlm]; kernel_rfl)) rfl ⟨by rw [hmps.out], below_setRow hB (by omega) _⟩

end Go.Proofs.YtplkcmlpomjojaaDoor
