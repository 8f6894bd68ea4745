/- spec.steps: where a pawn goes. For every position of pieces from 0 to 12. (Printed by gen_st.py.) -/
import Derived.Test.YtplkcmlpomjojaaDoorHt
import Derived.Test.YtplkcmlpomjojaaDoorAk
namespace Go.Proofs.YtplkcmlpomjojaaDoor
open Go Go.RowKit
set_option maxHeartbeats 8000000
set_option linter.unusedSimpArgs false
set_option linter.unusedVariables false
set_option maxRecDepth 100000

theorem ints_slice {w : World} {base : Nat} {v : Value} {l : List Int} (h : ownInts w base v l) :
    ∃ a c, v = .slice a l.length c ∧ ∀ i, i < l.length → ∃ g, a = some ⟨g, 0, none⟩ ∧ base ≤ g ∧ g < w.heap.size ∧ w.cell? ⟨g, i, none⟩ = some (.int .i64 (l.getD i 0)) := by
  have hf := h
  obtain ⟨hn, ⟨rfl, h0⟩ | ⟨g, cap, cur, rfl, hge, hg, _⟩⟩ := h
  · exact ⟨none, 0, by rw [h0], fun i hi => by omega⟩
  · refine ⟨_, _, rfl, fun i hi => ⟨g, rfl, hge, (Array.getElem?_eq_some_iff.1 hg).1, ?_⟩⟩
    have hc := hf.cellAt i (by omega)
    exact hc.trans (by simp [hi])
theorem own_le {w : World} {base : Nat} {v : Value} {l : List Int} (h : ownInts w base v l) : ∀ k, v.ownBlock = some k → base ≤ k := own_ge h
/-- A list that the call made is as it was behind a call that left it alone. -/
theorem ownInts.below {w w' : World} {base : Nat} {v : Value} {l : List Int} (h : ownInts w base v l) (hb : Below w.heap.size w w') : ownInts w' base v l := by
  obtain ⟨h1, h2 | ⟨g, cap, cur, a1, b, c, d⟩⟩ := h
  · exact ⟨h1, Or.inl h2⟩
  · exact ⟨h1, Or.inr ⟨g, cap, cur, a1, b, (hb.block g (Array.getElem?_eq_some_iff.1 c).1).trans c, d⟩⟩
def takeOk (p : List Int) (c t : Int) : Bool := (decide (pcAt p t ≠ 0) && decide (sideOf (pcAt p t) ≠ c)) || (decide (pcAt p t = 0) && (decide (t = p.getD 66 0) && decide (t / 8 = 5 - 3 * c)))
def fwdL (p : List Int) (s c : Int) : List Int :=
  if 0 ≤ atSq (s % 8) (s / 8 + upOf c) ∧ pcAt p (atSq (s % 8) (s / 8 + upOf c)) = 0 then
    (if s / 8 = 1 + 5 * c ∧ pcAt p (atSq (s % 8) (s / 8 + 2 * upOf c)) = 0 then [atSq (s % 8) (s / 8 + upOf c), atSq (s % 8) (s / 8 + 2 * upOf c)] else [atSq (s % 8) (s / 8 + upOf c)])
  else []
def stepL (p : List Int) (s : Int) : List Int := fwdL p s (sideOf (pcAt p s)) ++ (hitL s (sideOf (pcAt p s))).filter (takeOk p (sideOf (pcAt p s)))
theorem fwd_le (p : List Int) (s c : Int) : (fwdL p s c).length ≤ 2 := by
  unfold fwdL
  split
  · split <;> simp
  · simp
theorem hitL_range (s c : Int) : ∀ t ∈ hitL s c, 0 ≤ t ∧ t ≤ 63 := by
  intro t ht
  have h1 : ∀ x, t ∈ oneSq x → t = x ∧ 0 ≤ x := fun x h => by
    unfold oneSq at h
    split at h
    · simp at h; exact ⟨h, by omega⟩
    · cases h
  simp only [hitL, hitTo, List.nil_append, List.mem_append] at ht
  rcases ht with h | h
  · obtain ⟨rfl, h0⟩ := h1 _ h
    exact ⟨h0, (atSq_range _ _).2⟩
  · obtain ⟨rfl, h0⟩ := h1 _ h
    exact ⟨h0, (atSq_range _ _).2⟩
theorem take_filter (f : Int → Bool) (l : List Int) (k : Nat) (h : k < l.length) : (l.take (k + 1)).filter f = (l.take k).filter f ++ (if f (l.getD k 0) then [l.getD k 0] else []) := by
  rw [List.take_succ_eq_append_getElem h, List.filter_append]
  have e : l.getD k 0 = l[k] := by simp [h]
  rw [e]
  by_cases c : f l[k] <;> simp [c]
theorem st_steps (p : List Int) (hp : Pos p) (s : Int) (s0 : 0 ≤ s) (s1 : s ≤ 63) (hep : -1 ≤ p.getD 66 0 ∧ p.getD 66 0 ≤ 63) (w : World) :
    Calls Tryd.prog 42 #[.agg (ints p), .int .i64 s] w fun e w' => ∃ v, e = .returned v ∧ ownInts w' w.heap.size v (stepL p s) ∧ Below w.heap.size w w' := by
  obtain ⟨i0, hi, hz0, hz1, hz2⟩ := info_parts po_info1
  have hrow := heap_alloc_new w (.cells (ints p) 24)
  have hBW : Below w.heap.size w (w.alloc (.cells (ints p) 24)) := (Below.refl _ _).alloc (Nat.le_refl _) _
  have hsz0 : (w.alloc (.cells (ints p) 24)).heap.size ≥ w.heap.size + 1 := by simp
  have hcell : ∀ i : Int, 0 ≤ i → i ≤ 63 → (w.alloc (.cells (ints p) 24)).cell? ⟨w.heap.size, i.toNat, none⟩ = some (.int .i64 (pcAt p i)) := fun i h0 h1 => row_cell hrow i.toNat (by rw [hp.len]; omega)
  have hpr : ∀ i : Int, 0 ≤ i → i ≤ 63 → 0 ≤ pcAt p i ∧ pcAt p i ≤ 12 := fun i h0 h1 => ⟨hp.lo _ (by omega), hp.hi _ (by omega)⟩
  have ca := hcell s s0 s1
  obtain ⟨x0, x1⟩ := hpr s s0 s1
  have hc01 : 0 ≤ sideOf (pcAt p s) ∧ sideOf (pcAt p s) ≤ 1 := by unfold sideOf; split <;> omega
  have hT : stepL p s = fwdL p s (sideOf (pcAt p s)) ++ (hitL s (sideOf (pcAt p s))).filter (takeOk p (sideOf (pcAt p s))) := rfl
  generalize stepL p s = total at *
  go_enter Tryd.func42, Tryd.ntmps42
  go_wp2_with fail
  have hcs := show Shut _ from And.intro hcell hpr
  have hTs := show Shut _ from hT
  clear hcell hpr hT
  refine (hi_side _ _ (by omega)).mono ?_
  rintro e1 w1 ⟨rfl, rfl⟩
  generalize sideOf (pcAt p s) = c at *
  obtain ⟨c0, c1⟩ := hc01
  have hu : -1 ≤ upOf c ∧ upOf c ≤ 1 := by unfold upOf; omega
  obtain ⟨u0, u1⟩ := hu
  have ho1 := atSq_range (s % 8) (s / 8 + upOf c)
  have ho2 := atSq_range (s % 8) (s / 8 + 2 * upOf c)
  have hat : s / 8 = 1 + 5 * c → 0 ≤ atSq (s % 8) (s / 8 + 2 * upOf c) := fun h => by
    unfold atSq upOf
    rw [if_neg (by omega)]
    omega
  have hfw : fwdL p s c = if 0 ≤ atSq (s % 8) (s / 8 + upOf c) ∧ pcAt p (atSq (s % 8) (s / 8 + upOf c)) = 0 then
    (if s / 8 = 1 + 5 * c ∧ pcAt p (atSq (s % 8) (s / 8 + 2 * upOf c)) = 0 then [atSq (s % 8) (s / 8 + upOf c), atSq (s % 8) (s / 8 + 2 * upOf c)] else [atSq (s % 8) (s / 8 + upOf c)])
  else [] := rfl
  have hat1 : ∀ W, Calls Tryd.prog 41 #[.int .i64 (s % 8), .int .i64 (s / 8 + upOf c)] W fun e w' => e = .returned (.int .i64 (atSq (s % 8) (s / 8 + upOf c))) ∧ W = w' := fun W => po_at _ _ W (by omega) (by omega) (by omega) (by omega)
  have hat2 : ∀ W, Calls Tryd.prog 41 #[.int .i64 (s % 8), .int .i64 (s / 8 + 2 * upOf c)] W fun e w' => e = .returned (.int .i64 (atSq (s % 8) (s / 8 + 2 * upOf c))) ∧ W = w' := fun W => po_at _ _ W (by omega) (by omega) (by omega) (by omega)
  generalize hfl : fwdL p s c = fw at *
  have hflS := show Shut _ from hfl
  clear hfl
  generalize atSq (s % 8) (s / 8 + upOf c) = o at *
  generalize atSq (s % 8) (s / 8 + 2 * upOf c) = t at *
  have hfs := show Shut _ from And.intro hfw (And.intro hat (And.intro hat1 hat2))
  clear hfw hat hat1 hat2
  generalize w.alloc (.cells (ints p) 24) = W0 at *
  by_cases hA : 0 ≤ o ∧ pcAt p o = 0
  · obtain ⟨ho, hz⟩ := hA
    have co := hcs.out.1 o ho (by omega)
    rw [hz] at co
    have hzs := show Shut _ from hz
    clear hz
    have hs1 : w.heap.size + 1 ≤ W0.heap.size := by omega
    have hown0 : W0.ownsRow (w.heap.size + 1) 3 1 (Value.slice none 0 0) 0 [] := World.ownsRow_nil _ _ _ _
    go_wp2_with (first
      | (go_at_call 41; refine (hfs.out.2.2.1 _).mono ?_; rintro e1 w1 ⟨rfl, rfl⟩)
      | (with_reducible refine at_appendk (esz := 1) [.int .i64 o] rfl Tryd.underlying27 hi hz0 hz1 hz2 rfl (by decide) (by decide) ?_ (w.heap.size + 1) _ _ _ hown0 ?_ hs1 ?_ ?_ ?_)
      | (go_at_call 32; refine (po_file _ _ (by omega) (by omega)).mono ?_; rintro e1 w1 ⟨rfl, rfl⟩)
      | (go_at_call 25; refine (po_rank _ _ (by omega) (by omega)).mono ?_; rintro e1 w1 ⟨rfl, rfl⟩)
      | (go_at_call 33; refine (hi_up _ _ (by omega) (by omega)).mono ?_; rintro e1 w1 ⟨rfl, rfl⟩))
    · intro u hu; simp at hu; subst hu; rfl
    · simp
    · rfl
    · rfl
    intro v1 w1 hown1 hbel1 hkeep1 hap1 hsz1
    have hrow1 := (hbel1.block w.heap.size (by omega)).trans hrow
    have hB1 := hBW.trans (hbel1.mono (by omega))
    have hown1' : ownInts w1 (w.heap.size + 1) v1 [o] := hown1
    clear hbel1 hkeep1 hap1 hown1 hown0 hrow hBW ca co
    by_cases hR : s / 8 = 1 + 5 * c
    · have ht0 := hfs.out.2.1 hR
      have ct : w1.cell? ⟨w.heap.size, t.toNat, none⟩ = some (.int .i64 (pcAt p t)) := row_cell hrow1 t.toNat (by rw [hp.len]; omega)
      have hR2 : (s / 8 == 1 + 5 * c) = true := by simpa using hR
      by_cases hz2 : pcAt p t = 0
      · have hfeq : fw = [o, t] := by have h := hfs.out.1; rw [if_pos ⟨ho, hzs.out⟩, if_pos ⟨hR, hz2⟩] at h; exact h
        rw [hz2] at ct
        have hRs := show Shut _ from And.intro hR (And.intro hz2 hfeq)
        have hs2 : w.heap.size + 1 ≤ w1.heap.size := by omega
        clear hR hz2 hfeq
        go_wp2_with (first
          | (go_at_call 41; refine (hfs.out.2.2.2 _).mono ?_; rintro e1 w1 ⟨rfl, rfl⟩)
          | (with_reducible refine at_appendk (esz := 1) [.int .i64 t] rfl Tryd.underlying27 hi hz0 hz1 hz2 rfl (by decide) (by decide) ?_ (w.heap.size + 1) _ _ _ hown1' ?_ hs2 ?_ ?_ ?_)
          | (go_at_call 32; refine (po_file _ _ (by omega) (by omega)).mono ?_; rintro e1 w1 ⟨rfl, rfl⟩)
          | (go_at_call 25; refine (po_rank _ _ (by omega) (by omega)).mono ?_; rintro e1 w1 ⟨rfl, rfl⟩)
          | (go_at_call 33; refine (hi_up _ _ (by omega) (by omega)).mono ?_; rintro e1 w1 ⟨rfl, rfl⟩))
        · intro u hu; simp at hu; subst hu; rfl
        · simp
        · rfl
        · rfl
        intro v3 w3 hown3 hbel3 hkeep3 hap3 hsz3
        have hrowW := (hbel3.block w.heap.size (by omega)).trans hrow1
        have hB3 := hB1.trans (hbel3.mono (by omega))
        have hown3' : ownInts w3 (w.heap.size + 1) v3 [o, t] := hown3
        have hfeq := hRs.out.2.2
        have hszW : w.heap.size < w3.heap.size := by omega
        clear hbel3 hkeep3 hap3 hown3 hown1' hrow1 hB1 ct
        go_wp2_with fail
        have hownW : ownInts w3 (w.heap.size + 1) v3 fw := by rw [hfeq]; exact hown3'
        have hBw := hB3
        have hsw := hBw.size
        refine (ht_hits s c s0 s1 c0 c1 w3).mono ?_
        rintro e2 w2 ⟨v2, rfl, hown2, hb2⟩
        obtain ⟨a2, cap2, rfl, hcells⟩ := ints_slice hown2
        have hownX := hownW.below hb2
        have hlt1 : ∀ g, (v3).ownBlock = some g → g < (w3).heap.size := fun g hg => (hownW.lt g hg).2
        have hB2 := hBw.trans (hb2.mono (by omega))
        have hrow2 := (hb2.block w.heap.size (by have := hszW; omega)).trans hrowW
        have hrng := hitL_range s c
        have hlen := hitTo_le s c 2
        have hfle : fw.length ≤ 2 := by have := fwd_le p s c; rw [hflS.out] at this; exact this
        change (hitL s c).length ≤ 2 at hlen
        have hkeep : ∀ i, i < (hitL s c).length → ∃ g, a2 = some ⟨g, 0, none⟩ ∧ g < w2.heap.size ∧ w2.cell? ⟨g, i, none⟩ = some (.int .i64 ((hitL s c).getD i 0)) ∧ (v3).ownBlock ≠ some g := fun i hi => by
          obtain ⟨g, h1, h2, h3, h4⟩ := hcells i hi
          exact ⟨g, h1, h3, h4, fun e => by have := hlt1 g e; omega⟩
        generalize hitL s c = L at *
        clear hownW hBw hown2 hb2 hrowW hcells hlt1
        go_wp2_with fail
        go_loopw [6, 10] (fun l i wr => ∃ k : Nat, k ≤ L.length ∧ i = .int .i64 (k : Int) ∧ ownInts wr (w.heap.size + 1) l (fw ++ (L.take k).filter (takeOk p c)) ∧ Below w.heap.size w wr ∧ wr.heap[w.heap.size]? = some (.cells (ints p) 24 (0, 0)) ∧ ∀ i, i < L.length → ∃ g, a2 = some ⟨g, 0, none⟩ ∧ g < wr.heap.size ∧ wr.cell? ⟨g, i, none⟩ = some (.int .i64 (L.getD i 0)) ∧ l.ownBlock ≠ some g) (fun _ i _ => L.length - (intOf i).toNat)
        case atStart => exact ⟨0, by omega, rfl, by simpa using hownX, hB2, hrow2, hkeep⟩
        case round =>
          clear hownX hB2 hrow2 hkeep
          obtain ⟨k, hk, rfl, hown, hB, hrr, hkp⟩ := hrel
          by_cases hlt : k < L.length
          · obtain ⟨g2, rfl, hg2, hck, hng⟩ := hkp k hlt
            have hst := take_filter (takeOk p c) L k hlt
            obtain ⟨q0, q1⟩ := hrng (L.getD k 0) (by simp [hlt])
            have hlf : (fw ++ (L.take k).filter (takeOk p c)).length ≤ 4 := by
              have h1 := List.length_filter_le (takeOk p c) (L.take k)
              have h2 : (L.take k).length ≤ k := List.length_take_le _ _
              rw [List.length_append]
              omega
            generalize hq : L.getD k 0 = q at *
            generalize hxs : fw ++ (L.take k).filter (takeOk p c) = xs at *
            have hcq : wr.cell? ⟨w.heap.size, q.toNat, none⟩ = some (.int .i64 (pcAt p q)) := row_cell hrr q.toNat (by rw [hp.len]; omega)
            have hce : wr.cell? ⟨w.heap.size, 66, none⟩ = some (.int .i64 (p.getD 66 0)) := row_cell hrr 66 (by rw [hp.len]; omega)
            have htk : takeOk p c q = ((decide (pcAt p q ≠ 0) && decide (sideOf (pcAt p q) ≠ c)) || (decide (pcAt p q = 0) && (decide (q = p.getD 66 0) && decide (q / 8 = 5 - 3 * c)))) := rfl
            obtain ⟨y0, y1⟩ := hcs.out.2 q q0 q1
            obtain ⟨e0, e1⟩ := hep
            have hsd : 0 ≤ sideOf (pcAt p q) ∧ sideOf (pcAt p q) ≤ 1 := by unfold sideOf; split <;> omega
            obtain ⟨d0, d1⟩ := hsd
            generalize pcAt p q = y at *
            generalize p.getD 66 0 = ep at *
            have hsize := hB.size
            have hsz1 : w.heap.size + 1 ≤ wr.heap.size := by have := (Array.getElem?_eq_some_iff.1 hrr).1; omega
            have hids := show Shut _ from And.intro hst (And.intro htk (And.intro hxs (And.intro hB (And.intro hrr hkp))))
            clear hst htk hxs hB hq hrr hkp hrng
            by_cases hy : y = 0
            · subst hy
              clear y0 y1 d0 d1
              by_cases he : q = ep ∧ q / 8 = 5 - 3 * c
              · obtain ⟨rfl, hrk⟩ := he
                have hrk2 : (q / 8 == 5 - 3 * c) = true := by simpa using hrk
                have htrue : takeOk p c q = true := hids.out.2.1.trans (by simp [hrk])
                have hrs := show Shut _ from htrue
                clear hrk htrue
                go_wp2_with fail
                go_quiet (first | (go_at_call 14; refine quiet' (hi_side _ _ (by omega))) | (go_at_call 25; refine quiet' (po_rank _ _ (by omega) (by omega))))
                have hownq : ownInts (wr.drewN nq) (w.heap.size + 1) u6 xs := hown
                have hckq : (wr.drewN nq).cell? ⟨g2, k, none⟩ = some (.int .i64 q) := hck
                have hszq : w.heap.size + 1 ≤ (wr.drewN nq).heap.size := hsz1
                have hBq := hids.out.2.2.2.1.trans ((drewN_below wr nq).mono hsize)
                have hrq : (wr.drewN nq).heap[w.heap.size]? = some (.cells (ints p) 24 (0, 0)) := hids.out.2.2.2.2.1
                have hkq : ∀ i, i < L.length → ∃ g, some (⟨g2, 0, none⟩ : Addr) = some ⟨g, 0, none⟩ ∧ g < (wr.drewN nq).heap.size ∧ (wr.drewN nq).cell? ⟨g, i, none⟩ = some (.int .i64 (L.getD i 0)) ∧ u6.ownBlock ≠ some g := hids.out.2.2.2.2.2
                have hkqS := show Shut _ from And.intro hBq (And.intro hrq hkq)
                clear hck hcq hce hown hBq hrq hkq
                generalize wr.drewN nq = wq at *
                go_wp2_with (with_reducible refine at_appendk (esz := 1) [.int .i64 q] rfl Tryd.underlying27 hi hz0 hz1 hz2 rfl (by decide) (by decide) ?_ (w.heap.size + 1) _ _ _ hownq ?_ hszq ?_ ?_ ?_)
                · intro u hu; simp at hu; subst hu; rfl
                · omega
                · rfl
                · rfl
                intro v' w' hown' hbel' hkeep' hap' hsz'
                obtain ⟨hBq, hrq, hkq⟩ := hkqS.out
                have R : ∃ k' : Nat, k' ≤ L.length ∧ Value.int .i64 ((k : Int) + 1) = .int .i64 (k' : Int) ∧ ownInts w' (w.heap.size + 1) v' (fw ++ (L.take k').filter (takeOk p c)) ∧ Below w.heap.size w w' ∧ w'.heap[w.heap.size]? = some (.cells (ints p) 24 (0, 0)) ∧ ∀ i, i < L.length → ∃ g, some (⟨g2, 0, none⟩ : Addr) = some ⟨g, 0, none⟩ ∧ g < w'.heap.size ∧ w'.cell? ⟨g, i, none⟩ = some (.int .i64 (L.getD i 0)) ∧ v'.ownBlock ≠ some g := by
                  refine ⟨k + 1, by omega, by go_num, ?_, hBq.trans (hbel'.mono (by omega)), (hbel'.block _ (by omega)).trans hrq, fun i hi => ?_⟩
                  · rw [hids.out.1, hrs.out, if_pos rfl, ← List.append_assoc, hids.out.2.2.1]
                    unfold ownInts
                    rw [List.length_append, List.map_append]
                    exact hown'
                  · obtain ⟨g, h1, h2, h3, h4⟩ := hkq i hi
                    exact ⟨g, h1, by omega, (World.cell?_of_block (a := ⟨g, i, none⟩) (hkeep' g h2 h4)).trans h3, hap' g h2 h4⟩
                have RS := show Shut _ from R
                clear R hBq hrq hkq
                go_wp2_with fail
                go_roundw
                case rel =>
                  have R := RS.out
                  first | exact R | ((repeat apply Exists.intro); exact ⟨R, rfl⟩)
                case measure => simp [intOf]; omega
              · by_cases he1 : q = ep
                · have hrk : ¬ q / 8 = 5 - 3 * c := fun h => he ⟨he1, h⟩
                  subst he1
                  have hrk2 : (q / 8 == 5 - 3 * c) = false := by simpa using hrk
                  have hfalse : takeOk p c q = false := hids.out.2.1.trans (by simp [hrk])
                  have hrs := show Shut _ from hfalse
                  clear hrk he hfalse
                  go_wp2_with fail
                  go_quiet (first | (go_at_call 14; refine quiet' (hi_side _ _ (by omega))) | (go_at_call 25; refine quiet' (po_rank _ _ (by omega) (by omega))))
                  go_wp2
                  go_roundw
                  case rel =>
                    have R : ∃ k' : Nat, k' ≤ L.length ∧ Value.int .i64 ((k : Int) + 1) = .int .i64 (k' : Int) ∧ ownInts (wr.drewN nq) (w.heap.size + 1) u6 (fw ++ (L.take k').filter (takeOk p c)) ∧ Below w.heap.size w (wr.drewN nq) ∧ (wr.drewN nq).heap[w.heap.size]? = some (.cells (ints p) 24 (0, 0)) ∧ ∀ i, i < L.length → ∃ g, some (⟨g2, 0, none⟩ : Addr) = some ⟨g, 0, none⟩ ∧ g < (wr.drewN nq).heap.size ∧ (wr.drewN nq).cell? ⟨g, i, none⟩ = some (.int .i64 (L.getD i 0)) ∧ u6.ownBlock ≠ some g := by
                      refine ⟨k + 1, by omega, by go_num, ?_, hids.out.2.2.2.1.trans ((drewN_below wr nq).mono hsize), hids.out.2.2.2.2.1, hids.out.2.2.2.2.2⟩
                      rw [hids.out.1, hrs.out, if_neg (by decide), List.append_nil, hids.out.2.2.1]
                      exact hown
                    first | exact R | ((repeat apply Exists.intro); exact ⟨R, rfl⟩)
                  case measure => simp [intOf]; omega
                · have hrk2 : (q == ep) = false := by simpa using he1
                  have hfalse : takeOk p c q = false := hids.out.2.1.trans (by simp [he1])
                  have hrs := show Shut _ from hfalse
                  clear he he1 hfalse
                  go_wp2_with fail
                  go_quiet (first | (go_at_call 14; refine quiet' (hi_side _ _ (by omega))) | (go_at_call 25; refine quiet' (po_rank _ _ (by omega) (by omega))))
                  go_wp2
                  go_roundw
                  case rel =>
                    have R : ∃ k' : Nat, k' ≤ L.length ∧ Value.int .i64 ((k : Int) + 1) = .int .i64 (k' : Int) ∧ ownInts (wr.drewN nq) (w.heap.size + 1) u6 (fw ++ (L.take k').filter (takeOk p c)) ∧ Below w.heap.size w (wr.drewN nq) ∧ (wr.drewN nq).heap[w.heap.size]? = some (.cells (ints p) 24 (0, 0)) ∧ ∀ i, i < L.length → ∃ g, some (⟨g2, 0, none⟩ : Addr) = some ⟨g, 0, none⟩ ∧ g < (wr.drewN nq).heap.size ∧ (wr.drewN nq).cell? ⟨g, i, none⟩ = some (.int .i64 (L.getD i 0)) ∧ u6.ownBlock ≠ some g := by
                      refine ⟨k + 1, by omega, by go_num, ?_, hids.out.2.2.2.1.trans ((drewN_below wr nq).mono hsize), hids.out.2.2.2.2.1, hids.out.2.2.2.2.2⟩
                      rw [hids.out.1, hrs.out, if_neg (by decide), List.append_nil, hids.out.2.2.1]
                      exact hown
                    first | exact R | ((repeat apply Exists.intro); exact ⟨R, rfl⟩)
                  case measure => simp [intOf]; omega
            · have hy1 : (y == 0) = false := by simpa using hy
              have hy2 : (y != 0) = true := by simpa using hy
              by_cases hs : sideOf y = c
              · have hs2 : (sideOf y != c) = false := by simpa using hs
                have hfalse : takeOk p c q = false := hids.out.2.1.trans (by simp [hy, hs])
                have hrs := show Shut _ from hfalse
                clear hs hy hfalse
                go_wp2_with fail
                go_quiet (first | (go_at_call 14; refine quiet' (hi_side _ _ (by omega))) | (go_at_call 25; refine quiet' (po_rank _ _ (by omega) (by omega))))
                go_wp2
                go_roundw
                case rel =>
                  have R : ∃ k' : Nat, k' ≤ L.length ∧ Value.int .i64 ((k : Int) + 1) = .int .i64 (k' : Int) ∧ ownInts (wr.drewN nq) (w.heap.size + 1) u6 (fw ++ (L.take k').filter (takeOk p c)) ∧ Below w.heap.size w (wr.drewN nq) ∧ (wr.drewN nq).heap[w.heap.size]? = some (.cells (ints p) 24 (0, 0)) ∧ ∀ i, i < L.length → ∃ g, some (⟨g2, 0, none⟩ : Addr) = some ⟨g, 0, none⟩ ∧ g < (wr.drewN nq).heap.size ∧ (wr.drewN nq).cell? ⟨g, i, none⟩ = some (.int .i64 (L.getD i 0)) ∧ u6.ownBlock ≠ some g := by
                    refine ⟨k + 1, by omega, by go_num, ?_, hids.out.2.2.2.1.trans ((drewN_below wr nq).mono hsize), hids.out.2.2.2.2.1, hids.out.2.2.2.2.2⟩
                    rw [hids.out.1, hrs.out, if_neg (by decide), List.append_nil, hids.out.2.2.1]
                    exact hown
                  first | exact R | ((repeat apply Exists.intro); exact ⟨R, rfl⟩)
                case measure => simp [intOf]; omega
              · have hs2 : (sideOf y != c) = true := by simpa using hs
                have htrue : takeOk p c q = true := hids.out.2.1.trans (by simp [hy, hs])
                have hrs := show Shut _ from htrue
                clear hs hy htrue
                go_wp2_with fail
                go_quiet (first | (go_at_call 14; refine quiet' (hi_side _ _ (by omega))) | (go_at_call 25; refine quiet' (po_rank _ _ (by omega) (by omega))))
                have hownq : ownInts (wr.drewN nq) (w.heap.size + 1) u6 xs := hown
                have hckq : (wr.drewN nq).cell? ⟨g2, k, none⟩ = some (.int .i64 q) := hck
                have hszq : w.heap.size + 1 ≤ (wr.drewN nq).heap.size := hsz1
                have hBq := hids.out.2.2.2.1.trans ((drewN_below wr nq).mono hsize)
                have hrq : (wr.drewN nq).heap[w.heap.size]? = some (.cells (ints p) 24 (0, 0)) := hids.out.2.2.2.2.1
                have hkq : ∀ i, i < L.length → ∃ g, some (⟨g2, 0, none⟩ : Addr) = some ⟨g, 0, none⟩ ∧ g < (wr.drewN nq).heap.size ∧ (wr.drewN nq).cell? ⟨g, i, none⟩ = some (.int .i64 (L.getD i 0)) ∧ u6.ownBlock ≠ some g := hids.out.2.2.2.2.2
                have hkqS := show Shut _ from And.intro hBq (And.intro hrq hkq)
                clear hck hcq hce hown hBq hrq hkq
                generalize wr.drewN nq = wq at *
                go_wp2_with (with_reducible refine at_appendk (esz := 1) [.int .i64 q] rfl Tryd.underlying27 hi hz0 hz1 hz2 rfl (by decide) (by decide) ?_ (w.heap.size + 1) _ _ _ hownq ?_ hszq ?_ ?_ ?_)
                · intro u hu; simp at hu; subst hu; rfl
                · omega
                · rfl
                · rfl
                intro v' w' hown' hbel' hkeep' hap' hsz'
                obtain ⟨hBq, hrq, hkq⟩ := hkqS.out
                have R : ∃ k' : Nat, k' ≤ L.length ∧ Value.int .i64 ((k : Int) + 1) = .int .i64 (k' : Int) ∧ ownInts w' (w.heap.size + 1) v' (fw ++ (L.take k').filter (takeOk p c)) ∧ Below w.heap.size w w' ∧ w'.heap[w.heap.size]? = some (.cells (ints p) 24 (0, 0)) ∧ ∀ i, i < L.length → ∃ g, some (⟨g2, 0, none⟩ : Addr) = some ⟨g, 0, none⟩ ∧ g < w'.heap.size ∧ w'.cell? ⟨g, i, none⟩ = some (.int .i64 (L.getD i 0)) ∧ v'.ownBlock ≠ some g := by
                  refine ⟨k + 1, by omega, by go_num, ?_, hBq.trans (hbel'.mono (by omega)), (hbel'.block _ (by omega)).trans hrq, fun i hi => ?_⟩
                  · rw [hids.out.1, hrs.out, if_pos rfl, ← List.append_assoc, hids.out.2.2.1]
                    unfold ownInts
                    rw [List.length_append, List.map_append]
                    exact hown'
                  · obtain ⟨g, h1, h2, h3, h4⟩ := hkq i hi
                    exact ⟨g, h1, by omega, (World.cell?_of_block (a := ⟨g, i, none⟩) (hkeep' g h2 h4)).trans h3, hap' g h2 h4⟩
                have RS := show Shut _ from R
                clear R hBq hrq hkq
                go_wp2_with fail
                go_roundw
                case rel =>
                  have R := RS.out
                  first | exact R | ((repeat apply Exists.intro); exact ⟨R, rfl⟩)
                case measure => simp [intOf]; omega
          · obtain rfl : k = L.length := by omega
            clear hkp
            go_wp2_with fail
            go_ret
            have hfin := hown
            rw [List.take_length] at hfin
            exact ⟨_, rfl, by rw [hTs.out]; exact own_mono hfin (by omega), hB⟩
      · have hfeq : fw = [o] := by have h := hfs.out.1; rw [if_pos ⟨ho, hzs.out⟩, if_neg (fun h => hz2 h.2)] at h; exact h
        have hz3 : (pcAt p t == 0) = false := by simpa using hz2
        have hRs := show Shut _ from And.intro hR (And.intro hz2 hfeq)
        clear hR hz2 hfeq
        generalize pcAt p t = z2 at *
        go_wp2_with (first
          | (go_at_call 41; refine (hfs.out.2.2.2 _).mono ?_; rintro e1 w1 ⟨rfl, rfl⟩)
          | (go_at_call 32; refine (po_file _ _ (by omega) (by omega)).mono ?_; rintro e1 w1 ⟨rfl, rfl⟩)
          | (go_at_call 25; refine (po_rank _ _ (by omega) (by omega)).mono ?_; rintro e1 w1 ⟨rfl, rfl⟩)
          | (go_at_call 33; refine (hi_up _ _ (by omega) (by omega)).mono ?_; rintro e1 w1 ⟨rfl, rfl⟩))
        have hfeq := hRs.out.2.2
        have hszW : w.heap.size < w1.heap.size := by omega
        have hrowW := hrow1
        have hownW : ownInts w1 (w.heap.size + 1) v1 fw := by rw [hfeq]; exact hown1'
        have hBw := hB1
        have hsw := hBw.size
        refine (ht_hits s c s0 s1 c0 c1 w1).mono ?_
        rintro e2 w2 ⟨v2, rfl, hown2, hb2⟩
        obtain ⟨a2, cap2, rfl, hcells⟩ := ints_slice hown2
        have hownX := hownW.below hb2
        have hlt1 : ∀ g, (v1).ownBlock = some g → g < (w1).heap.size := fun g hg => (hownW.lt g hg).2
        have hB2 := hBw.trans (hb2.mono (by omega))
        have hrow2 := (hb2.block w.heap.size (by have := hszW; omega)).trans hrowW
        have hrng := hitL_range s c
        have hlen := hitTo_le s c 2
        have hfle : fw.length ≤ 2 := by have := fwd_le p s c; rw [hflS.out] at this; exact this
        change (hitL s c).length ≤ 2 at hlen
        have hkeep : ∀ i, i < (hitL s c).length → ∃ g, a2 = some ⟨g, 0, none⟩ ∧ g < w2.heap.size ∧ w2.cell? ⟨g, i, none⟩ = some (.int .i64 ((hitL s c).getD i 0)) ∧ (v1).ownBlock ≠ some g := fun i hi => by
          obtain ⟨g, h1, h2, h3, h4⟩ := hcells i hi
          exact ⟨g, h1, h3, h4, fun e => by have := hlt1 g e; omega⟩
        generalize hitL s c = L at *
        clear hownW hBw hown2 hb2 hrowW hcells hlt1
        go_wp2_with fail
        go_loopw [6, 10] (fun l i wr => ∃ k : Nat, k ≤ L.length ∧ i = .int .i64 (k : Int) ∧ ownInts wr (w.heap.size + 1) l (fw ++ (L.take k).filter (takeOk p c)) ∧ Below w.heap.size w wr ∧ wr.heap[w.heap.size]? = some (.cells (ints p) 24 (0, 0)) ∧ ∀ i, i < L.length → ∃ g, a2 = some ⟨g, 0, none⟩ ∧ g < wr.heap.size ∧ wr.cell? ⟨g, i, none⟩ = some (.int .i64 (L.getD i 0)) ∧ l.ownBlock ≠ some g) (fun _ i _ => L.length - (intOf i).toNat)
        case atStart => exact ⟨0, by omega, rfl, by simpa using hownX, hB2, hrow2, hkeep⟩
        case round =>
          clear hownX hB2 hrow2 hkeep
          obtain ⟨k, hk, rfl, hown, hB, hrr, hkp⟩ := hrel
          by_cases hlt : k < L.length
          · obtain ⟨g2, rfl, hg2, hck, hng⟩ := hkp k hlt
            have hst := take_filter (takeOk p c) L k hlt
            obtain ⟨q0, q1⟩ := hrng (L.getD k 0) (by simp [hlt])
            have hlf : (fw ++ (L.take k).filter (takeOk p c)).length ≤ 4 := by
              have h1 := List.length_filter_le (takeOk p c) (L.take k)
              have h2 : (L.take k).length ≤ k := List.length_take_le _ _
              rw [List.length_append]
              omega
            generalize hq : L.getD k 0 = q at *
            generalize hxs : fw ++ (L.take k).filter (takeOk p c) = xs at *
            have hcq : wr.cell? ⟨w.heap.size, q.toNat, none⟩ = some (.int .i64 (pcAt p q)) := row_cell hrr q.toNat (by rw [hp.len]; omega)
            have hce : wr.cell? ⟨w.heap.size, 66, none⟩ = some (.int .i64 (p.getD 66 0)) := row_cell hrr 66 (by rw [hp.len]; omega)
            have htk : takeOk p c q = ((decide (pcAt p q ≠ 0) && decide (sideOf (pcAt p q) ≠ c)) || (decide (pcAt p q = 0) && (decide (q = p.getD 66 0) && decide (q / 8 = 5 - 3 * c)))) := rfl
            obtain ⟨y0, y1⟩ := hcs.out.2 q q0 q1
            obtain ⟨e0, e1⟩ := hep
            have hsd : 0 ≤ sideOf (pcAt p q) ∧ sideOf (pcAt p q) ≤ 1 := by unfold sideOf; split <;> omega
            obtain ⟨d0, d1⟩ := hsd
            generalize pcAt p q = y at *
            generalize p.getD 66 0 = ep at *
            have hsize := hB.size
            have hsz1 : w.heap.size + 1 ≤ wr.heap.size := by have := (Array.getElem?_eq_some_iff.1 hrr).1; omega
            have hids := show Shut _ from And.intro hst (And.intro htk (And.intro hxs (And.intro hB (And.intro hrr hkp))))
            clear hst htk hxs hB hq hrr hkp hrng
            by_cases hy : y = 0
            · subst hy
              clear y0 y1 d0 d1
              by_cases he : q = ep ∧ q / 8 = 5 - 3 * c
              · obtain ⟨rfl, hrk⟩ := he
                have hrk2 : (q / 8 == 5 - 3 * c) = true := by simpa using hrk
                have htrue : takeOk p c q = true := hids.out.2.1.trans (by simp [hrk])
                have hrs := show Shut _ from htrue
                clear hrk htrue
                go_wp2_with fail
                go_quiet (first | (go_at_call 14; refine quiet' (hi_side _ _ (by omega))) | (go_at_call 25; refine quiet' (po_rank _ _ (by omega) (by omega))))
                have hownq : ownInts (wr.drewN nq) (w.heap.size + 1) u6 xs := hown
                have hckq : (wr.drewN nq).cell? ⟨g2, k, none⟩ = some (.int .i64 q) := hck
                have hszq : w.heap.size + 1 ≤ (wr.drewN nq).heap.size := hsz1
                have hBq := hids.out.2.2.2.1.trans ((drewN_below wr nq).mono hsize)
                have hrq : (wr.drewN nq).heap[w.heap.size]? = some (.cells (ints p) 24 (0, 0)) := hids.out.2.2.2.2.1
                have hkq : ∀ i, i < L.length → ∃ g, some (⟨g2, 0, none⟩ : Addr) = some ⟨g, 0, none⟩ ∧ g < (wr.drewN nq).heap.size ∧ (wr.drewN nq).cell? ⟨g, i, none⟩ = some (.int .i64 (L.getD i 0)) ∧ u6.ownBlock ≠ some g := hids.out.2.2.2.2.2
                have hkqS := show Shut _ from And.intro hBq (And.intro hrq hkq)
                clear hck hcq hce hown hBq hrq hkq
                generalize wr.drewN nq = wq at *
                go_wp2_with (with_reducible refine at_appendk (esz := 1) [.int .i64 q] rfl Tryd.underlying27 hi hz0 hz1 hz2 rfl (by decide) (by decide) ?_ (w.heap.size + 1) _ _ _ hownq ?_ hszq ?_ ?_ ?_)
                · intro u hu; simp at hu; subst hu; rfl
                · omega
                · rfl
                · rfl
                intro v' w' hown' hbel' hkeep' hap' hsz'
                obtain ⟨hBq, hrq, hkq⟩ := hkqS.out
                have R : ∃ k' : Nat, k' ≤ L.length ∧ Value.int .i64 ((k : Int) + 1) = .int .i64 (k' : Int) ∧ ownInts w' (w.heap.size + 1) v' (fw ++ (L.take k').filter (takeOk p c)) ∧ Below w.heap.size w w' ∧ w'.heap[w.heap.size]? = some (.cells (ints p) 24 (0, 0)) ∧ ∀ i, i < L.length → ∃ g, some (⟨g2, 0, none⟩ : Addr) = some ⟨g, 0, none⟩ ∧ g < w'.heap.size ∧ w'.cell? ⟨g, i, none⟩ = some (.int .i64 (L.getD i 0)) ∧ v'.ownBlock ≠ some g := by
                  refine ⟨k + 1, by omega, by go_num, ?_, hBq.trans (hbel'.mono (by omega)), (hbel'.block _ (by omega)).trans hrq, fun i hi => ?_⟩
                  · rw [hids.out.1, hrs.out, if_pos rfl, ← List.append_assoc, hids.out.2.2.1]
                    unfold ownInts
                    rw [List.length_append, List.map_append]
                    exact hown'
                  · obtain ⟨g, h1, h2, h3, h4⟩ := hkq i hi
                    exact ⟨g, h1, by omega, (World.cell?_of_block (a := ⟨g, i, none⟩) (hkeep' g h2 h4)).trans h3, hap' g h2 h4⟩
                have RS := show Shut _ from R
                clear R hBq hrq hkq
                go_wp2_with fail
                go_roundw
                case rel =>
                  have R := RS.out
                  first | exact R | ((repeat apply Exists.intro); exact ⟨R, rfl⟩)
                case measure => simp [intOf]; omega
              · by_cases he1 : q = ep
                · have hrk : ¬ q / 8 = 5 - 3 * c := fun h => he ⟨he1, h⟩
                  subst he1
                  have hrk2 : (q / 8 == 5 - 3 * c) = false := by simpa using hrk
                  have hfalse : takeOk p c q = false := hids.out.2.1.trans (by simp [hrk])
                  have hrs := show Shut _ from hfalse
                  clear hrk he hfalse
                  go_wp2_with fail
                  go_quiet (first | (go_at_call 14; refine quiet' (hi_side _ _ (by omega))) | (go_at_call 25; refine quiet' (po_rank _ _ (by omega) (by omega))))
                  go_wp2
                  go_roundw
                  case rel =>
                    have R : ∃ k' : Nat, k' ≤ L.length ∧ Value.int .i64 ((k : Int) + 1) = .int .i64 (k' : Int) ∧ ownInts (wr.drewN nq) (w.heap.size + 1) u6 (fw ++ (L.take k').filter (takeOk p c)) ∧ Below w.heap.size w (wr.drewN nq) ∧ (wr.drewN nq).heap[w.heap.size]? = some (.cells (ints p) 24 (0, 0)) ∧ ∀ i, i < L.length → ∃ g, some (⟨g2, 0, none⟩ : Addr) = some ⟨g, 0, none⟩ ∧ g < (wr.drewN nq).heap.size ∧ (wr.drewN nq).cell? ⟨g, i, none⟩ = some (.int .i64 (L.getD i 0)) ∧ u6.ownBlock ≠ some g := by
                      refine ⟨k + 1, by omega, by go_num, ?_, hids.out.2.2.2.1.trans ((drewN_below wr nq).mono hsize), hids.out.2.2.2.2.1, hids.out.2.2.2.2.2⟩
                      rw [hids.out.1, hrs.out, if_neg (by decide), List.append_nil, hids.out.2.2.1]
                      exact hown
                    first | exact R | ((repeat apply Exists.intro); exact ⟨R, rfl⟩)
                  case measure => simp [intOf]; omega
                · have hrk2 : (q == ep) = false := by simpa using he1
                  have hfalse : takeOk p c q = false := hids.out.2.1.trans (by simp [he1])
                  have hrs := show Shut _ from hfalse
                  clear he he1 hfalse
                  go_wp2_with fail
                  go_quiet (first | (go_at_call 14; refine quiet' (hi_side _ _ (by omega))) | (go_at_call 25; refine quiet' (po_rank _ _ (by omega) (by omega))))
                  go_wp2
                  go_roundw
                  case rel =>
                    have R : ∃ k' : Nat, k' ≤ L.length ∧ Value.int .i64 ((k : Int) + 1) = .int .i64 (k' : Int) ∧ ownInts (wr.drewN nq) (w.heap.size + 1) u6 (fw ++ (L.take k').filter (takeOk p c)) ∧ Below w.heap.size w (wr.drewN nq) ∧ (wr.drewN nq).heap[w.heap.size]? = some (.cells (ints p) 24 (0, 0)) ∧ ∀ i, i < L.length → ∃ g, some (⟨g2, 0, none⟩ : Addr) = some ⟨g, 0, none⟩ ∧ g < (wr.drewN nq).heap.size ∧ (wr.drewN nq).cell? ⟨g, i, none⟩ = some (.int .i64 (L.getD i 0)) ∧ u6.ownBlock ≠ some g := by
                      refine ⟨k + 1, by omega, by go_num, ?_, hids.out.2.2.2.1.trans ((drewN_below wr nq).mono hsize), hids.out.2.2.2.2.1, hids.out.2.2.2.2.2⟩
                      rw [hids.out.1, hrs.out, if_neg (by decide), List.append_nil, hids.out.2.2.1]
                      exact hown
                    first | exact R | ((repeat apply Exists.intro); exact ⟨R, rfl⟩)
                  case measure => simp [intOf]; omega
            · have hy1 : (y == 0) = false := by simpa using hy
              have hy2 : (y != 0) = true := by simpa using hy
              by_cases hs : sideOf y = c
              · have hs2 : (sideOf y != c) = false := by simpa using hs
                have hfalse : takeOk p c q = false := hids.out.2.1.trans (by simp [hy, hs])
                have hrs := show Shut _ from hfalse
                clear hs hy hfalse
                go_wp2_with fail
                go_quiet (first | (go_at_call 14; refine quiet' (hi_side _ _ (by omega))) | (go_at_call 25; refine quiet' (po_rank _ _ (by omega) (by omega))))
                go_wp2
                go_roundw
                case rel =>
                  have R : ∃ k' : Nat, k' ≤ L.length ∧ Value.int .i64 ((k : Int) + 1) = .int .i64 (k' : Int) ∧ ownInts (wr.drewN nq) (w.heap.size + 1) u6 (fw ++ (L.take k').filter (takeOk p c)) ∧ Below w.heap.size w (wr.drewN nq) ∧ (wr.drewN nq).heap[w.heap.size]? = some (.cells (ints p) 24 (0, 0)) ∧ ∀ i, i < L.length → ∃ g, some (⟨g2, 0, none⟩ : Addr) = some ⟨g, 0, none⟩ ∧ g < (wr.drewN nq).heap.size ∧ (wr.drewN nq).cell? ⟨g, i, none⟩ = some (.int .i64 (L.getD i 0)) ∧ u6.ownBlock ≠ some g := by
                    refine ⟨k + 1, by omega, by go_num, ?_, hids.out.2.2.2.1.trans ((drewN_below wr nq).mono hsize), hids.out.2.2.2.2.1, hids.out.2.2.2.2.2⟩
                    rw [hids.out.1, hrs.out, if_neg (by decide), List.append_nil, hids.out.2.2.1]
                    exact hown
                  first | exact R | ((repeat apply Exists.intro); exact ⟨R, rfl⟩)
                case measure => simp [intOf]; omega
              · have hs2 : (sideOf y != c) = true := by simpa using hs
                have htrue : takeOk p c q = true := hids.out.2.1.trans (by simp [hy, hs])
                have hrs := show Shut _ from htrue
                clear hs hy htrue
                go_wp2_with fail
                go_quiet (first | (go_at_call 14; refine quiet' (hi_side _ _ (by omega))) | (go_at_call 25; refine quiet' (po_rank _ _ (by omega) (by omega))))
                have hownq : ownInts (wr.drewN nq) (w.heap.size + 1) u6 xs := hown
                have hckq : (wr.drewN nq).cell? ⟨g2, k, none⟩ = some (.int .i64 q) := hck
                have hszq : w.heap.size + 1 ≤ (wr.drewN nq).heap.size := hsz1
                have hBq := hids.out.2.2.2.1.trans ((drewN_below wr nq).mono hsize)
                have hrq : (wr.drewN nq).heap[w.heap.size]? = some (.cells (ints p) 24 (0, 0)) := hids.out.2.2.2.2.1
                have hkq : ∀ i, i < L.length → ∃ g, some (⟨g2, 0, none⟩ : Addr) = some ⟨g, 0, none⟩ ∧ g < (wr.drewN nq).heap.size ∧ (wr.drewN nq).cell? ⟨g, i, none⟩ = some (.int .i64 (L.getD i 0)) ∧ u6.ownBlock ≠ some g := hids.out.2.2.2.2.2
                have hkqS := show Shut _ from And.intro hBq (And.intro hrq hkq)
                clear hck hcq hce hown hBq hrq hkq
                generalize wr.drewN nq = wq at *
                go_wp2_with (with_reducible refine at_appendk (esz := 1) [.int .i64 q] rfl Tryd.underlying27 hi hz0 hz1 hz2 rfl (by decide) (by decide) ?_ (w.heap.size + 1) _ _ _ hownq ?_ hszq ?_ ?_ ?_)
                · intro u hu; simp at hu; subst hu; rfl
                · omega
                · rfl
                · rfl
                intro v' w' hown' hbel' hkeep' hap' hsz'
                obtain ⟨hBq, hrq, hkq⟩ := hkqS.out
                have R : ∃ k' : Nat, k' ≤ L.length ∧ Value.int .i64 ((k : Int) + 1) = .int .i64 (k' : Int) ∧ ownInts w' (w.heap.size + 1) v' (fw ++ (L.take k').filter (takeOk p c)) ∧ Below w.heap.size w w' ∧ w'.heap[w.heap.size]? = some (.cells (ints p) 24 (0, 0)) ∧ ∀ i, i < L.length → ∃ g, some (⟨g2, 0, none⟩ : Addr) = some ⟨g, 0, none⟩ ∧ g < w'.heap.size ∧ w'.cell? ⟨g, i, none⟩ = some (.int .i64 (L.getD i 0)) ∧ v'.ownBlock ≠ some g := by
                  refine ⟨k + 1, by omega, by go_num, ?_, hBq.trans (hbel'.mono (by omega)), (hbel'.block _ (by omega)).trans hrq, fun i hi => ?_⟩
                  · rw [hids.out.1, hrs.out, if_pos rfl, ← List.append_assoc, hids.out.2.2.1]
                    unfold ownInts
                    rw [List.length_append, List.map_append]
                    exact hown'
                  · obtain ⟨g, h1, h2, h3, h4⟩ := hkq i hi
                    exact ⟨g, h1, by omega, (World.cell?_of_block (a := ⟨g, i, none⟩) (hkeep' g h2 h4)).trans h3, hap' g h2 h4⟩
                have RS := show Shut _ from R
                clear R hBq hrq hkq
                go_wp2_with fail
                go_roundw
                case rel =>
                  have R := RS.out
                  first | exact R | ((repeat apply Exists.intro); exact ⟨R, rfl⟩)
                case measure => simp [intOf]; omega
          · obtain rfl : k = L.length := by omega
            clear hkp
            go_wp2_with fail
            go_ret
            have hfin := hown
            rw [List.take_length] at hfin
            exact ⟨_, rfl, by rw [hTs.out]; exact own_mono hfin (by omega), hB⟩
    · have hfeq : fw = [o] := by have h := hfs.out.1; rw [if_pos ⟨ho, hzs.out⟩, if_neg (fun h => hR h.1)] at h; exact h
      have hR2 : (s / 8 == 1 + 5 * c) = false := by simpa using hR
      have hRs := show Shut _ from And.intro hR hfeq
      clear hR hfeq
      go_wp2_with (first
        | (go_at_call 41; refine (hfs.out.2.2.2 _).mono ?_; rintro e1 w1 ⟨rfl, rfl⟩)
        | (go_at_call 32; refine (po_file _ _ (by omega) (by omega)).mono ?_; rintro e1 w1 ⟨rfl, rfl⟩)
        | (go_at_call 25; refine (po_rank _ _ (by omega) (by omega)).mono ?_; rintro e1 w1 ⟨rfl, rfl⟩)
        | (go_at_call 33; refine (hi_up _ _ (by omega) (by omega)).mono ?_; rintro e1 w1 ⟨rfl, rfl⟩))
      have hfeq := hRs.out.2
      have hszW : w.heap.size < w1.heap.size := by omega
      have hrowW := hrow1
      have hownW : ownInts w1 (w.heap.size + 1) v1 fw := by rw [hfeq]; exact hown1'
      have hBw := hB1
      have hsw := hBw.size
      refine (ht_hits s c s0 s1 c0 c1 w1).mono ?_
      rintro e2 w2 ⟨v2, rfl, hown2, hb2⟩
      obtain ⟨a2, cap2, rfl, hcells⟩ := ints_slice hown2
      have hownX := hownW.below hb2
      have hlt1 : ∀ g, (v1).ownBlock = some g → g < (w1).heap.size := fun g hg => (hownW.lt g hg).2
      have hB2 := hBw.trans (hb2.mono (by omega))
      have hrow2 := (hb2.block w.heap.size (by have := hszW; omega)).trans hrowW
      have hrng := hitL_range s c
      have hlen := hitTo_le s c 2
      have hfle : fw.length ≤ 2 := by have := fwd_le p s c; rw [hflS.out] at this; exact this
      change (hitL s c).length ≤ 2 at hlen
      have hkeep : ∀ i, i < (hitL s c).length → ∃ g, a2 = some ⟨g, 0, none⟩ ∧ g < w2.heap.size ∧ w2.cell? ⟨g, i, none⟩ = some (.int .i64 ((hitL s c).getD i 0)) ∧ (v1).ownBlock ≠ some g := fun i hi => by
        obtain ⟨g, h1, h2, h3, h4⟩ := hcells i hi
        exact ⟨g, h1, h3, h4, fun e => by have := hlt1 g e; omega⟩
      generalize hitL s c = L at *
      clear hownW hBw hown2 hb2 hrowW hcells hlt1
      go_wp2_with fail
      go_loopw [6, 10] (fun l i wr => ∃ k : Nat, k ≤ L.length ∧ i = .int .i64 (k : Int) ∧ ownInts wr (w.heap.size + 1) l (fw ++ (L.take k).filter (takeOk p c)) ∧ Below w.heap.size w wr ∧ wr.heap[w.heap.size]? = some (.cells (ints p) 24 (0, 0)) ∧ ∀ i, i < L.length → ∃ g, a2 = some ⟨g, 0, none⟩ ∧ g < wr.heap.size ∧ wr.cell? ⟨g, i, none⟩ = some (.int .i64 (L.getD i 0)) ∧ l.ownBlock ≠ some g) (fun _ i _ => L.length - (intOf i).toNat)
      case atStart => exact ⟨0, by omega, rfl, by simpa using hownX, hB2, hrow2, hkeep⟩
      case round =>
        clear hownX hB2 hrow2 hkeep
        obtain ⟨k, hk, rfl, hown, hB, hrr, hkp⟩ := hrel
        by_cases hlt : k < L.length
        · obtain ⟨g2, rfl, hg2, hck, hng⟩ := hkp k hlt
          have hst := take_filter (takeOk p c) L k hlt
          obtain ⟨q0, q1⟩ := hrng (L.getD k 0) (by simp [hlt])
          have hlf : (fw ++ (L.take k).filter (takeOk p c)).length ≤ 4 := by
            have h1 := List.length_filter_le (takeOk p c) (L.take k)
            have h2 : (L.take k).length ≤ k := List.length_take_le _ _
            rw [List.length_append]
            omega
          generalize hq : L.getD k 0 = q at *
          generalize hxs : fw ++ (L.take k).filter (takeOk p c) = xs at *
          have hcq : wr.cell? ⟨w.heap.size, q.toNat, none⟩ = some (.int .i64 (pcAt p q)) := row_cell hrr q.toNat (by rw [hp.len]; omega)
          have hce : wr.cell? ⟨w.heap.size, 66, none⟩ = some (.int .i64 (p.getD 66 0)) := row_cell hrr 66 (by rw [hp.len]; omega)
          have htk : takeOk p c q = ((decide (pcAt p q ≠ 0) && decide (sideOf (pcAt p q) ≠ c)) || (decide (pcAt p q = 0) && (decide (q = p.getD 66 0) && decide (q / 8 = 5 - 3 * c)))) := rfl
          obtain ⟨y0, y1⟩ := hcs.out.2 q q0 q1
          obtain ⟨e0, e1⟩ := hep
          have hsd : 0 ≤ sideOf (pcAt p q) ∧ sideOf (pcAt p q) ≤ 1 := by unfold sideOf; split <;> omega
          obtain ⟨d0, d1⟩ := hsd
          generalize pcAt p q = y at *
          generalize p.getD 66 0 = ep at *
          have hsize := hB.size
          have hsz1 : w.heap.size + 1 ≤ wr.heap.size := by have := (Array.getElem?_eq_some_iff.1 hrr).1; omega
          have hids := show Shut _ from And.intro hst (And.intro htk (And.intro hxs (And.intro hB (And.intro hrr hkp))))
          clear hst htk hxs hB hq hrr hkp hrng
          by_cases hy : y = 0
          · subst hy
            clear y0 y1 d0 d1
            by_cases he : q = ep ∧ q / 8 = 5 - 3 * c
            · obtain ⟨rfl, hrk⟩ := he
              have hrk2 : (q / 8 == 5 - 3 * c) = true := by simpa using hrk
              have htrue : takeOk p c q = true := hids.out.2.1.trans (by simp [hrk])
              have hrs := show Shut _ from htrue
              clear hrk htrue
              go_wp2_with fail
              go_quiet (first | (go_at_call 14; refine quiet' (hi_side _ _ (by omega))) | (go_at_call 25; refine quiet' (po_rank _ _ (by omega) (by omega))))
              have hownq : ownInts (wr.drewN nq) (w.heap.size + 1) u6 xs := hown
              have hckq : (wr.drewN nq).cell? ⟨g2, k, none⟩ = some (.int .i64 q) := hck
              have hszq : w.heap.size + 1 ≤ (wr.drewN nq).heap.size := hsz1
              have hBq := hids.out.2.2.2.1.trans ((drewN_below wr nq).mono hsize)
              have hrq : (wr.drewN nq).heap[w.heap.size]? = some (.cells (ints p) 24 (0, 0)) := hids.out.2.2.2.2.1
              have hkq : ∀ i, i < L.length → ∃ g, some (⟨g2, 0, none⟩ : Addr) = some ⟨g, 0, none⟩ ∧ g < (wr.drewN nq).heap.size ∧ (wr.drewN nq).cell? ⟨g, i, none⟩ = some (.int .i64 (L.getD i 0)) ∧ u6.ownBlock ≠ some g := hids.out.2.2.2.2.2
              have hkqS := show Shut _ from And.intro hBq (And.intro hrq hkq)
              clear hck hcq hce hown hBq hrq hkq
              generalize wr.drewN nq = wq at *
              go_wp2_with (with_reducible refine at_appendk (esz := 1) [.int .i64 q] rfl Tryd.underlying27 hi hz0 hz1 hz2 rfl (by decide) (by decide) ?_ (w.heap.size + 1) _ _ _ hownq ?_ hszq ?_ ?_ ?_)
              · intro u hu; simp at hu; subst hu; rfl
              · omega
              · rfl
              · rfl
              intro v' w' hown' hbel' hkeep' hap' hsz'
              obtain ⟨hBq, hrq, hkq⟩ := hkqS.out
              have R : ∃ k' : Nat, k' ≤ L.length ∧ Value.int .i64 ((k : Int) + 1) = .int .i64 (k' : Int) ∧ ownInts w' (w.heap.size + 1) v' (fw ++ (L.take k').filter (takeOk p c)) ∧ Below w.heap.size w w' ∧ w'.heap[w.heap.size]? = some (.cells (ints p) 24 (0, 0)) ∧ ∀ i, i < L.length → ∃ g, some (⟨g2, 0, none⟩ : Addr) = some ⟨g, 0, none⟩ ∧ g < w'.heap.size ∧ w'.cell? ⟨g, i, none⟩ = some (.int .i64 (L.getD i 0)) ∧ v'.ownBlock ≠ some g := by
                refine ⟨k + 1, by omega, by go_num, ?_, hBq.trans (hbel'.mono (by omega)), (hbel'.block _ (by omega)).trans hrq, fun i hi => ?_⟩
                · rw [hids.out.1, hrs.out, if_pos rfl, ← List.append_assoc, hids.out.2.2.1]
                  unfold ownInts
                  rw [List.length_append, List.map_append]
                  exact hown'
                · obtain ⟨g, h1, h2, h3, h4⟩ := hkq i hi
                  exact ⟨g, h1, by omega, (World.cell?_of_block (a := ⟨g, i, none⟩) (hkeep' g h2 h4)).trans h3, hap' g h2 h4⟩
              have RS := show Shut _ from R
              clear R hBq hrq hkq
              go_wp2_with fail
              go_roundw
              case rel =>
                have R := RS.out
                first | exact R | ((repeat apply Exists.intro); exact ⟨R, rfl⟩)
              case measure => simp [intOf]; omega
            · by_cases he1 : q = ep
              · have hrk : ¬ q / 8 = 5 - 3 * c := fun h => he ⟨he1, h⟩
                subst he1
                have hrk2 : (q / 8 == 5 - 3 * c) = false := by simpa using hrk
                have hfalse : takeOk p c q = false := hids.out.2.1.trans (by simp [hrk])
                have hrs := show Shut _ from hfalse
                clear hrk he hfalse
                go_wp2_with fail
                go_quiet (first | (go_at_call 14; refine quiet' (hi_side _ _ (by omega))) | (go_at_call 25; refine quiet' (po_rank _ _ (by omega) (by omega))))
                go_wp2
                go_roundw
                case rel =>
                  have R : ∃ k' : Nat, k' ≤ L.length ∧ Value.int .i64 ((k : Int) + 1) = .int .i64 (k' : Int) ∧ ownInts (wr.drewN nq) (w.heap.size + 1) u6 (fw ++ (L.take k').filter (takeOk p c)) ∧ Below w.heap.size w (wr.drewN nq) ∧ (wr.drewN nq).heap[w.heap.size]? = some (.cells (ints p) 24 (0, 0)) ∧ ∀ i, i < L.length → ∃ g, some (⟨g2, 0, none⟩ : Addr) = some ⟨g, 0, none⟩ ∧ g < (wr.drewN nq).heap.size ∧ (wr.drewN nq).cell? ⟨g, i, none⟩ = some (.int .i64 (L.getD i 0)) ∧ u6.ownBlock ≠ some g := by
                    refine ⟨k + 1, by omega, by go_num, ?_, hids.out.2.2.2.1.trans ((drewN_below wr nq).mono hsize), hids.out.2.2.2.2.1, hids.out.2.2.2.2.2⟩
                    rw [hids.out.1, hrs.out, if_neg (by decide), List.append_nil, hids.out.2.2.1]
                    exact hown
                  first | exact R | ((repeat apply Exists.intro); exact ⟨R, rfl⟩)
                case measure => simp [intOf]; omega
              · have hrk2 : (q == ep) = false := by simpa using he1
                have hfalse : takeOk p c q = false := hids.out.2.1.trans (by simp [he1])
                have hrs := show Shut _ from hfalse
                clear he he1 hfalse
                go_wp2_with fail
                go_quiet (first | (go_at_call 14; refine quiet' (hi_side _ _ (by omega))) | (go_at_call 25; refine quiet' (po_rank _ _ (by omega) (by omega))))
                go_wp2
                go_roundw
                case rel =>
                  have R : ∃ k' : Nat, k' ≤ L.length ∧ Value.int .i64 ((k : Int) + 1) = .int .i64 (k' : Int) ∧ ownInts (wr.drewN nq) (w.heap.size + 1) u6 (fw ++ (L.take k').filter (takeOk p c)) ∧ Below w.heap.size w (wr.drewN nq) ∧ (wr.drewN nq).heap[w.heap.size]? = some (.cells (ints p) 24 (0, 0)) ∧ ∀ i, i < L.length → ∃ g, some (⟨g2, 0, none⟩ : Addr) = some ⟨g, 0, none⟩ ∧ g < (wr.drewN nq).heap.size ∧ (wr.drewN nq).cell? ⟨g, i, none⟩ = some (.int .i64 (L.getD i 0)) ∧ u6.ownBlock ≠ some g := by
                    refine ⟨k + 1, by omega, by go_num, ?_, hids.out.2.2.2.1.trans ((drewN_below wr nq).mono hsize), hids.out.2.2.2.2.1, hids.out.2.2.2.2.2⟩
                    rw [hids.out.1, hrs.out, if_neg (by decide), List.append_nil, hids.out.2.2.1]
                    exact hown
                  first | exact R | ((repeat apply Exists.intro); exact ⟨R, rfl⟩)
                case measure => simp [intOf]; omega
          · have hy1 : (y == 0) = false := by simpa using hy
            have hy2 : (y != 0) = true := by simpa using hy
            by_cases hs : sideOf y = c
            · have hs2 : (sideOf y != c) = false := by simpa using hs
              have hfalse : takeOk p c q = false := hids.out.2.1.trans (by simp [hy, hs])
              have hrs := show Shut _ from hfalse
              clear hs hy hfalse
              go_wp2_with fail
              go_quiet (first | (go_at_call 14; refine quiet' (hi_side _ _ (by omega))) | (go_at_call 25; refine quiet' (po_rank _ _ (by omega) (by omega))))
              go_wp2
              go_roundw
              case rel =>
                have R : ∃ k' : Nat, k' ≤ L.length ∧ Value.int .i64 ((k : Int) + 1) = .int .i64 (k' : Int) ∧ ownInts (wr.drewN nq) (w.heap.size + 1) u6 (fw ++ (L.take k').filter (takeOk p c)) ∧ Below w.heap.size w (wr.drewN nq) ∧ (wr.drewN nq).heap[w.heap.size]? = some (.cells (ints p) 24 (0, 0)) ∧ ∀ i, i < L.length → ∃ g, some (⟨g2, 0, none⟩ : Addr) = some ⟨g, 0, none⟩ ∧ g < (wr.drewN nq).heap.size ∧ (wr.drewN nq).cell? ⟨g, i, none⟩ = some (.int .i64 (L.getD i 0)) ∧ u6.ownBlock ≠ some g := by
                  refine ⟨k + 1, by omega, by go_num, ?_, hids.out.2.2.2.1.trans ((drewN_below wr nq).mono hsize), hids.out.2.2.2.2.1, hids.out.2.2.2.2.2⟩
                  rw [hids.out.1, hrs.out, if_neg (by decide), List.append_nil, hids.out.2.2.1]
                  exact hown
                first | exact R | ((repeat apply Exists.intro); exact ⟨R, rfl⟩)
              case measure => simp [intOf]; omega
            · have hs2 : (sideOf y != c) = true := by simpa using hs
              have htrue : takeOk p c q = true := hids.out.2.1.trans (by simp [hy, hs])
              have hrs := show Shut _ from htrue
              clear hs hy htrue
              go_wp2_with fail
              go_quiet (first | (go_at_call 14; refine quiet' (hi_side _ _ (by omega))) | (go_at_call 25; refine quiet' (po_rank _ _ (by omega) (by omega))))
              have hownq : ownInts (wr.drewN nq) (w.heap.size + 1) u6 xs := hown
              have hckq : (wr.drewN nq).cell? ⟨g2, k, none⟩ = some (.int .i64 q) := hck
              have hszq : w.heap.size + 1 ≤ (wr.drewN nq).heap.size := hsz1
              have hBq := hids.out.2.2.2.1.trans ((drewN_below wr nq).mono hsize)
              have hrq : (wr.drewN nq).heap[w.heap.size]? = some (.cells (ints p) 24 (0, 0)) := hids.out.2.2.2.2.1
              have hkq : ∀ i, i < L.length → ∃ g, some (⟨g2, 0, none⟩ : Addr) = some ⟨g, 0, none⟩ ∧ g < (wr.drewN nq).heap.size ∧ (wr.drewN nq).cell? ⟨g, i, none⟩ = some (.int .i64 (L.getD i 0)) ∧ u6.ownBlock ≠ some g := hids.out.2.2.2.2.2
              have hkqS := show Shut _ from And.intro hBq (And.intro hrq hkq)
              clear hck hcq hce hown hBq hrq hkq
              generalize wr.drewN nq = wq at *
              go_wp2_with (with_reducible refine at_appendk (esz := 1) [.int .i64 q] rfl Tryd.underlying27 hi hz0 hz1 hz2 rfl (by decide) (by decide) ?_ (w.heap.size + 1) _ _ _ hownq ?_ hszq ?_ ?_ ?_)
              · intro u hu; simp at hu; subst hu; rfl
              · omega
              · rfl
              · rfl
              intro v' w' hown' hbel' hkeep' hap' hsz'
              obtain ⟨hBq, hrq, hkq⟩ := hkqS.out
              have R : ∃ k' : Nat, k' ≤ L.length ∧ Value.int .i64 ((k : Int) + 1) = .int .i64 (k' : Int) ∧ ownInts w' (w.heap.size + 1) v' (fw ++ (L.take k').filter (takeOk p c)) ∧ Below w.heap.size w w' ∧ w'.heap[w.heap.size]? = some (.cells (ints p) 24 (0, 0)) ∧ ∀ i, i < L.length → ∃ g, some (⟨g2, 0, none⟩ : Addr) = some ⟨g, 0, none⟩ ∧ g < w'.heap.size ∧ w'.cell? ⟨g, i, none⟩ = some (.int .i64 (L.getD i 0)) ∧ v'.ownBlock ≠ some g := by
                refine ⟨k + 1, by omega, by go_num, ?_, hBq.trans (hbel'.mono (by omega)), (hbel'.block _ (by omega)).trans hrq, fun i hi => ?_⟩
                · rw [hids.out.1, hrs.out, if_pos rfl, ← List.append_assoc, hids.out.2.2.1]
                  unfold ownInts
                  rw [List.length_append, List.map_append]
                  exact hown'
                · obtain ⟨g, h1, h2, h3, h4⟩ := hkq i hi
                  exact ⟨g, h1, by omega, (World.cell?_of_block (a := ⟨g, i, none⟩) (hkeep' g h2 h4)).trans h3, hap' g h2 h4⟩
              have RS := show Shut _ from R
              clear R hBq hrq hkq
              go_wp2_with fail
              go_roundw
              case rel =>
                have R := RS.out
                first | exact R | ((repeat apply Exists.intro); exact ⟨R, rfl⟩)
              case measure => simp [intOf]; omega
        · obtain rfl : k = L.length := by omega
          clear hkp
          go_wp2_with fail
          go_ret
          have hfin := hown
          rw [List.take_length] at hfin
          exact ⟨_, rfl, by rw [hTs.out]; exact own_mono hfin (by omega), hB⟩
  · have hfeq : fw = [] := by have h := hfs.out.1; rw [if_neg hA] at h; exact h
    have hszW : w.heap.size < W0.heap.size := by omega
    have hrowW := hrow
    have hAs := show Shut _ from And.intro hA hfeq
    clear hfeq
    by_cases ho : 0 ≤ o
    · have hne : pcAt p o ≠ 0 := fun h => hA ⟨ho, h⟩
      have co := hcs.out.1 o ho (by omega)
      have hne2 : (pcAt p o == 0) = false := by simpa using hne
      generalize pcAt p o = z at *
      clear hA hne
      go_wp2_with (first
        | (go_at_call 41; refine (hfs.out.2.2.1 _).mono ?_; rintro e1 w1 ⟨rfl, rfl⟩)
        | (go_at_call 32; refine (po_file _ _ (by omega) (by omega)).mono ?_; rintro e1 w1 ⟨rfl, rfl⟩)
        | (go_at_call 25; refine (po_rank _ _ (by omega) (by omega)).mono ?_; rintro e1 w1 ⟨rfl, rfl⟩)
        | (go_at_call 33; refine (hi_up _ _ (by omega) (by omega)).mono ?_; rintro e1 w1 ⟨rfl, rfl⟩))
      have hfeq := hAs.out.2
      have hownW : ownInts W0 (w.heap.size + 1) (Value.slice none 0 0) fw := by rw [hfeq]; exact World.ownsRow_nil _ _ _ _
      have hBw := hBW
      have hsw := hBw.size
      refine (ht_hits s c s0 s1 c0 c1 W0).mono ?_
      rintro e2 w2 ⟨v2, rfl, hown2, hb2⟩
      obtain ⟨a2, cap2, rfl, hcells⟩ := ints_slice hown2
      have hownX := hownW.below hb2
      have hlt1 : ∀ g, ((Value.slice none 0 0)).ownBlock = some g → g < (W0).heap.size := fun g hg => (hownW.lt g hg).2
      have hB2 := hBw.trans (hb2.mono (by omega))
      have hrow2 := (hb2.block w.heap.size (by have := hszW; omega)).trans hrowW
      have hrng := hitL_range s c
      have hlen := hitTo_le s c 2
      have hfle : fw.length ≤ 2 := by have := fwd_le p s c; rw [hflS.out] at this; exact this
      change (hitL s c).length ≤ 2 at hlen
      have hkeep : ∀ i, i < (hitL s c).length → ∃ g, a2 = some ⟨g, 0, none⟩ ∧ g < w2.heap.size ∧ w2.cell? ⟨g, i, none⟩ = some (.int .i64 ((hitL s c).getD i 0)) ∧ ((Value.slice none 0 0)).ownBlock ≠ some g := fun i hi => by
        obtain ⟨g, h1, h2, h3, h4⟩ := hcells i hi
        exact ⟨g, h1, h3, h4, fun e => by have := hlt1 g e; omega⟩
      generalize hitL s c = L at *
      clear hownW hBw hown2 hb2 hrowW hcells hlt1
      go_wp2_with fail
      go_loopw [6, 10] (fun l i wr => ∃ k : Nat, k ≤ L.length ∧ i = .int .i64 (k : Int) ∧ ownInts wr (w.heap.size + 1) l (fw ++ (L.take k).filter (takeOk p c)) ∧ Below w.heap.size w wr ∧ wr.heap[w.heap.size]? = some (.cells (ints p) 24 (0, 0)) ∧ ∀ i, i < L.length → ∃ g, a2 = some ⟨g, 0, none⟩ ∧ g < wr.heap.size ∧ wr.cell? ⟨g, i, none⟩ = some (.int .i64 (L.getD i 0)) ∧ l.ownBlock ≠ some g) (fun _ i _ => L.length - (intOf i).toNat)
      case atStart => exact ⟨0, by omega, rfl, by simpa using hownX, hB2, hrow2, hkeep⟩
      case round =>
        clear hownX hB2 hrow2 hkeep
        obtain ⟨k, hk, rfl, hown, hB, hrr, hkp⟩ := hrel
        by_cases hlt : k < L.length
        · obtain ⟨g2, rfl, hg2, hck, hng⟩ := hkp k hlt
          have hst := take_filter (takeOk p c) L k hlt
          obtain ⟨q0, q1⟩ := hrng (L.getD k 0) (by simp [hlt])
          have hlf : (fw ++ (L.take k).filter (takeOk p c)).length ≤ 4 := by
            have h1 := List.length_filter_le (takeOk p c) (L.take k)
            have h2 : (L.take k).length ≤ k := List.length_take_le _ _
            rw [List.length_append]
            omega
          generalize hq : L.getD k 0 = q at *
          generalize hxs : fw ++ (L.take k).filter (takeOk p c) = xs at *
          have hcq : wr.cell? ⟨w.heap.size, q.toNat, none⟩ = some (.int .i64 (pcAt p q)) := row_cell hrr q.toNat (by rw [hp.len]; omega)
          have hce : wr.cell? ⟨w.heap.size, 66, none⟩ = some (.int .i64 (p.getD 66 0)) := row_cell hrr 66 (by rw [hp.len]; omega)
          have htk : takeOk p c q = ((decide (pcAt p q ≠ 0) && decide (sideOf (pcAt p q) ≠ c)) || (decide (pcAt p q = 0) && (decide (q = p.getD 66 0) && decide (q / 8 = 5 - 3 * c)))) := rfl
          obtain ⟨y0, y1⟩ := hcs.out.2 q q0 q1
          obtain ⟨e0, e1⟩ := hep
          have hsd : 0 ≤ sideOf (pcAt p q) ∧ sideOf (pcAt p q) ≤ 1 := by unfold sideOf; split <;> omega
          obtain ⟨d0, d1⟩ := hsd
          generalize pcAt p q = y at *
          generalize p.getD 66 0 = ep at *
          have hsize := hB.size
          have hsz1 : w.heap.size + 1 ≤ wr.heap.size := by have := (Array.getElem?_eq_some_iff.1 hrr).1; omega
          have hids := show Shut _ from And.intro hst (And.intro htk (And.intro hxs (And.intro hB (And.intro hrr hkp))))
          clear hst htk hxs hB hq hrr hkp hrng
          by_cases hy : y = 0
          · subst hy
            clear y0 y1 d0 d1
            by_cases he : q = ep ∧ q / 8 = 5 - 3 * c
            · obtain ⟨rfl, hrk⟩ := he
              have hrk2 : (q / 8 == 5 - 3 * c) = true := by simpa using hrk
              have htrue : takeOk p c q = true := hids.out.2.1.trans (by simp [hrk])
              have hrs := show Shut _ from htrue
              clear hrk htrue
              go_wp2_with fail
              go_quiet (first | (go_at_call 14; refine quiet' (hi_side _ _ (by omega))) | (go_at_call 25; refine quiet' (po_rank _ _ (by omega) (by omega))))
              have hownq : ownInts (wr.drewN nq) (w.heap.size + 1) u6 xs := hown
              have hckq : (wr.drewN nq).cell? ⟨g2, k, none⟩ = some (.int .i64 q) := hck
              have hszq : w.heap.size + 1 ≤ (wr.drewN nq).heap.size := hsz1
              have hBq := hids.out.2.2.2.1.trans ((drewN_below wr nq).mono hsize)
              have hrq : (wr.drewN nq).heap[w.heap.size]? = some (.cells (ints p) 24 (0, 0)) := hids.out.2.2.2.2.1
              have hkq : ∀ i, i < L.length → ∃ g, some (⟨g2, 0, none⟩ : Addr) = some ⟨g, 0, none⟩ ∧ g < (wr.drewN nq).heap.size ∧ (wr.drewN nq).cell? ⟨g, i, none⟩ = some (.int .i64 (L.getD i 0)) ∧ u6.ownBlock ≠ some g := hids.out.2.2.2.2.2
              have hkqS := show Shut _ from And.intro hBq (And.intro hrq hkq)
              clear hck hcq hce hown hBq hrq hkq
              generalize wr.drewN nq = wq at *
              go_wp2_with (with_reducible refine at_appendk (esz := 1) [.int .i64 q] rfl Tryd.underlying27 hi hz0 hz1 hz2 rfl (by decide) (by decide) ?_ (w.heap.size + 1) _ _ _ hownq ?_ hszq ?_ ?_ ?_)
              · intro u hu; simp at hu; subst hu; rfl
              · omega
              · rfl
              · rfl
              intro v' w' hown' hbel' hkeep' hap' hsz'
              obtain ⟨hBq, hrq, hkq⟩ := hkqS.out
              have R : ∃ k' : Nat, k' ≤ L.length ∧ Value.int .i64 ((k : Int) + 1) = .int .i64 (k' : Int) ∧ ownInts w' (w.heap.size + 1) v' (fw ++ (L.take k').filter (takeOk p c)) ∧ Below w.heap.size w w' ∧ w'.heap[w.heap.size]? = some (.cells (ints p) 24 (0, 0)) ∧ ∀ i, i < L.length → ∃ g, some (⟨g2, 0, none⟩ : Addr) = some ⟨g, 0, none⟩ ∧ g < w'.heap.size ∧ w'.cell? ⟨g, i, none⟩ = some (.int .i64 (L.getD i 0)) ∧ v'.ownBlock ≠ some g := by
                refine ⟨k + 1, by omega, by go_num, ?_, hBq.trans (hbel'.mono (by omega)), (hbel'.block _ (by omega)).trans hrq, fun i hi => ?_⟩
                · rw [hids.out.1, hrs.out, if_pos rfl, ← List.append_assoc, hids.out.2.2.1]
                  unfold ownInts
                  rw [List.length_append, List.map_append]
                  exact hown'
                · obtain ⟨g, h1, h2, h3, h4⟩ := hkq i hi
                  exact ⟨g, h1, by omega, (World.cell?_of_block (a := ⟨g, i, none⟩) (hkeep' g h2 h4)).trans h3, hap' g h2 h4⟩
              have RS := show Shut _ from R
              clear R hBq hrq hkq
              go_wp2_with fail
              go_roundw
              case rel =>
                have R := RS.out
                first | exact R | ((repeat apply Exists.intro); exact ⟨R, rfl⟩)
              case measure => simp [intOf]; omega
            · by_cases he1 : q = ep
              · have hrk : ¬ q / 8 = 5 - 3 * c := fun h => he ⟨he1, h⟩
                subst he1
                have hrk2 : (q / 8 == 5 - 3 * c) = false := by simpa using hrk
                have hfalse : takeOk p c q = false := hids.out.2.1.trans (by simp [hrk])
                have hrs := show Shut _ from hfalse
                clear hrk he hfalse
                go_wp2_with fail
                go_quiet (first | (go_at_call 14; refine quiet' (hi_side _ _ (by omega))) | (go_at_call 25; refine quiet' (po_rank _ _ (by omega) (by omega))))
                go_wp2
                go_roundw
                case rel =>
                  have R : ∃ k' : Nat, k' ≤ L.length ∧ Value.int .i64 ((k : Int) + 1) = .int .i64 (k' : Int) ∧ ownInts (wr.drewN nq) (w.heap.size + 1) u6 (fw ++ (L.take k').filter (takeOk p c)) ∧ Below w.heap.size w (wr.drewN nq) ∧ (wr.drewN nq).heap[w.heap.size]? = some (.cells (ints p) 24 (0, 0)) ∧ ∀ i, i < L.length → ∃ g, some (⟨g2, 0, none⟩ : Addr) = some ⟨g, 0, none⟩ ∧ g < (wr.drewN nq).heap.size ∧ (wr.drewN nq).cell? ⟨g, i, none⟩ = some (.int .i64 (L.getD i 0)) ∧ u6.ownBlock ≠ some g := by
                    refine ⟨k + 1, by omega, by go_num, ?_, hids.out.2.2.2.1.trans ((drewN_below wr nq).mono hsize), hids.out.2.2.2.2.1, hids.out.2.2.2.2.2⟩
                    rw [hids.out.1, hrs.out, if_neg (by decide), List.append_nil, hids.out.2.2.1]
                    exact hown
                  first | exact R | ((repeat apply Exists.intro); exact ⟨R, rfl⟩)
                case measure => simp [intOf]; omega
              · have hrk2 : (q == ep) = false := by simpa using he1
                have hfalse : takeOk p c q = false := hids.out.2.1.trans (by simp [he1])
                have hrs := show Shut _ from hfalse
                clear he he1 hfalse
                go_wp2_with fail
                go_quiet (first | (go_at_call 14; refine quiet' (hi_side _ _ (by omega))) | (go_at_call 25; refine quiet' (po_rank _ _ (by omega) (by omega))))
                go_wp2
                go_roundw
                case rel =>
                  have R : ∃ k' : Nat, k' ≤ L.length ∧ Value.int .i64 ((k : Int) + 1) = .int .i64 (k' : Int) ∧ ownInts (wr.drewN nq) (w.heap.size + 1) u6 (fw ++ (L.take k').filter (takeOk p c)) ∧ Below w.heap.size w (wr.drewN nq) ∧ (wr.drewN nq).heap[w.heap.size]? = some (.cells (ints p) 24 (0, 0)) ∧ ∀ i, i < L.length → ∃ g, some (⟨g2, 0, none⟩ : Addr) = some ⟨g, 0, none⟩ ∧ g < (wr.drewN nq).heap.size ∧ (wr.drewN nq).cell? ⟨g, i, none⟩ = some (.int .i64 (L.getD i 0)) ∧ u6.ownBlock ≠ some g := by
                    refine ⟨k + 1, by omega, by go_num, ?_, hids.out.2.2.2.1.trans ((drewN_below wr nq).mono hsize), hids.out.2.2.2.2.1, hids.out.2.2.2.2.2⟩
                    rw [hids.out.1, hrs.out, if_neg (by decide), List.append_nil, hids.out.2.2.1]
                    exact hown
                  first | exact R | ((repeat apply Exists.intro); exact ⟨R, rfl⟩)
                case measure => simp [intOf]; omega
          · have hy1 : (y == 0) = false := by simpa using hy
            have hy2 : (y != 0) = true := by simpa using hy
            by_cases hs : sideOf y = c
            · have hs2 : (sideOf y != c) = false := by simpa using hs
              have hfalse : takeOk p c q = false := hids.out.2.1.trans (by simp [hy, hs])
              have hrs := show Shut _ from hfalse
              clear hs hy hfalse
              go_wp2_with fail
              go_quiet (first | (go_at_call 14; refine quiet' (hi_side _ _ (by omega))) | (go_at_call 25; refine quiet' (po_rank _ _ (by omega) (by omega))))
              go_wp2
              go_roundw
              case rel =>
                have R : ∃ k' : Nat, k' ≤ L.length ∧ Value.int .i64 ((k : Int) + 1) = .int .i64 (k' : Int) ∧ ownInts (wr.drewN nq) (w.heap.size + 1) u6 (fw ++ (L.take k').filter (takeOk p c)) ∧ Below w.heap.size w (wr.drewN nq) ∧ (wr.drewN nq).heap[w.heap.size]? = some (.cells (ints p) 24 (0, 0)) ∧ ∀ i, i < L.length → ∃ g, some (⟨g2, 0, none⟩ : Addr) = some ⟨g, 0, none⟩ ∧ g < (wr.drewN nq).heap.size ∧ (wr.drewN nq).cell? ⟨g, i, none⟩ = some (.int .i64 (L.getD i 0)) ∧ u6.ownBlock ≠ some g := by
                  refine ⟨k + 1, by omega, by go_num, ?_, hids.out.2.2.2.1.trans ((drewN_below wr nq).mono hsize), hids.out.2.2.2.2.1, hids.out.2.2.2.2.2⟩
                  rw [hids.out.1, hrs.out, if_neg (by decide), List.append_nil, hids.out.2.2.1]
                  exact hown
                first | exact R | ((repeat apply Exists.intro); exact ⟨R, rfl⟩)
              case measure => simp [intOf]; omega
            · have hs2 : (sideOf y != c) = true := by simpa using hs
              have htrue : takeOk p c q = true := hids.out.2.1.trans (by simp [hy, hs])
              have hrs := show Shut _ from htrue
              clear hs hy htrue
              go_wp2_with fail
              go_quiet (first | (go_at_call 14; refine quiet' (hi_side _ _ (by omega))) | (go_at_call 25; refine quiet' (po_rank _ _ (by omega) (by omega))))
              have hownq : ownInts (wr.drewN nq) (w.heap.size + 1) u6 xs := hown
              have hckq : (wr.drewN nq).cell? ⟨g2, k, none⟩ = some (.int .i64 q) := hck
              have hszq : w.heap.size + 1 ≤ (wr.drewN nq).heap.size := hsz1
              have hBq := hids.out.2.2.2.1.trans ((drewN_below wr nq).mono hsize)
              have hrq : (wr.drewN nq).heap[w.heap.size]? = some (.cells (ints p) 24 (0, 0)) := hids.out.2.2.2.2.1
              have hkq : ∀ i, i < L.length → ∃ g, some (⟨g2, 0, none⟩ : Addr) = some ⟨g, 0, none⟩ ∧ g < (wr.drewN nq).heap.size ∧ (wr.drewN nq).cell? ⟨g, i, none⟩ = some (.int .i64 (L.getD i 0)) ∧ u6.ownBlock ≠ some g := hids.out.2.2.2.2.2
              have hkqS := show Shut _ from And.intro hBq (And.intro hrq hkq)
              clear hck hcq hce hown hBq hrq hkq
              generalize wr.drewN nq = wq at *
              go_wp2_with (with_reducible refine at_appendk (esz := 1) [.int .i64 q] rfl Tryd.underlying27 hi hz0 hz1 hz2 rfl (by decide) (by decide) ?_ (w.heap.size + 1) _ _ _ hownq ?_ hszq ?_ ?_ ?_)
              · intro u hu; simp at hu; subst hu; rfl
              · omega
              · rfl
              · rfl
              intro v' w' hown' hbel' hkeep' hap' hsz'
              obtain ⟨hBq, hrq, hkq⟩ := hkqS.out
              have R : ∃ k' : Nat, k' ≤ L.length ∧ Value.int .i64 ((k : Int) + 1) = .int .i64 (k' : Int) ∧ ownInts w' (w.heap.size + 1) v' (fw ++ (L.take k').filter (takeOk p c)) ∧ Below w.heap.size w w' ∧ w'.heap[w.heap.size]? = some (.cells (ints p) 24 (0, 0)) ∧ ∀ i, i < L.length → ∃ g, some (⟨g2, 0, none⟩ : Addr) = some ⟨g, 0, none⟩ ∧ g < w'.heap.size ∧ w'.cell? ⟨g, i, none⟩ = some (.int .i64 (L.getD i 0)) ∧ v'.ownBlock ≠ some g := by
                refine ⟨k + 1, by omega, by go_num, ?_, hBq.trans (hbel'.mono (by omega)), (hbel'.block _ (by omega)).trans hrq, fun i hi => ?_⟩
                · rw [hids.out.1, hrs.out, if_pos rfl, ← List.append_assoc, hids.out.2.2.1]
                  unfold ownInts
                  rw [List.length_append, List.map_append]
                  exact hown'
                · obtain ⟨g, h1, h2, h3, h4⟩ := hkq i hi
                  exact ⟨g, h1, by omega, (World.cell?_of_block (a := ⟨g, i, none⟩) (hkeep' g h2 h4)).trans h3, hap' g h2 h4⟩
              have RS := show Shut _ from R
              clear R hBq hrq hkq
              go_wp2_with fail
              go_roundw
              case rel =>
                have R := RS.out
                first | exact R | ((repeat apply Exists.intro); exact ⟨R, rfl⟩)
              case measure => simp [intOf]; omega
        · obtain rfl : k = L.length := by omega
          clear hkp
          go_wp2_with fail
          go_ret
          have hfin := hown
          rw [List.take_length] at hfin
          exact ⟨_, rfl, by rw [hTs.out]; exact own_mono hfin (by omega), hB⟩
    · clear hA
      go_wp2_with (first
        | (go_at_call 41; refine (hfs.out.2.2.1 _).mono ?_; rintro e1 w1 ⟨rfl, rfl⟩)
        | (go_at_call 32; refine (po_file _ _ (by omega) (by omega)).mono ?_; rintro e1 w1 ⟨rfl, rfl⟩)
        | (go_at_call 25; refine (po_rank _ _ (by omega) (by omega)).mono ?_; rintro e1 w1 ⟨rfl, rfl⟩)
        | (go_at_call 33; refine (hi_up _ _ (by omega) (by omega)).mono ?_; rintro e1 w1 ⟨rfl, rfl⟩))
      have hfeq := hAs.out.2
      have hownW : ownInts W0 (w.heap.size + 1) (Value.slice none 0 0) fw := by rw [hfeq]; exact World.ownsRow_nil _ _ _ _
      have hBw := hBW
      have hsw := hBw.size
      refine (ht_hits s c s0 s1 c0 c1 W0).mono ?_
      rintro e2 w2 ⟨v2, rfl, hown2, hb2⟩
      obtain ⟨a2, cap2, rfl, hcells⟩ := ints_slice hown2
      have hownX := hownW.below hb2
      have hlt1 : ∀ g, ((Value.slice none 0 0)).ownBlock = some g → g < (W0).heap.size := fun g hg => (hownW.lt g hg).2
      have hB2 := hBw.trans (hb2.mono (by omega))
      have hrow2 := (hb2.block w.heap.size (by have := hszW; omega)).trans hrowW
      have hrng := hitL_range s c
      have hlen := hitTo_le s c 2
      have hfle : fw.length ≤ 2 := by have := fwd_le p s c; rw [hflS.out] at this; exact this
      change (hitL s c).length ≤ 2 at hlen
      have hkeep : ∀ i, i < (hitL s c).length → ∃ g, a2 = some ⟨g, 0, none⟩ ∧ g < w2.heap.size ∧ w2.cell? ⟨g, i, none⟩ = some (.int .i64 ((hitL s c).getD i 0)) ∧ ((Value.slice none 0 0)).ownBlock ≠ some g := fun i hi => by
        obtain ⟨g, h1, h2, h3, h4⟩ := hcells i hi
        exact ⟨g, h1, h3, h4, fun e => by have := hlt1 g e; omega⟩
      generalize hitL s c = L at *
      clear hownW hBw hown2 hb2 hrowW hcells hlt1
      go_wp2_with fail
      go_loopw [6, 10] (fun l i wr => ∃ k : Nat, k ≤ L.length ∧ i = .int .i64 (k : Int) ∧ ownInts wr (w.heap.size + 1) l (fw ++ (L.take k).filter (takeOk p c)) ∧ Below w.heap.size w wr ∧ wr.heap[w.heap.size]? = some (.cells (ints p) 24 (0, 0)) ∧ ∀ i, i < L.length → ∃ g, a2 = some ⟨g, 0, none⟩ ∧ g < wr.heap.size ∧ wr.cell? ⟨g, i, none⟩ = some (.int .i64 (L.getD i 0)) ∧ l.ownBlock ≠ some g) (fun _ i _ => L.length - (intOf i).toNat)
      case atStart => exact ⟨0, by omega, rfl, by simpa using hownX, hB2, hrow2, hkeep⟩
      case round =>
        clear hownX hB2 hrow2 hkeep
        obtain ⟨k, hk, rfl, hown, hB, hrr, hkp⟩ := hrel
        by_cases hlt : k < L.length
        · obtain ⟨g2, rfl, hg2, hck, hng⟩ := hkp k hlt
          have hst := take_filter (takeOk p c) L k hlt
          obtain ⟨q0, q1⟩ := hrng (L.getD k 0) (by simp [hlt])
          have hlf : (fw ++ (L.take k).filter (takeOk p c)).length ≤ 4 := by
            have h1 := List.length_filter_le (takeOk p c) (L.take k)
            have h2 : (L.take k).length ≤ k := List.length_take_le _ _
            rw [List.length_append]
            omega
          generalize hq : L.getD k 0 = q at *
          generalize hxs : fw ++ (L.take k).filter (takeOk p c) = xs at *
          have hcq : wr.cell? ⟨w.heap.size, q.toNat, none⟩ = some (.int .i64 (pcAt p q)) := row_cell hrr q.toNat (by rw [hp.len]; omega)
          have hce : wr.cell? ⟨w.heap.size, 66, none⟩ = some (.int .i64 (p.getD 66 0)) := row_cell hrr 66 (by rw [hp.len]; omega)
          have htk : takeOk p c q = ((decide (pcAt p q ≠ 0) && decide (sideOf (pcAt p q) ≠ c)) || (decide (pcAt p q = 0) && (decide (q = p.getD 66 0) && decide (q / 8 = 5 - 3 * c)))) := rfl
          obtain ⟨y0, y1⟩ := hcs.out.2 q q0 q1
          obtain ⟨e0, e1⟩ := hep
          have hsd : 0 ≤ sideOf (pcAt p q) ∧ sideOf (pcAt p q) ≤ 1 := by unfold sideOf; split <;> omega
          obtain ⟨d0, d1⟩ := hsd
          generalize pcAt p q = y at *
          generalize p.getD 66 0 = ep at *
          have hsize := hB.size
          have hsz1 : w.heap.size + 1 ≤ wr.heap.size := by have := (Array.getElem?_eq_some_iff.1 hrr).1; omega
          have hids := show Shut _ from And.intro hst (And.intro htk (And.intro hxs (And.intro hB (And.intro hrr hkp))))
          clear hst htk hxs hB hq hrr hkp hrng
          by_cases hy : y = 0
          · subst hy
            clear y0 y1 d0 d1
            by_cases he : q = ep ∧ q / 8 = 5 - 3 * c
            · obtain ⟨rfl, hrk⟩ := he
              have hrk2 : (q / 8 == 5 - 3 * c) = true := by simpa using hrk
              have htrue : takeOk p c q = true := hids.out.2.1.trans (by simp [hrk])
              have hrs := show Shut _ from htrue
              clear hrk htrue
              go_wp2_with fail
              go_quiet (first | (go_at_call 14; refine quiet' (hi_side _ _ (by omega))) | (go_at_call 25; refine quiet' (po_rank _ _ (by omega) (by omega))))
              have hownq : ownInts (wr.drewN nq) (w.heap.size + 1) u6 xs := hown
              have hckq : (wr.drewN nq).cell? ⟨g2, k, none⟩ = some (.int .i64 q) := hck
              have hszq : w.heap.size + 1 ≤ (wr.drewN nq).heap.size := hsz1
              have hBq := hids.out.2.2.2.1.trans ((drewN_below wr nq).mono hsize)
              have hrq : (wr.drewN nq).heap[w.heap.size]? = some (.cells (ints p) 24 (0, 0)) := hids.out.2.2.2.2.1
              have hkq : ∀ i, i < L.length → ∃ g, some (⟨g2, 0, none⟩ : Addr) = some ⟨g, 0, none⟩ ∧ g < (wr.drewN nq).heap.size ∧ (wr.drewN nq).cell? ⟨g, i, none⟩ = some (.int .i64 (L.getD i 0)) ∧ u6.ownBlock ≠ some g := hids.out.2.2.2.2.2
              have hkqS := show Shut _ from And.intro hBq (And.intro hrq hkq)
              clear hck hcq hce hown hBq hrq hkq
              generalize wr.drewN nq = wq at *
              go_wp2_with (with_reducible refine at_appendk (esz := 1) [.int .i64 q] rfl Tryd.underlying27 hi hz0 hz1 hz2 rfl (by decide) (by decide) ?_ (w.heap.size + 1) _ _ _ hownq ?_ hszq ?_ ?_ ?_)
              · intro u hu; simp at hu; subst hu; rfl
              · omega
              · rfl
              · rfl
              intro v' w' hown' hbel' hkeep' hap' hsz'
              obtain ⟨hBq, hrq, hkq⟩ := hkqS.out
              have R : ∃ k' : Nat, k' ≤ L.length ∧ Value.int .i64 ((k : Int) + 1) = .int .i64 (k' : Int) ∧ ownInts w' (w.heap.size + 1) v' (fw ++ (L.take k').filter (takeOk p c)) ∧ Below w.heap.size w w' ∧ w'.heap[w.heap.size]? = some (.cells (ints p) 24 (0, 0)) ∧ ∀ i, i < L.length → ∃ g, some (⟨g2, 0, none⟩ : Addr) = some ⟨g, 0, none⟩ ∧ g < w'.heap.size ∧ w'.cell? ⟨g, i, none⟩ = some (.int .i64 (L.getD i 0)) ∧ v'.ownBlock ≠ some g := by
                refine ⟨k + 1, by omega, by go_num, ?_, hBq.trans (hbel'.mono (by omega)), (hbel'.block _ (by omega)).trans hrq, fun i hi => ?_⟩
                · rw [hids.out.1, hrs.out, if_pos rfl, ← List.append_assoc, hids.out.2.2.1]
                  unfold ownInts
                  rw [List.length_append, List.map_append]
                  exact hown'
                · obtain ⟨g, h1, h2, h3, h4⟩ := hkq i hi
                  exact ⟨g, h1, by omega, (World.cell?_of_block (a := ⟨g, i, none⟩) (hkeep' g h2 h4)).trans h3, hap' g h2 h4⟩
              have RS := show Shut _ from R
              clear R hBq hrq hkq
              go_wp2_with fail
              go_roundw
              case rel =>
                have R := RS.out
                first | exact R | ((repeat apply Exists.intro); exact ⟨R, rfl⟩)
              case measure => simp [intOf]; omega
            · by_cases he1 : q = ep
              · have hrk : ¬ q / 8 = 5 - 3 * c := fun h => he ⟨he1, h⟩
                subst he1
                have hrk2 : (q / 8 == 5 - 3 * c) = false := by simpa using hrk
                have hfalse : takeOk p c q = false := hids.out.2.1.trans (by simp [hrk])
                have hrs := show Shut _ from hfalse
                clear hrk he hfalse
                go_wp2_with fail
                go_quiet (first | (go_at_call 14; refine quiet' (hi_side _ _ (by omega))) | (go_at_call 25; refine quiet' (po_rank _ _ (by omega) (by omega))))
                go_wp2
                go_roundw
                case rel =>
                  have R : ∃ k' : Nat, k' ≤ L.length ∧ Value.int .i64 ((k : Int) + 1) = .int .i64 (k' : Int) ∧ ownInts (wr.drewN nq) (w.heap.size + 1) u6 (fw ++ (L.take k').filter (takeOk p c)) ∧ Below w.heap.size w (wr.drewN nq) ∧ (wr.drewN nq).heap[w.heap.size]? = some (.cells (ints p) 24 (0, 0)) ∧ ∀ i, i < L.length → ∃ g, some (⟨g2, 0, none⟩ : Addr) = some ⟨g, 0, none⟩ ∧ g < (wr.drewN nq).heap.size ∧ (wr.drewN nq).cell? ⟨g, i, none⟩ = some (.int .i64 (L.getD i 0)) ∧ u6.ownBlock ≠ some g := by
                    refine ⟨k + 1, by omega, by go_num, ?_, hids.out.2.2.2.1.trans ((drewN_below wr nq).mono hsize), hids.out.2.2.2.2.1, hids.out.2.2.2.2.2⟩
                    rw [hids.out.1, hrs.out, if_neg (by decide), List.append_nil, hids.out.2.2.1]
                    exact hown
                  first | exact R | ((repeat apply Exists.intro); exact ⟨R, rfl⟩)
                case measure => simp [intOf]; omega
              · have hrk2 : (q == ep) = false := by simpa using he1
                have hfalse : takeOk p c q = false := hids.out.2.1.trans (by simp [he1])
                have hrs := show Shut _ from hfalse
                clear he he1 hfalse
                go_wp2_with fail
                go_quiet (first | (go_at_call 14; refine quiet' (hi_side _ _ (by omega))) | (go_at_call 25; refine quiet' (po_rank _ _ (by omega) (by omega))))
                go_wp2
                go_roundw
                case rel =>
                  have R : ∃ k' : Nat, k' ≤ L.length ∧ Value.int .i64 ((k : Int) + 1) = .int .i64 (k' : Int) ∧ ownInts (wr.drewN nq) (w.heap.size + 1) u6 (fw ++ (L.take k').filter (takeOk p c)) ∧ Below w.heap.size w (wr.drewN nq) ∧ (wr.drewN nq).heap[w.heap.size]? = some (.cells (ints p) 24 (0, 0)) ∧ ∀ i, i < L.length → ∃ g, some (⟨g2, 0, none⟩ : Addr) = some ⟨g, 0, none⟩ ∧ g < (wr.drewN nq).heap.size ∧ (wr.drewN nq).cell? ⟨g, i, none⟩ = some (.int .i64 (L.getD i 0)) ∧ u6.ownBlock ≠ some g := by
                    refine ⟨k + 1, by omega, by go_num, ?_, hids.out.2.2.2.1.trans ((drewN_below wr nq).mono hsize), hids.out.2.2.2.2.1, hids.out.2.2.2.2.2⟩
                    rw [hids.out.1, hrs.out, if_neg (by decide), List.append_nil, hids.out.2.2.1]
                    exact hown
                  first | exact R | ((repeat apply Exists.intro); exact ⟨R, rfl⟩)
                case measure => simp [intOf]; omega
          · have hy1 : (y == 0) = false := by simpa using hy
            have hy2 : (y != 0) = true := by simpa using hy
            by_cases hs : sideOf y = c
            · have hs2 : (sideOf y != c) = false := by simpa using hs
              have hfalse : takeOk p c q = false := hids.out.2.1.trans (by simp [hy, hs])
              have hrs := show Shut _ from hfalse
              clear hs hy hfalse
              go_wp2_with fail
              go_quiet (first | (go_at_call 14; refine quiet' (hi_side _ _ (by omega))) | (go_at_call 25; refine quiet' (po_rank _ _ (by omega) (by omega))))
              go_wp2
              go_roundw
              case rel =>
                have R : ∃ k' : Nat, k' ≤ L.length ∧ Value.int .i64 ((k : Int) + 1) = .int .i64 (k' : Int) ∧ ownInts (wr.drewN nq) (w.heap.size + 1) u6 (fw ++ (L.take k').filter (takeOk p c)) ∧ Below w.heap.size w (wr.drewN nq) ∧ (wr.drewN nq).heap[w.heap.size]? = some (.cells (ints p) 24 (0, 0)) ∧ ∀ i, i < L.length → ∃ g, some (⟨g2, 0, none⟩ : Addr) = some ⟨g, 0, none⟩ ∧ g < (wr.drewN nq).heap.size ∧ (wr.drewN nq).cell? ⟨g, i, none⟩ = some (.int .i64 (L.getD i 0)) ∧ u6.ownBlock ≠ some g := by
                  refine ⟨k + 1, by omega, by go_num, ?_, hids.out.2.2.2.1.trans ((drewN_below wr nq).mono hsize), hids.out.2.2.2.2.1, hids.out.2.2.2.2.2⟩
                  rw [hids.out.1, hrs.out, if_neg (by decide), List.append_nil, hids.out.2.2.1]
                  exact hown
                first | exact R | ((repeat apply Exists.intro); exact ⟨R, rfl⟩)
              case measure => simp [intOf]; omega
            · have hs2 : (sideOf y != c) = true := by simpa using hs
              have htrue : takeOk p c q = true := hids.out.2.1.trans (by simp [hy, hs])
              have hrs := show Shut _ from htrue
              clear hs hy htrue
              go_wp2_with fail
              go_quiet (first | (go_at_call 14; refine quiet' (hi_side _ _ (by omega))) | (go_at_call 25; refine quiet' (po_rank _ _ (by omega) (by omega))))
              have hownq : ownInts (wr.drewN nq) (w.heap.size + 1) u6 xs := hown
              have hckq : (wr.drewN nq).cell? ⟨g2, k, none⟩ = some (.int .i64 q) := hck
              have hszq : w.heap.size + 1 ≤ (wr.drewN nq).heap.size := hsz1
              have hBq := hids.out.2.2.2.1.trans ((drewN_below wr nq).mono hsize)
              have hrq : (wr.drewN nq).heap[w.heap.size]? = some (.cells (ints p) 24 (0, 0)) := hids.out.2.2.2.2.1
              have hkq : ∀ i, i < L.length → ∃ g, some (⟨g2, 0, none⟩ : Addr) = some ⟨g, 0, none⟩ ∧ g < (wr.drewN nq).heap.size ∧ (wr.drewN nq).cell? ⟨g, i, none⟩ = some (.int .i64 (L.getD i 0)) ∧ u6.ownBlock ≠ some g := hids.out.2.2.2.2.2
              have hkqS := show Shut _ from And.intro hBq (And.intro hrq hkq)
              clear hck hcq hce hown hBq hrq hkq
              generalize wr.drewN nq = wq at *
              go_wp2_with (with_reducible refine at_appendk (esz := 1) [.int .i64 q] rfl Tryd.underlying27 hi hz0 hz1 hz2 rfl (by decide) (by decide) ?_ (w.heap.size + 1) _ _ _ hownq ?_ hszq ?_ ?_ ?_)
              · intro u hu; simp at hu; subst hu; rfl
              · omega
              · rfl
              · rfl
              intro v' w' hown' hbel' hkeep' hap' hsz'
              obtain ⟨hBq, hrq, hkq⟩ := hkqS.out
              have R : ∃ k' : Nat, k' ≤ L.length ∧ Value.int .i64 ((k : Int) + 1) = .int .i64 (k' : Int) ∧ ownInts w' (w.heap.size + 1) v' (fw ++ (L.take k').filter (takeOk p c)) ∧ Below w.heap.size w w' ∧ w'.heap[w.heap.size]? = some (.cells (ints p) 24 (0, 0)) ∧ ∀ i, i < L.length → ∃ g, some (⟨g2, 0, none⟩ : Addr) = some ⟨g, 0, none⟩ ∧ g < w'.heap.size ∧ w'.cell? ⟨g, i, none⟩ = some (.int .i64 (L.getD i 0)) ∧ v'.ownBlock ≠ some g := by
                refine ⟨k + 1, by omega, by go_num, ?_, hBq.trans (hbel'.mono (by omega)), (hbel'.block _ (by omega)).trans hrq, fun i hi => ?_⟩
                · rw [hids.out.1, hrs.out, if_pos rfl, ← List.append_assoc, hids.out.2.2.1]
                  unfold ownInts
                  rw [List.length_append, List.map_append]
                  exact hown'
                · obtain ⟨g, h1, h2, h3, h4⟩ := hkq i hi
                  exact ⟨g, h1, by omega, (World.cell?_of_block (a := ⟨g, i, none⟩) (hkeep' g h2 h4)).trans h3, hap' g h2 h4⟩
              have RS := show Shut _ from R
              clear R hBq hrq hkq
              go_wp2_with fail
              go_roundw
              case rel =>
                have R := RS.out
                first | exact R | ((repeat apply Exists.intro); exact ⟨R, rfl⟩)
              case measure => simp [intOf]; omega
        · obtain rfl : k = L.length := by omega
          clear hkp
          go_wp2_with fail
          go_ret
          have hfin := hown
          rw [List.take_length] at hfin
          exact ⟨_, rfl, by rw [hTs.out]; exact own_mono hfin (by omega), hB⟩
end Go.Proofs.YtplkcmlpomjojaaDoor
