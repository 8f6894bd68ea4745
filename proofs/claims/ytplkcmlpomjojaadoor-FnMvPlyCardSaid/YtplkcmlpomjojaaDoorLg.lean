/- spec.Legal: the legal moves, in some order. For every position of pieces from 0 to 12 with a king of the side to move. (Printed by gen_lg.py.) -/
import Derived.Test.YtplkcmlpomjojaaDoorMf
namespace Go.Proofs.YtplkcmlpomjojaaDoor
open Go Go.RowKit
set_option maxHeartbeats 8000000
set_option linter.unusedSimpArgs false
set_option linter.unusedVariables false
set_option maxRecDepth 100000

/-- Where the king of the side to move stands behind a move. -/
def kingBy (p : List Int) (m : Mv) : Int := if m.fr = kingAt p (p.getD 64 0) then m.to else kingAt p (p.getD 64 0)
/-- Whether a move leaves the own king out of check. -/
def keepM (p : List Int) (m : Mv) : Bool := !attackedB (madeB p m) (kingBy p m) (1 - p.getD 64 0)
/-- The legal moves. -/
def legalL (p : List Int) : List Mv := (pseudoL p).filter (keepM p)
theorem mvs_slice {w : World} {base : Nat} {v : Value} {l : List Mv} (h : ownMvs w base v l) : ∃ a c, v = .slice a l.length c ∧ (0 < l.length → ∃ g, a = some ⟨g, 0, none⟩) := by
  obtain ⟨hn, ⟨rfl, h0⟩ | ⟨g, cap, cur, rfl, hge, hg, _⟩⟩ := h
  · exact ⟨none, 0, by rw [h0], fun hi => by omega⟩
  · exact ⟨_, _, rfl, fun _ => ⟨g, rfl⟩⟩
theorem take_filterM (f : Mv → Bool) (l : List Mv) (k : Nat) (h : k < l.length) : (l.take (k + 1)).filter f = (l.take k).filter f ++ (if f (l.getD k ⟨0, 0, 0⟩) then [l.getD k ⟨0, 0, 0⟩] else []) := by
  rw [List.take_succ_eq_append_getElem h, List.filter_append]
  have e : l.getD k ⟨0, 0, 0⟩ = l[k] := by simp [h]
  rw [e]
  by_cases c : f l[k] <;> simp [c]
theorem own_block {w w' : World} {base : Nat} {v : Value} {l : List Mv} (h : ownMvs w base v l) (hb : ∀ q, v.ownBlock = some q → w'.heap[q]? = w.heap[q]?) : ownMvs w' base v l := by
  obtain ⟨h1, h2 | ⟨g, cap, cur, rfl, b, c, d⟩⟩ := h
  · exact ⟨h1, Or.inl h2⟩
  · exact ⟨h1, Or.inr ⟨g, cap, cur, rfl, b, (hb g rfl).trans c, d⟩⟩
theorem lg_legal (p : List Int) (hp : Pos p) (tn : Nat) (hT : p.getD 64 0 = (tn : Int)) (ht : tn ≤ 1) (hc0 : 0 ≤ p.getD 65 0) (hc1 : p.getD 65 0 ≤ 15) (hep : -1 ≤ p.getD 66 0 ∧ p.getD 66 0 ≤ 63) (hh0 : 0 ≤ p.getD 67 0) (hh1 : p.getD 67 0 ≤ 1000000) (hf0 : 0 ≤ p.getD 68 0) (hf1 : p.getD 68 0 ≤ 1000000) (hkg : 0 ≤ kingAt p (p.getD 64 0)) (w : World) :
    Calls Tryd.prog 13 #[.agg (ints p)] w fun e w' => ∃ v l', e = .returned v ∧ l'.Perm (legalL p) ∧ ownMvs w' w.heap.size v l' ∧ Below w.heap.size w w' := by
  obtain ⟨i0, hi, hz0, hz1, hz2⟩ := info_parts mv_info
  have hlp := hp.len
  have hrow : PosAt p w.heap.size (w.alloc (.cells (ints p) 24)) := heap_alloc_new w (.cells (ints p) 24)
  have hBW : Below w.heap.size w (w.alloc (.cells (ints p) 24)) := (Below.refl _ _).alloc (Nat.le_refl _) _
  have ht0 : 0 ≤ p.getD 64 0 := by omega
  have ht1 : p.getD 64 0 ≤ 1 := by omega
  have h64 := show Shut (∀ W : World, PosAt p w.heap.size W → W.cell? ⟨w.heap.size, 64, none⟩ = some (.int .i64 (tn : Int))) from fun W h => (h.cell 64 (by omega)).trans (by rw [hT])
  have hPs := show Shut (∀ W : World, Calls Tryd.prog 30 #[.agg (ints p)] W fun e w' => ∃ v l', e = .returned v ∧ l'.Perm (pseudoL p) ∧ ownMvs w' W.heap.size v l' ∧ Below W.heap.size W w') from fun W => ps_pseudo p hp tn hT ht hc0 hc1 hep W
  have hKg := show Shut (∀ W : World, Calls Tryd.prog 29 #[.agg (ints p), .int .i64 (tn : Int)] W fun e w' => e = .returned (.int .i64 (kingAt p (tn : Int))) ∧ Below W.heap.size W w') from fun W => br_kingAt p hlp (tn : Int) (by omega) (by omega) W
  have hMd := show Shut (∀ m, MvOk m → ∀ W : World, Calls Tryd.prog 31 #[.agg (ints p), .agg (ints (mvL m))] W fun e w' => e = .returned (.agg (ints (madeB p m))) ∧ Below W.heap.size W w') from fun m hm W => me_made p hp m hm ht0 ht1 hc0 hc1 hh0 hh1 hf0 hf1 (mdF_far p m hm 67 (by omega)) (mdH_far p m hm) W
  have hAt := show Shut (∀ m, MvOk m → ∀ s c : Int, 0 ≤ s → s ≤ 63 → ∀ W : World, Calls Tryd.prog 7 #[.agg (ints (madeB p m)), .int .i64 s, .int .i64 c] W fun e w' => e = .returned (.bool (attackedB (madeB p m) s c)) ∧ Below W.heap.size W w') from fun m hm s c h0 h1 W => at_attacked (madeB p m) (madeB_pos p hp m hm ht0 ht1) s c h0 h1 W
  have hKp := show Shut (∀ m, keepM p m = !attackedB (madeB p m) (if m.fr = kingAt p (tn : Int) then m.to else kingAt p (tn : Int)) (1 - (tn : Int))) from fun m => by unfold keepM kingBy; rw [hT]
  have hkr := kingAt_range p (tn : Int)
  rw [hT] at hkg
  have hok := show Shut (∀ l' : List Mv, l'.Perm (pseudoL p) → ∀ m ∈ l', MvOk m) from fun l' h m hm => pseudoL_ok p ht0 ht1 m (h.subset hm)
  have hlen0 : (pseudoL p).length ≤ 15000 := by
    have h1 := pseudoTo_le p 64
    have h2 : (castL p).length ≤ 2 := castTo_le p _ 2
    have h3 : (pseudoL p).length = (pseudoTo p 64).length + (castL p).length := by rw [pseudoL, List.length_append]
    rw [h3]
    omega
  have hlen := show Shut _ from hlen0
  clear hlen0
  clear hT ht0 ht1
  generalize hkd : kingAt p (tn : Int) = kg at *
  have hkds := show Shut _ from hkd
  clear hkd
  go_enter Tryd.func13, Tryd.ntmps13
  go_upto_region 1 with (fail)
  generalize w.alloc (.cells (ints p) 24) = W at *
  have hu : W.heap[w.heap.size]? = some (.cells (ints p) 24 (0, 0)) := hrow
  go_wp2_with (first
    | ((with_reducible refine at_load_row hu Tryd.underlying24 rfl ?_ ?_ ?_); (rw [ints_size, hlp]; kernel_rfl); rfl))
  refine (hPs.out _).mono ?_
  rintro e1 w1 ⟨v1, l1, rfl, hperm, hown1, hb1⟩
  have hrow1 := hrow.below hb1
  have hu1 : w1.heap[w.heap.size]? = some (.cells (ints p) 24 (0, 0)) := hrow1
  have ct1 := h64.out w1 hrow1
  have hB1 := hBW.trans (hb1.mono hBW.size)
  clear hb1 hu hrow hBW
  go_wp2_with (first
    | ((with_reducible refine at_load_row hu1 Tryd.underlying24 rfl ?_ ?_ ?_); (rw [ints_size, hlp]; kernel_rfl); rfl))
  refine (hKg.out _).mono ?_
  rintro e2 w2 ⟨rfl, hb2⟩
  have hrow2 := hrow1.below hb2
  have hownL := own_next hown1 hb2
  have hB2 := hB1.trans (hb2.mono hB1.size)
  have hlt2 := hrow2.lt
  have hoks := show Shut _ from hok.out l1 hperm
  have hl15 : l1.length ≤ 15000 := by rw [hperm.length_eq]; exact hlen.out
  have hpf := show Shut ((l1.filter (keepM p)).Perm (legalL p)) from hperm.filter _
  clear hb2 hu1 hrow1 hown1 ct1 hB1 hperm hok hlen
  obtain ⟨a1, c1, rfl, hform⟩ := mvs_slice hownL
  have hformS := show Shut _ from hform
  clear hform
  have hSt := show Shut _ from And.intro hrow2 (And.intro hownL hB2)
  clear hrow2 hownL hB2
  go_wp2_with fail
  go_loopw [3, 6] (fun o i wr => ∃ k : Nat, k ≤ l1.length ∧ i = .int .i64 (k : Int) ∧ PosAt p w.heap.size wr ∧ ownMvs wr W.heap.size (.slice a1 l1.length c1) l1 ∧ ownMvs wr w2.heap.size o ((l1.take k).filter (keepM p)) ∧ Below w.heap.size w wr ∧ w2.heap.size ≤ wr.heap.size) (fun _ i _ => l1.length - (intOf i).toNat)
  case atStart => exact ⟨0, by omega, rfl, hSt.out.1, hSt.out.2.1, World.ownsRow_nil _ _ _ _, hSt.out.2.2, Nat.le_refl _⟩
  case round =>
    obtain ⟨k, hk, rfl, hrow, hownL, hown, hB, hsw⟩ := hrel
    by_cases hlt : k < l1.length
    · obtain ⟨g, rfl⟩ := hformS.out (by omega)
      clear hformS
      have hlr := own_row hownL
      have hglt : g < w2.heap.size := (own_row hSt.out.2.1).lt
      have hst := take_filterM (keepM p) l1 k hlt
      have hlf : ((l1.take k).filter (keepM p)).length ≤ 15000 := by
        have h1 := List.length_filter_le (keepM p) (l1.take k)
        have h2 : (l1.take k).length ≤ k := List.length_take_le _ _
        omega
      have hmo := hoks.out (l1.getD k ⟨0, 0, 0⟩) (by simp [hlt])
      have cf : wr.cell? ⟨g, k * 3, none⟩ = some (.int .i64 (l1.getD k ⟨0, 0, 0⟩).fr) := by rw [Nat.mul_comm]; exact hlr.cell k 0 hlt (by omega)
      have co : wr.cell? ⟨g, k * 3 + 1, none⟩ = some (.int .i64 (l1.getD k ⟨0, 0, 0⟩).to) := by rw [Nat.mul_comm]; exact hlr.cell k 1 hlt (by omega)
      have cp : wr.cell? ⟨g, k * 3 + 2, none⟩ = some (.int .i64 (l1.getD k ⟨0, 0, 0⟩).pr) := by rw [Nat.mul_comm]; exact hlr.cell k 2 hlt (by omega)
      have hra := show Shut (∀ W' : World, ownMvs W' W.heap.size (.slice (some ⟨g, 0, none⟩) l1.length c1) l1 → W'.rangeAt g (k * 3) (mvC (l1.getD k ⟨0, 0, 0⟩))) from fun W' h => by have := (own_row h).range k hlt; rw [Nat.mul_comm] at this; exact this
      have hcs := show Shut (∀ W' : World, ownMvs W' W.heap.size (.slice (some ⟨g, 0, none⟩) l1.length c1) l1 → W'.cell? ⟨g, k * 3, none⟩ = some (.int .i64 (l1.getD k ⟨0, 0, 0⟩).fr) ∧ W'.cell? ⟨g, k * 3 + 1, none⟩ = some (.int .i64 (l1.getD k ⟨0, 0, 0⟩).to) ∧ W'.cell? ⟨g, k * 3 + 2, none⟩ = some (.int .i64 (l1.getD k ⟨0, 0, 0⟩).pr)) from fun W' h => by
        have hl := own_row h
        rw [Nat.mul_comm]
        exact ⟨hl.cell k 0 hlt (by omega), hl.cell k 1 hlt (by omega), hl.cell k 2 hlt (by omega)⟩
      generalize hmd : l1.getD k ⟨0, 0, 0⟩ = m at *
      generalize hxs : (l1.take k).filter (keepM p) = xs at *
      have hkp := hKp.out m
      have hid := show Shut _ from And.intro hst (And.intro hmo hkp)
      obtain ⟨f0, f1, t0, t1, -, -⟩ := hmo
      have hkb : (k : Int) < (l1.length : Int) := by omega
      have hk0 : (0 : Int) ≤ (k : Int) := by omega
      have hSr := show Shut _ from And.intro hrow (And.intro hownL (And.intro hown (And.intro hB hsw)))
      clear hst hkp hlr hmd hxs hrow hownL hown hB hsw
      by_cases hfk : m.fr = kg
      · have hfb : (m.fr == kg) = true := by simpa using hfk
        have hkv := hid.out.2.2
        rw [if_pos hfk] at hkv
        have hkvs := show Shut _ from hkv
        clear hfk hkv
        go_wp2_with fail
        have hnl : decide (m.to < 0) = false := decide_eq_false (by omega)
        have hwt : IntKind.i64.wrap (1 - (tn : Int)) = 1 - (tn : Int) := by rw [IntKind.wrap_i64]; omega
        refine wp_region_held_drew (S := fun w' : World => PosAt p w.heap.size w' ∧ ownMvs w' W.heap.size (.slice (some ⟨g, 0, none⟩) l1.length c1) l1 ∧ ownMvs w' w2.heap.size u3 xs ∧ Below w.heap.size w w' ∧ w2.heap.size ≤ w'.heap.size) (by kernel_rfl) ⟨hSr.out.1, hSr.out.2.1, hSr.out.2.2.1, hSr.out.2.2.2.1.drew, hSr.out.2.2.2.2⟩ (fun hHeld => ?_)
        clear cf co cp
        refine wpAnyH_take (i := 0) (v := ?vla_1_0) rfl (by kernel_rfl) (by kernel_rfl) (by kernel_rfl) (fun _ _ _ h => h) (Or.inl ⟨by rfl, ?yla_1_0⟩) hHeld ?rla_1_0
        case yla_1_0 => (intro wq hSw; clear hSw; go_simp; try with_reducible rfl)
        try simp only [List.getElem_toArray, List.getElem_cons_zero, List.getElem_cons_succ, Act.put, List.setIfInBounds_toArray, List.set_cons_zero, List.set_cons_succ]
        refine wpAnyH_take (i := 1) (v := ?vla_2_1) rfl (by kernel_rfl) (by kernel_rfl) (by kernel_rfl) (fun _ _ _ h => h) (Or.inl ⟨by rfl, ?yla_2_1⟩) hHeld ?rla_2_1
        case yla_2_1 => (intro wq hSw; clear hSw; go_simp; try with_reducible rfl)
        try simp only [List.getElem_toArray, List.getElem_cons_zero, List.getElem_cons_succ, Act.put, List.setIfInBounds_toArray, List.set_cons_zero, List.set_cons_succ]
        refine wpAnyH_take (i := 2) (v := ?vla_3_2) rfl (by kernel_rfl) (by kernel_rfl) (by kernel_rfl) (fun _ _ _ h => h) (Or.inl ⟨by rfl, ?yla_3_2⟩) hHeld ?rla_3_2
        case yla_3_2 => (intro wq hSw; clear hSw; go_simp; try with_reducible rfl)
        try simp only [List.getElem_toArray, List.getElem_cons_zero, List.getElem_cons_succ, Act.put, List.setIfInBounds_toArray, List.set_cons_zero, List.set_cons_succ]
        refine' wpAnyH_take (i := 3) (v := _) rfl (by kernel_rfl) (by kernel_rfl) (by kernel_rfl) (fun _ _ _ h => h) (yieldsIf_load_mid (by rfl) _ _ rfl _ _ rfl _ _ (fun _ h => h.1.range) Tryd.underlying24 rfl (pos_info p hlp)) hHeld ?_
        try simp only [List.getElem_toArray, List.getElem_cons_zero, List.getElem_cons_succ, Act.put, List.setIfInBounds_toArray, List.set_cons_zero, List.set_cons_succ]
        refine wpAnyH_take (i := 4) (v := ?vla_5_4) rfl (by kernel_rfl) (by kernel_rfl) (by kernel_rfl) (fun _ _ _ h => h) (Or.inl ⟨by rfl, ?yla_5_4⟩) hHeld ?rla_5_4
        case yla_5_4 => (intro wq hSw; clear hSw; go_simp; try with_reducible rfl)
        try simp only [List.getElem_toArray, List.getElem_cons_zero, List.getElem_cons_succ, Act.put, List.setIfInBounds_toArray, List.set_cons_zero, List.set_cons_succ]
        refine wpAnyH_take (i := 5) (v := ?vla_6_5) rfl (by kernel_rfl) (by kernel_rfl) (by kernel_rfl) (fun _ _ _ h => h) (Or.inl ⟨by rfl, ?yla_6_5⟩) hHeld ?rla_6_5
        case yla_6_5 => (intro wq hSw; clear hSw; go_simp; try with_reducible rfl)
        try simp only [List.getElem_toArray, List.getElem_cons_zero, List.getElem_cons_succ, Act.put, List.setIfInBounds_toArray, List.set_cons_zero, List.set_cons_succ]
        refine wpAnyH_take (i := 6) (v := ?vla_7_6) rfl (by kernel_rfl) (by kernel_rfl) (by kernel_rfl) (fun _ _ _ h => h) (Or.inl ⟨by rfl, ?yla_7_6⟩) hHeld ?rla_7_6
        case yla_7_6 => (intro wq hSw; clear hSw; go_simp; try with_reducible rfl)
        try simp only [List.getElem_toArray, List.getElem_cons_zero, List.getElem_cons_succ, Act.put, List.setIfInBounds_toArray, List.set_cons_zero, List.set_cons_succ]
        refine' wpAnyH_take (i := 7) (v := _) rfl (by kernel_rfl) (by kernel_rfl) (by kernel_rfl) (fun _ _ _ h => h) (yieldsIf_load_mid (by rfl) _ _ rfl _ _ rfl _ _ (fun _ h => hra.out _ h.2.1) Tryd.underlying52 rfl (by kernel_rfl)) hHeld ?_
        try simp only [List.getElem_toArray, List.getElem_cons_zero, List.getElem_cons_succ, Act.put, List.setIfInBounds_toArray, List.set_cons_zero, List.set_cons_succ]
        refine wpAnyH_take (i := 9) (v := ?vla_9_9) rfl (by kernel_rfl) (by kernel_rfl) (by kernel_rfl) (fun _ _ _ h => h) (Or.inl ⟨by rfl, ?yla_9_9⟩) hHeld ?rla_9_9
        case yla_9_9 => (intro wq hSw; clear hSw; go_simp; try with_reducible rfl)
        try simp only [List.getElem_toArray, List.getElem_cons_zero, List.getElem_cons_succ, Act.put, List.setIfInBounds_toArray, List.set_cons_zero, List.set_cons_succ]
        refine wpAnyH_take (i := 10) (v := ?vla_10_10) rfl (by kernel_rfl) (by kernel_rfl) (by kernel_rfl) (fun _ _ _ h => h) (Or.inl ⟨by rfl, ?yla_10_10⟩) hHeld ?rla_10_10
        case yla_10_10 => (intro wq hSw; clear hSw; go_simp; try with_reducible rfl)
        try simp only [List.getElem_toArray, List.getElem_cons_zero, List.getElem_cons_succ, Act.put, List.setIfInBounds_toArray, List.set_cons_zero, List.set_cons_succ]
        refine wpAnyH_take (i := 11) (v := ?vla_11_11) rfl (by kernel_rfl) (by kernel_rfl) (by kernel_rfl) (fun _ _ _ h => h) (Or.inl ⟨by rfl, ?yla_11_11⟩) hHeld ?rla_11_11
        case yla_11_11 => (intro wq hSw; have hq := h64.out _ hSw.1; clear hSw; go_simp; try with_reducible rfl)
        try simp only [List.getElem_toArray, List.getElem_cons_zero, List.getElem_cons_succ, Act.put, List.setIfInBounds_toArray, List.set_cons_zero, List.set_cons_succ]
        refine wpAnyH_take (i := 12) (v := ?vla_12_12) rfl (by kernel_rfl) (by kernel_rfl) (by kernel_rfl) (fun _ _ _ h => h) (Or.inl ⟨by rfl, ?yla_12_12⟩) hHeld ?rla_12_12
        case yla_12_12 => (intro wq hSw; clear hSw; go_simp; try with_reducible rfl)
        try simp only [List.getElem_toArray, List.getElem_cons_zero, List.getElem_cons_succ, Act.put, List.setIfInBounds_toArray, List.set_cons_zero, List.set_cons_succ]
        refine wpAnyH_ready (rs := [8]) (by kernel_rfl) (by simp) ?_
        refine AllReadyH.cons rfl (fun K hK => ?_) AllReadyH.nil
        try simp only [List.getElem_toArray, List.getElem_cons_zero, List.getElem_cons_succ, Act.put, List.setIfInBounds_toArray, List.set_cons_zero, List.set_cons_succ]
        try rw [if_pos (by rfl)]
        go_simp
        refine (hMd.out m hid.out.2.1 _).mono ?_
        rintro e3 w3 ⟨rfl, hb3⟩
        go_wp2_with fail
        refine hK.out _ _ (by have hs := hHeld.2.2.2.1.size; have hz := hb3.size; exact ⟨hHeld.1.below hb3, own_next hHeld.2.1 hb3, own_next hHeld.2.2.1 hb3, hHeld.2.2.2.1.trans (hb3.mono hs), by have := hHeld.2.2.2.2; omega⟩) (fun hHeld => ?_)
        clear hK K
        try simp only [List.getElem_toArray, List.getElem_cons_zero, List.getElem_cons_succ, Act.put, List.setIfInBounds_toArray, List.set_cons_zero, List.set_cons_succ]
        refine wpAnyH_ready (rs := [13]) (by kernel_rfl) (by simp) ?_
        refine AllReadyH.cons rfl (fun K hK => ?_) AllReadyH.nil
        try simp only [List.getElem_toArray, List.getElem_cons_zero, List.getElem_cons_succ, Act.put, List.setIfInBounds_toArray, List.set_cons_zero, List.set_cons_succ]
        try rw [if_pos (by rfl)]
        go_simp
        refine (hAt.out m hid.out.2.1 (m.to) (1 - (tn : Int)) t0 t1 _).mono ?_
        rintro e4 w4 ⟨rfl, hb4⟩
        go_wp2_with fail
        refine hK.out _ _ (by have hs := hHeld.2.2.2.1.size; have hz := hb4.size; exact ⟨hHeld.1.below hb4, own_next hHeld.2.1 hb4, own_next hHeld.2.2.1 hb4, hHeld.2.2.2.1.trans (hb4.mono hs), by have := hHeld.2.2.2.2; omega⟩) (fun hHeld => ?_)
        clear hK K
        try simp only [List.getElem_toArray, List.getElem_cons_zero, List.getElem_cons_succ, Act.put, List.setIfInBounds_toArray, List.set_cons_zero, List.set_cons_succ]
        refine wpAnyH_take (i := 14) (v := ?vla_13_14) rfl (by kernel_rfl) (by kernel_rfl) (by kernel_rfl) (fun _ _ _ h => h) (Or.inl ⟨by rfl, ?yla_13_14⟩) hHeld ?rla_13_14
        case yla_13_14 => (intro wq hSw; clear hSw; go_simp; try with_reducible rfl)
        try simp only [List.getElem_toArray, List.getElem_cons_zero, List.getElem_cons_succ, Act.put, List.setIfInBounds_toArray, List.set_cons_zero, List.set_cons_succ]
        refine wpAnyH_take (i := 15) (v := ?vla_14_15) rfl (by kernel_rfl) (by kernel_rfl) (by kernel_rfl) (fun _ _ _ h => h) (Or.inl ⟨by rfl, ?yla_14_15⟩) hHeld ?rla_14_15
        case yla_14_15 => (intro wq hSw; clear hSw; go_simp; try with_reducible rfl)
        try simp only [List.getElem_toArray, List.getElem_cons_zero, List.getElem_cons_succ, Act.put, List.setIfInBounds_toArray, List.set_cons_zero, List.set_cons_succ]
        refine wpAnyH_done (by kernel_rfl) ?_ _
        have hS4 := show Shut _ from hHeld
        clear hHeld
        generalize hatt : attackedB (madeB p m) (m.to) (1 - (tn : Int)) = at0 at *
        have hats := show Shut _ from hatt
        clear hatt
        cases at0 with
        | true =>
          have hKf : keepM p m = false := by rw [hkvs.out]; rfl
          have hKs := show Shut _ from hKf
          clear hKf
          go_wp2_with fail
          go_roundw
          case rel =>
            have R : ∃ k' : Nat, k' ≤ l1.length ∧ Value.int .i64 ((k : Int) + 1) = .int .i64 (k' : Int) ∧ PosAt p w.heap.size w4 ∧ ownMvs w4 W.heap.size (.slice (some ⟨g, 0, none⟩) l1.length c1) l1 ∧ ownMvs w4 w2.heap.size u3 ((l1.take k').filter (keepM p)) ∧ Below w.heap.size w w4 ∧ w2.heap.size ≤ w4.heap.size := ⟨k + 1, by omega, by go_num, hS4.out.1, hS4.out.2.1, by rw [hid.out.1, hKs.out, if_neg (by decide), List.append_nil]; exact hS4.out.2.2.1, hS4.out.2.2.2.1, hS4.out.2.2.2.2⟩
            first | exact R | ((repeat apply Exists.intro); exact ⟨R, rfl⟩)
          case measure => simp [intOf]; omega
        | false =>
          have hKf : keepM p m = true := by rw [hkvs.out]; rfl
          have hKs := show Shut _ from hKf
          clear hKf
          obtain ⟨cf, co, cp⟩ := hcs.out w4 hS4.out.2.1
          have hownA := hS4.out.2.2.1
          have hszA : w2.heap.size ≤ w4.heap.size := hS4.out.2.2.2.2
          go_wp2_with (with_reducible refine at_appendk (esz := 3) [.int .i64 m.fr, .int .i64 m.to, .int .i64 m.pr] rfl Tryd.underlying36 hi hz0 hz1 hz2 rfl (by decide) (by decide) ?_ w2.heap.size _ _ _ hownA ?_ hszA ?_ ?_ ?_)
          · intro u hu; simp at hu; rcases hu with rfl | rfl | rfl <;> rfl
          · omega
          · rfl
          · rfl
          intro v' w' hown' hbel' hkeep' hap' hsz'
          have hown2' : ownMvs w' W.heap.size (.slice (some ⟨g, 0, none⟩) l1.length c1) l1 := own_block hS4.out.2.1 (fun q hq => hbel'.block q (by simp [Value.ownBlock] at hq; omega))
          have R : ∃ k' : Nat, k' ≤ l1.length ∧ Value.int .i64 ((k : Int) + 1) = .int .i64 (k' : Int) ∧ PosAt p w.heap.size w' ∧ ownMvs w' W.heap.size (.slice (some ⟨g, 0, none⟩) l1.length c1) l1 ∧ ownMvs w' w2.heap.size v' ((l1.take k').filter (keepM p)) ∧ Below w.heap.size w w' ∧ w2.heap.size ≤ w'.heap.size := by
            refine ⟨k + 1, by omega, by go_num, (hbel'.block w.heap.size hlt2).trans hS4.out.1, hown2', ?_, hS4.out.2.2.2.1.trans (hbel'.mono (by omega)), by omega⟩
            rw [hid.out.1, hKs.out, if_pos rfl]
            unfold ownMvs mvsC
            rw [List.length_append, List.flatMap_append]
            exact hown'
          have RS := show Shut _ from R
          clear R hown' hbel' hkeep' hap' hownA cf co cp
          go_wp2_with fail
          go_roundw
          case rel =>
            have R := RS.out
            first | exact R | ((repeat apply Exists.intro); exact ⟨R, rfl⟩)
          case measure => simp [intOf]; omega
      · have hfb : (m.fr == kg) = false := by simpa using hfk
        have hkv := hid.out.2.2
        rw [if_neg hfk] at hkv
        have hkvs := show Shut _ from hkv
        clear hfk hkv
        go_wp2_with fail
        have hnl : decide (kg < 0) = false := decide_eq_false (by omega)
        have hwt : IntKind.i64.wrap (1 - (tn : Int)) = 1 - (tn : Int) := by rw [IntKind.wrap_i64]; omega
        refine wp_region_held_drew (S := fun w' : World => PosAt p w.heap.size w' ∧ ownMvs w' W.heap.size (.slice (some ⟨g, 0, none⟩) l1.length c1) l1 ∧ ownMvs w' w2.heap.size u3 xs ∧ Below w.heap.size w w' ∧ w2.heap.size ≤ w'.heap.size) (by kernel_rfl) ⟨hSr.out.1, hSr.out.2.1, hSr.out.2.2.1, hSr.out.2.2.2.1.drew, hSr.out.2.2.2.2⟩ (fun hHeld => ?_)
        clear cf co cp
        refine wpAnyH_take (i := 0) (v := ?vlb_1_0) rfl (by kernel_rfl) (by kernel_rfl) (by kernel_rfl) (fun _ _ _ h => h) (Or.inl ⟨by rfl, ?ylb_1_0⟩) hHeld ?rlb_1_0
        case ylb_1_0 => (intro wq hSw; clear hSw; go_simp; try with_reducible rfl)
        try simp only [List.getElem_toArray, List.getElem_cons_zero, List.getElem_cons_succ, Act.put, List.setIfInBounds_toArray, List.set_cons_zero, List.set_cons_succ]
        refine wpAnyH_take (i := 1) (v := ?vlb_2_1) rfl (by kernel_rfl) (by kernel_rfl) (by kernel_rfl) (fun _ _ _ h => h) (Or.inl ⟨by rfl, ?ylb_2_1⟩) hHeld ?rlb_2_1
        case ylb_2_1 => (intro wq hSw; clear hSw; go_simp; try with_reducible rfl)
        try simp only [List.getElem_toArray, List.getElem_cons_zero, List.getElem_cons_succ, Act.put, List.setIfInBounds_toArray, List.set_cons_zero, List.set_cons_succ]
        refine wpAnyH_take (i := 2) (v := ?vlb_3_2) rfl (by kernel_rfl) (by kernel_rfl) (by kernel_rfl) (fun _ _ _ h => h) (Or.inl ⟨by rfl, ?ylb_3_2⟩) hHeld ?rlb_3_2
        case ylb_3_2 => (intro wq hSw; clear hSw; go_simp; try with_reducible rfl)
        try simp only [List.getElem_toArray, List.getElem_cons_zero, List.getElem_cons_succ, Act.put, List.setIfInBounds_toArray, List.set_cons_zero, List.set_cons_succ]
        refine' wpAnyH_take (i := 3) (v := _) rfl (by kernel_rfl) (by kernel_rfl) (by kernel_rfl) (fun _ _ _ h => h) (yieldsIf_load_mid (by rfl) _ _ rfl _ _ rfl _ _ (fun _ h => h.1.range) Tryd.underlying24 rfl (pos_info p hlp)) hHeld ?_
        try simp only [List.getElem_toArray, List.getElem_cons_zero, List.getElem_cons_succ, Act.put, List.setIfInBounds_toArray, List.set_cons_zero, List.set_cons_succ]
        refine wpAnyH_take (i := 4) (v := ?vlb_5_4) rfl (by kernel_rfl) (by kernel_rfl) (by kernel_rfl) (fun _ _ _ h => h) (Or.inl ⟨by rfl, ?ylb_5_4⟩) hHeld ?rlb_5_4
        case ylb_5_4 => (intro wq hSw; clear hSw; go_simp; try with_reducible rfl)
        try simp only [List.getElem_toArray, List.getElem_cons_zero, List.getElem_cons_succ, Act.put, List.setIfInBounds_toArray, List.set_cons_zero, List.set_cons_succ]
        refine wpAnyH_take (i := 5) (v := ?vlb_6_5) rfl (by kernel_rfl) (by kernel_rfl) (by kernel_rfl) (fun _ _ _ h => h) (Or.inl ⟨by rfl, ?ylb_6_5⟩) hHeld ?rlb_6_5
        case ylb_6_5 => (intro wq hSw; clear hSw; go_simp; try with_reducible rfl)
        try simp only [List.getElem_toArray, List.getElem_cons_zero, List.getElem_cons_succ, Act.put, List.setIfInBounds_toArray, List.set_cons_zero, List.set_cons_succ]
        refine wpAnyH_take (i := 6) (v := ?vlb_7_6) rfl (by kernel_rfl) (by kernel_rfl) (by kernel_rfl) (fun _ _ _ h => h) (Or.inl ⟨by rfl, ?ylb_7_6⟩) hHeld ?rlb_7_6
        case ylb_7_6 => (intro wq hSw; clear hSw; go_simp; try with_reducible rfl)
        try simp only [List.getElem_toArray, List.getElem_cons_zero, List.getElem_cons_succ, Act.put, List.setIfInBounds_toArray, List.set_cons_zero, List.set_cons_succ]
        refine' wpAnyH_take (i := 7) (v := _) rfl (by kernel_rfl) (by kernel_rfl) (by kernel_rfl) (fun _ _ _ h => h) (yieldsIf_load_mid (by rfl) _ _ rfl _ _ rfl _ _ (fun _ h => hra.out _ h.2.1) Tryd.underlying52 rfl (by kernel_rfl)) hHeld ?_
        try simp only [List.getElem_toArray, List.getElem_cons_zero, List.getElem_cons_succ, Act.put, List.setIfInBounds_toArray, List.set_cons_zero, List.set_cons_succ]
        refine wpAnyH_take (i := 9) (v := ?vlb_9_9) rfl (by kernel_rfl) (by kernel_rfl) (by kernel_rfl) (fun _ _ _ h => h) (Or.inl ⟨by rfl, ?ylb_9_9⟩) hHeld ?rlb_9_9
        case ylb_9_9 => (intro wq hSw; clear hSw; go_simp; try with_reducible rfl)
        try simp only [List.getElem_toArray, List.getElem_cons_zero, List.getElem_cons_succ, Act.put, List.setIfInBounds_toArray, List.set_cons_zero, List.set_cons_succ]
        refine wpAnyH_take (i := 10) (v := ?vlb_10_10) rfl (by kernel_rfl) (by kernel_rfl) (by kernel_rfl) (fun _ _ _ h => h) (Or.inl ⟨by rfl, ?ylb_10_10⟩) hHeld ?rlb_10_10
        case ylb_10_10 => (intro wq hSw; clear hSw; go_simp; try with_reducible rfl)
        try simp only [List.getElem_toArray, List.getElem_cons_zero, List.getElem_cons_succ, Act.put, List.setIfInBounds_toArray, List.set_cons_zero, List.set_cons_succ]
        refine wpAnyH_take (i := 11) (v := ?vlb_11_11) rfl (by kernel_rfl) (by kernel_rfl) (by kernel_rfl) (fun _ _ _ h => h) (Or.inl ⟨by rfl, ?ylb_11_11⟩) hHeld ?rlb_11_11
        case ylb_11_11 => (intro wq hSw; have hq := h64.out _ hSw.1; clear hSw; go_simp; try with_reducible rfl)
        try simp only [List.getElem_toArray, List.getElem_cons_zero, List.getElem_cons_succ, Act.put, List.setIfInBounds_toArray, List.set_cons_zero, List.set_cons_succ]
        refine wpAnyH_take (i := 12) (v := ?vlb_12_12) rfl (by kernel_rfl) (by kernel_rfl) (by kernel_rfl) (fun _ _ _ h => h) (Or.inl ⟨by rfl, ?ylb_12_12⟩) hHeld ?rlb_12_12
        case ylb_12_12 => (intro wq hSw; clear hSw; go_simp; try with_reducible rfl)
        try simp only [List.getElem_toArray, List.getElem_cons_zero, List.getElem_cons_succ, Act.put, List.setIfInBounds_toArray, List.set_cons_zero, List.set_cons_succ]
        refine wpAnyH_ready (rs := [8]) (by kernel_rfl) (by simp) ?_
        refine AllReadyH.cons rfl (fun K hK => ?_) AllReadyH.nil
        try simp only [List.getElem_toArray, List.getElem_cons_zero, List.getElem_cons_succ, Act.put, List.setIfInBounds_toArray, List.set_cons_zero, List.set_cons_succ]
        try rw [if_pos (by rfl)]
        go_simp
        refine (hMd.out m hid.out.2.1 _).mono ?_
        rintro e3 w3 ⟨rfl, hb3⟩
        go_wp2_with fail
        refine hK.out _ _ (by have hs := hHeld.2.2.2.1.size; have hz := hb3.size; exact ⟨hHeld.1.below hb3, own_next hHeld.2.1 hb3, own_next hHeld.2.2.1 hb3, hHeld.2.2.2.1.trans (hb3.mono hs), by have := hHeld.2.2.2.2; omega⟩) (fun hHeld => ?_)
        clear hK K
        try simp only [List.getElem_toArray, List.getElem_cons_zero, List.getElem_cons_succ, Act.put, List.setIfInBounds_toArray, List.set_cons_zero, List.set_cons_succ]
        refine wpAnyH_ready (rs := [13]) (by kernel_rfl) (by simp) ?_
        refine AllReadyH.cons rfl (fun K hK => ?_) AllReadyH.nil
        try simp only [List.getElem_toArray, List.getElem_cons_zero, List.getElem_cons_succ, Act.put, List.setIfInBounds_toArray, List.set_cons_zero, List.set_cons_succ]
        try rw [if_pos (by rfl)]
        go_simp
        refine (hAt.out m hid.out.2.1 (kg) (1 - (tn : Int)) hkg hkr.2 _).mono ?_
        rintro e4 w4 ⟨rfl, hb4⟩
        go_wp2_with fail
        refine hK.out _ _ (by have hs := hHeld.2.2.2.1.size; have hz := hb4.size; exact ⟨hHeld.1.below hb4, own_next hHeld.2.1 hb4, own_next hHeld.2.2.1 hb4, hHeld.2.2.2.1.trans (hb4.mono hs), by have := hHeld.2.2.2.2; omega⟩) (fun hHeld => ?_)
        clear hK K
        try simp only [List.getElem_toArray, List.getElem_cons_zero, List.getElem_cons_succ, Act.put, List.setIfInBounds_toArray, List.set_cons_zero, List.set_cons_succ]
        refine wpAnyH_take (i := 14) (v := ?vlb_13_14) rfl (by kernel_rfl) (by kernel_rfl) (by kernel_rfl) (fun _ _ _ h => h) (Or.inl ⟨by rfl, ?ylb_13_14⟩) hHeld ?rlb_13_14
        case ylb_13_14 => (intro wq hSw; clear hSw; go_simp; try with_reducible rfl)
        try simp only [List.getElem_toArray, List.getElem_cons_zero, List.getElem_cons_succ, Act.put, List.setIfInBounds_toArray, List.set_cons_zero, List.set_cons_succ]
        refine wpAnyH_take (i := 15) (v := ?vlb_14_15) rfl (by kernel_rfl) (by kernel_rfl) (by kernel_rfl) (fun _ _ _ h => h) (Or.inl ⟨by rfl, ?ylb_14_15⟩) hHeld ?rlb_14_15
        case ylb_14_15 => (intro wq hSw; clear hSw; go_simp; try with_reducible rfl)
        try simp only [List.getElem_toArray, List.getElem_cons_zero, List.getElem_cons_succ, Act.put, List.setIfInBounds_toArray, List.set_cons_zero, List.set_cons_succ]
        refine wpAnyH_done (by kernel_rfl) ?_ _
        have hS4 := show Shut _ from hHeld
        clear hHeld
        generalize hatt : attackedB (madeB p m) (kg) (1 - (tn : Int)) = at0 at *
        have hats := show Shut _ from hatt
        clear hatt
        cases at0 with
        | true =>
          have hKf : keepM p m = false := by rw [hkvs.out]; rfl
          have hKs := show Shut _ from hKf
          clear hKf
          go_wp2_with fail
          go_roundw
          case rel =>
            have R : ∃ k' : Nat, k' ≤ l1.length ∧ Value.int .i64 ((k : Int) + 1) = .int .i64 (k' : Int) ∧ PosAt p w.heap.size w4 ∧ ownMvs w4 W.heap.size (.slice (some ⟨g, 0, none⟩) l1.length c1) l1 ∧ ownMvs w4 w2.heap.size u3 ((l1.take k').filter (keepM p)) ∧ Below w.heap.size w w4 ∧ w2.heap.size ≤ w4.heap.size := ⟨k + 1, by omega, by go_num, hS4.out.1, hS4.out.2.1, by rw [hid.out.1, hKs.out, if_neg (by decide), List.append_nil]; exact hS4.out.2.2.1, hS4.out.2.2.2.1, hS4.out.2.2.2.2⟩
            first | exact R | ((repeat apply Exists.intro); exact ⟨R, rfl⟩)
          case measure => simp [intOf]; omega
        | false =>
          have hKf : keepM p m = true := by rw [hkvs.out]; rfl
          have hKs := show Shut _ from hKf
          clear hKf
          obtain ⟨cf, co, cp⟩ := hcs.out w4 hS4.out.2.1
          have hownA := hS4.out.2.2.1
          have hszA : w2.heap.size ≤ w4.heap.size := hS4.out.2.2.2.2
          go_wp2_with (with_reducible refine at_appendk (esz := 3) [.int .i64 m.fr, .int .i64 m.to, .int .i64 m.pr] rfl Tryd.underlying36 hi hz0 hz1 hz2 rfl (by decide) (by decide) ?_ w2.heap.size _ _ _ hownA ?_ hszA ?_ ?_ ?_)
          · intro u hu; simp at hu; rcases hu with rfl | rfl | rfl <;> rfl
          · omega
          · rfl
          · rfl
          intro v' w' hown' hbel' hkeep' hap' hsz'
          have hown2' : ownMvs w' W.heap.size (.slice (some ⟨g, 0, none⟩) l1.length c1) l1 := own_block hS4.out.2.1 (fun q hq => hbel'.block q (by simp [Value.ownBlock] at hq; omega))
          have R : ∃ k' : Nat, k' ≤ l1.length ∧ Value.int .i64 ((k : Int) + 1) = .int .i64 (k' : Int) ∧ PosAt p w.heap.size w' ∧ ownMvs w' W.heap.size (.slice (some ⟨g, 0, none⟩) l1.length c1) l1 ∧ ownMvs w' w2.heap.size v' ((l1.take k').filter (keepM p)) ∧ Below w.heap.size w w' ∧ w2.heap.size ≤ w'.heap.size := by
            refine ⟨k + 1, by omega, by go_num, (hbel'.block w.heap.size hlt2).trans hS4.out.1, hown2', ?_, hS4.out.2.2.2.1.trans (hbel'.mono (by omega)), by omega⟩
            rw [hid.out.1, hKs.out, if_pos rfl]
            unfold ownMvs mvsC
            rw [List.length_append, List.flatMap_append]
            exact hown'
          have RS := show Shut _ from R
          clear R hown' hbel' hkeep' hap' hownA cf co cp
          go_wp2_with fail
          go_roundw
          case rel =>
            have R := RS.out
            first | exact R | ((repeat apply Exists.intro); exact ⟨R, rfl⟩)
          case measure => simp [intOf]; omega
    · obtain rfl : k = l1.length := by omega
      have hSr := show Shut _ from And.intro hown hB
      clear hrow hownL hown hB hsw
      go_wp2_with fail
      go_ret
      have hfin := hSr.out.1
      rw [List.take_length] at hfin
      first
      | exact ⟨_, _, rfl, hpf.out, own_mono hfin (by omega), hSr.out.2⟩
      | exact ⟨_, rfl, _, hpf.out, own_mono hfin (by omega), hSr.out.2⟩
end Go.Proofs.YtplkcmlpomjojaaDoor
