/- The parts of a move's text as the reference has them: SanParts. For every text of at most 200 bytes. (Printed by gen_qd.py.) -/
import Derived.Test.YtnpklkenjaambaaDoorQc
import Derived.Deep.MidRow
namespace Go.Proofs.YtnpklkenjaambaaDoor
open Go Go.RowKit
set_option maxHeartbeats 8000000
set_option linter.unusedSimpArgs false
set_option linter.unusedVariables false
set_option maxRecDepth 100000

def e8 : List (List UInt8) := [[], [], [], [], [], [], [], []]
structure QdSt (w0 : World) (l : List (List UInt8)) (W : World) : Prop where
  len : l.length = 8
  r0 : W.heap[w0.heap.size]? = some (.cells (strsR e8) 22 (0, 0))
  r1 : W.heap[w0.heap.size + 1]? = some (.cells (strsR l) 22 (0, 0))
  bel : Below w0.heap.size w0 W
  sz : w0.heap.size + 2 ≤ W.heap.size
theorem QdSt.set {w0 : World} {l : List (List UInt8)} {W : World} (h : QdSt w0 l W) (k : Nat) (x : List UInt8) : QdSt w0 (l.set k x) (W.setCell ⟨w0.heap.size + 1, k, none⟩ (.string (bs x))) :=
  ⟨by simp [h.len], (heap_setCell_other _ _ _ _ (by simp)).trans h.r0, by rw [heap_setCell_same _ _ _ _ _ _ h.r1, strsR_set], h.bel.setCell (p := ⟨w0.heap.size + 1, k, none⟩) (by simp) _, by simpa using h.sz⟩
theorem QdSt.below {w0 : World} {l : List (List UInt8)} {W W' : World} (h : QdSt w0 l W) (hb : Below W.heap.size W W') : QdSt w0 l W' :=
  ⟨h.len, (hb.block _ (by have := h.sz; omega)).trans h.r0, (hb.block _ (by have := h.sz; omega)).trans h.r1, h.bel.trans (hb.mono h.bel.size), Nat.le_trans h.sz hb.size⟩
theorem QdSt.drew {w0 : World} {l : List (List UInt8)} {W : World} (h : QdSt w0 l W) : QdSt w0 l W.drew := h.below ⟨rfl, rfl, rfl, Nat.le_refl _, fun _ _ => rfl⟩
theorem qd_start (w : World) : QdSt w e8 ((w.alloc (.cells (strsR e8) 22)).alloc (.cells (strsR e8) 22)) :=
  ⟨rfl, heap_alloc2_old w _ _, heap_alloc2_new w _ _, ((Below.refl _ _).alloc (Nat.le_refl _) _).alloc (by simp) _, by simp⟩
theorem range_row {w : World} {g : Nat} {cs : Array Value} {t : TypeId} {fr : Nat × Nat} (h : w.heap[g]? = some (.cells cs t fr)) : w.rangeAt g 0 cs.toList := fun j v hv => by
  rw [cell_of_row w g (0 + j) _ _ _ h, Nat.zero_add]
  simpa using hv
def l8 (T : List UInt8) (a : Nat) : List (List UInt8) := [T.take a, [], [], [], [], [], [], []]
def cpy (T : List UInt8) (a : Nat) (P : List (List UInt8)) (k : Nat) : List (List UInt8) := [T.take a] ++ P.take k ++ List.replicate (6 - k) [] ++ [[]]
theorem cpy_set (T : List UInt8) (a : Nat) (P : List (List UInt8)) (hP : P.length = 6) (k : Nat) (hk : k < 6) : (cpy T a P k).set (1 + k) (P.getD k []) = cpy T a P (k + 1) := by
  match P, hP with
  | [p0, p1, p2, p3, p4, p5], _ =>
    rcases (show k = 0 ∨ k = 1 ∨ k = 2 ∨ k = 3 ∨ k = 4 ∨ k = 5 by omega) with rfl | rfl | rfl | rfl | rfl | rfl <;> rfl
theorem cpy_all (T : List UInt8) (a : Nat) (P : List (List UInt8)) (hP : P.length = 6) : cpy T a P 6 = [T.take a] ++ P ++ [[]] := by
  have h : P.take 6 = P := List.take_of_length_le (by omega)
  simp [cpy, h]
theorem parts_len (T : List UInt8) (a b c d : Nat) : (partsL T a b c d).length = 6 := rfl
theorem end_le {T : List UInt8} {a b c d : Nat} (h : okC T a b c d = true) : a + b + c + d + 2 + prL T (a + b + c + d + 2) ≤ T.length := by
  obtain ⟨_, _, _, _, f5⟩ := okC_says h
  rcases prL_two T (a + b + c + d + 2) with e | e
  · have := f5.1
    omega
  · have := (at_pr e).1
    omega
/-- The parts in their eight places. -/
def GoodP (T : List UInt8) (l : List (List UInt8)) : Prop := ∃ a b c d : Nat, a ≤ 1 ∧ b ≤ 1 ∧ c ≤ 1 ∧ d ≤ 1 ∧ (a = 1 ↔ atB pcsL T 0 = true) ∧ okC T a b c d = true ∧
  tailB (T.drop (a + b + c + d + 2 + prL T (a + b + c + d + 2))) = true ∧ l = [T.take a] ++ partsL T a b c d ++ [[]]
def PartsPost (T : List UInt8) (w : World) : Ending → World → Prop := fun e w' => Below w.heap.size w w' ∧ ∃ (l : List (List UInt8)) (is : Bool), l.length = 8 ∧ e = .returned (.tuple #[.agg (strsR l), .bool is]) ∧ (is = true → l.getD 7 [] ≠ [] ∨ GoodP T l)

theorem qd_parts (T : List UInt8) (hl : T.length ≤ 200) (w : World) :
    Calls Tryd.prog 6 #[.string (bs T)] w (PartsPost T w) := by
  have hsz := bs_size T
  have hst := qlay (qd_start w)
  have htl := qlay (fun R hR V => qb_tail R hR V)
  have hget : Shut (∀ (k : Nat) (h : k < (bs T).size), (bs T)[k]'h = T.getD k 0) := bs_get T
  go_enter Tryd.func6, Tryd.ntmps6
  go_upto_region 3 with fail
  have st : QdSt w e8 _ := hst.out
  clear hst
  change Code.wp _ _ _ _ ((w.alloc (.cells (strsR e8) 22)).alloc (.cells (strsR e8) 22))
  generalize (w.alloc (.cells (strsR e8) 22)).alloc (.cells (strsR e8) 22) = W at *
  have sts := qlay st
  have c7 := (cell_of_row _ _ 7 _ _ _ st.r1).trans (show _ = some (.string ⟨#[]⟩) from rfl)
  have f7 := frozen_of_row _ _ 7 _ _ st.r1
  clear st

  have hx5 : (bs T).extract 0 5 = bs (T.take 5) := by rw [bs_extract, List.drop_zero]
  have hx3 : (bs T).extract 0 3 = bs (T.take 3) := by rw [bs_extract, List.drop_zero]
  by_cases hz5 : (5 : Int) ≤ (T.length : Int)
  · go_upto_if 18 with fail
    go_cut [5] (fun s5 wx => ∃ k : Nat, s5 = .int .i64 (k : Int) ∧ ((k = 0 ∧ QdSt w e8 wx) ∨ (0 < k ∧ k ≤ T.length ∧ ∃ x, x ≠ [] ∧ QdSt w (e8.set 7 x) wx)))
    case first =>
      cases hb : ((bs (T.take 5)).toList == [79, 45, 79, 45, 79]) with
      | true =>
        have h5 : T.take 5 = [79, 45, 79, 45, 79] := by rw [bs_list] at hb; simpa using hb
        have hll : 5 ≤ T.length := by have := congrArg List.length h5; simp at this; omega
        have hne : T.take 5 ≠ [] := by rw [h5]; simp
        have st2 := qlay (sts.out.set 7 (T.take 5))
        clear h5 hb
        go_wp2_with fail
        go_meet
        exact ⟨5, rfl, Or.inr ⟨by omega, hll, _, hne, st2.out⟩⟩
      | false =>
        clear hb
        by_cases h3 : T.take 3 = [79, 45, 79]
        · have hll : 3 ≤ T.length := by have := congrArg List.length h3; simp at this; omega
          have hz : (3 : Int) ≤ (T.length : Int) := by omega
          have heq3 : ((bs (T.take 3)).toList == [79, 45, 79]) = true := by rw [bs_list, h3]; rfl
          have hne : T.take 3 ≠ [] := by rw [h3]; simp
          have st2 := qlay (sts.out.set 7 (T.take 3))
          clear h3
          go_wp2_with fail
          go_meet
          exact ⟨3, rfl, Or.inr ⟨by omega, hll, _, hne, st2.out⟩⟩
        · have heq3 : ((bs (T.take 3)).toList == [79, 45, 79]) = false := by rw [bs_list]; simpa using h3
          clear h3
          by_cases hz3 : (3 : Int) ≤ (T.length : Int)
          · go_wp2_with fail
            go_meet
            exact ⟨0, rfl, Or.inl ⟨rfl, sts.out⟩⟩
          · go_wp2_with fail
            go_meet
            exact ⟨0, rfl, Or.inl ⟨rfl, sts.out⟩⟩
    case rest =>
      have hc := hcut
      clear sts hcut
      obtain ⟨k, rfl, ⟨rfl, st⟩ | hcs⟩ := hc
      · have hlen0 : 0 < T.length := by omega
        have hx0 := hget.out 0 (by rw [hsz]; omega)
        obtain ⟨pb, hpb⟩ : ∃ pb, pcsL.contains (T.getD 0 0) = pb := ⟨_, rfl⟩
        have hin := qlay (fun V => qb_in pcsL (T.getD 0 0) (by decide) V)
        rw [hpb] at hin
        have hatb : Shut (atB pcsL T 0 = pb) := by show _ = _; unfold atB; rw [hpb]; simp; omega
        have hex1 : (bs T).extract 0 1 = bs (T.take 1) := by rw [bs_extract, List.drop_zero]
        have hlz : (0 : Int) < (T.length : Int) := by omega
        generalize T.getD 0 0 = x0 at *
        clear hpb
        have st9 := qlay st
        have c0 := (cell_of_row _ _ 0 _ _ _ st.r1).trans (show _ = some (.string ⟨#[]⟩) from rfl)
        have f0 := frozen_of_row _ _ 0 _ _ st.r1
        clear st
        go_upto_if 49 with (go_at_call 18; refine (hin.out _).mono ?_; rintro e1 w1 ⟨rfl, rfl⟩)
        go_cut [5] (fun s5 wx => ∃ a : Nat, s5 = .int .i64 (a : Int) ∧ a ≤ 1 ∧ (a = 1 ↔ atB pcsL T 0 = true) ∧ QdSt w (l8 T a) wx)
        case first =>
          cases pb with
          | true =>
            have st2 := qlay (st9.out.set 0 (T.take 1))
            go_wp2_with fail
            go_meet
            exact ⟨1, rfl, by omega, by rw [hatb.out]; simp, st2.out⟩
          | false =>
            go_wp2_with fail
            go_meet
            exact ⟨0, rfl, by omega, by rw [hatb.out]; simp, by simpa [l8, e8] using st9.out⟩
        case rest =>
          clear st9 c0 f0 hin hatb hx0 hex1 hlz
          obtain ⟨a, rfl, ha1, hpc, st⟩ := hcut
          have st0s := qlay st
          have hpcs := qlay hpc
          clear st hpc
          go_wp2_with fail
          go_loopw [6, 7, 8, 9] (fun f _ _ _ wr => ∃ fr : Nat, fr ≤ 8 ∧ f = .int .i64 (fr : Int) ∧ QdSt w (l8 T a) wr) (fun f _ _ _ _ => (8 - intOf f).toNat)
          case atStart => exact ⟨0, by omega, rfl, st0s.out⟩
          case round =>
            clear st0s
            obtain ⟨fr, hfr8, rfl, st⟩ := hrel
            by_cases hlt : fr < 8
            · obtain ⟨b, c, d, hb, hc, hd, hfr⟩ : ∃ b c d : Nat, b ≤ 1 ∧ c ≤ 1 ∧ d ≤ 1 ∧ fr = b + 2 * c + 4 * d := ⟨fr % 2, fr / 2 % 2, fr / 4, by omega, by omega, by omega, by omega⟩
              have hR : Shut (∀ V, Calls Tryd.prog 19 #[.string (bs T), .int .i64 (a : Int), .int .i64 (fr : Int)] V (RestPost T a b c d V)) := by
                intro V
                rw [hfr]
                exact qc_rest T a b c d hb hc hd hl (by omega) V
              clear hfr
              have sts := qlay st
              clear st
              go_wp2_with fail
              refine (hR.out _).mono ?_
              rintro e1 w1 ⟨hb1, hor⟩
              have st1 := qlay (sts.out.below hb1)
              clear sts hb1 hR
              rcases hor with ⟨hok, rfl⟩ | ⟨hno, l, hll, rfl⟩
              · have hend := end_le hok
                have hoks := qlay hok
                obtain ⟨N, hN⟩ : ∃ N : Nat, a + b + c + d + 2 + prL T (a + b + c + d + 2) = N := ⟨_, rfl⟩
                have hNs := qlay hN
                have hN0 : (0 : Int) < (N : Int) := by omega
                rw [hN] at hend
                have hPl := parts_len T a b c d
                have hgood : Shut (tailB (T.drop N) = true → GoodP T ([T.take a] ++ partsL T a b c d ++ [[]])) := fun h => ⟨a, b, c, d, ha1, hb, hc, hd, hpcs.out, hoks.out, by rw [hNs.out]; exact h, rfl⟩
                rw [hN]
                generalize partsL T a b c d = P at *
                have hex : (bs T).extract N T.length = bs (T.drop N) := by rw [bs_extract, List.take_length]
                have hT := qlay (fun V => htl.out (T.drop N) (by simp; omega) V)
                clear hok hoks hN hNs
                cases ht : tailB (T.drop N) with
                | false =>
                  rw [ht] at hT
                  clear hgood ht
                  go_wp2_with (first
                    | ((with_reducible refine at_new_row (strsR P) ?_ ?_ ?_ ?_ ?_ ?_); rw [strsR_size, hPl]; kernel_rfl; rw [strsR_size, hPl]; rfl; exact strsR_one _; rfl; rfl; intro W2 rW2 hC2; have st2 := qlay (st1.out.below hC2))
                    | (go_at_call 17; refine (hT.out _).mono ?_; rintro e2 w2 ⟨rfl, rfl⟩))
                  go_roundw
                  case rel => first | exact ⟨fr + 1, by omega, by go_num, st2.out⟩ | ((repeat apply Exists.intro); exact ⟨⟨fr + 1, by omega, by go_num, st2.out⟩, rfl⟩)
                  case measure => simp [intOf]; omega
                | true =>
                  rw [ht] at hT
                  have hgd := qlay (hgood.out ht)
                  clear hgood ht
                  go_wp2_with (first
                    | ((with_reducible refine at_new_row (strsR P) ?_ ?_ ?_ ?_ ?_ ?_); rw [strsR_size, hPl]; kernel_rfl; rw [strsR_size, hPl]; rfl; exact strsR_one _; rfl; rfl; intro W2 rW2 hC2; have st2 := qlay (st1.out.below hC2); have rP := qlay rW2; clear hC2 rW2)
                    | (go_at_call 17; refine (hT.out _).mono ?_; rintro e2 w2 ⟨rfl, rfl⟩))
                  have hz1 : w.heap.size + 2 ≤ w1.heap.size := st1.out.sz
                  clear hex hT hN0 hend hlt
                  go_loopw [9] (fun k wx => ∃ kk : Nat, kk ≤ 6 ∧ k = .int .i64 (kk : Int) ∧ QdSt w (cpy T a P kk) wx ∧ wx.heap[w1.heap.size]? = some (.cells (strsR P) 42 (0, 0))) (fun k _ => (6 - intOf k).toNat)
                  case atStart => exact ⟨0, by omega, rfl, by simpa [cpy, l8] using st2.out, rP.out⟩
                  case round =>
                    clear st2 rP
                    obtain ⟨kk, hk6, rfl, st, rP⟩ := hrel
                    by_cases hlk : kk < 6
                    · have cP := (cell_of_row _ _ kk _ _ _ rP).trans (strsR_at _ _ (by rw [hPl]; exact hlk))
                      have cS := (cell_of_row _ _ (1 + kk) _ _ _ st.r1).trans (strsR_at _ _ (by rw [st.len]; omega))
                      have fS := frozen_of_row _ _ (1 + kk) _ _ st.r1
                      have st3 := st.set (1 + kk) (P.getD kk [])
                      rw [cpy_set T a P hPl kk hlk] at st3
                      have rP3 := (heap_setCell_other wr ⟨w.heap.size + 1, 1 + kk, none⟩ w1.heap.size (.string (bs (P.getD kk []))) (by simp; omega)).trans rP
                      obtain ⟨x, hx⟩ : ∃ x, P.getD kk [] = x := ⟨_, rfl⟩
                      rw [hx] at cP st3 rP3
                      have st3s := qlay st3
                      have rP3 := qlay rP3
                      clear st rP st3 hgd hx
                      go_wp2_with fail
                      go_roundw
                      case rel => exact ⟨kk + 1, by omega, by go_num, st3s.out, rP3.out⟩
                      case measure => simp [intOf]; omega
                    · obtain rfl : kk = 6 := by omega
                      rw [cpy_all T a P hPl] at st
                      have sts := qlay st
                      have r0 := st.r0
                      have r1 := st.r1
                      have hln := st.len
                      clear st rP
                      generalize [T.take a] ++ P ++ [[]] = l at *
                      go_wp2_with (first
                        | ((with_reducible refine at_load_row r1 Tryd.underlying22 rfl ?_ ?_ ?_); rw [strsR_size, hln]; kernel_rfl; rfl)
                        | ((with_reducible refine at_store_row (strsR l) r0 ?_ ?_ ?_ ?_ ?_ ?_); rw [strsR_size, hln]; kernel_rfl; rw [strsR_size, strsR_size, hln]; rfl; exact strsR_one _; rfl; rfl))
                      exact bodyPost_ret (results_cell_tmp rfl _ _ w.heap.size 22 (strsR l) (0, 0) _ rfl (setRow_heap _ _ _ _ _ _ r0) Tryd.underlying22 rfl (by rw [strsR_size, hln]; kernel_rfl) (.bool true) rfl) rfl ⟨below_setRow' sts.out.bel (Nat.le_refl _) _, l, true, hln, rfl, fun _ => Or.inr hgd.out⟩
              · clear hno
                go_wp2_with ((with_reducible refine at_new_row (strsR l) ?_ ?_ ?_ ?_ ?_ ?_); rw [strsR_size, hll]; kernel_rfl; rw [strsR_size, hll]; rfl; exact strsR_one _; rfl; rfl; intro W2 rW2 hC2; have st2 := qlay (st1.out.below hC2))
                go_roundw
                case rel => first | exact ⟨fr + 1, by omega, by go_num, st2.out⟩ | ((repeat apply Exists.intro); exact ⟨⟨fr + 1, by omega, by go_num, st2.out⟩, rfl⟩)
                case measure => simp [intOf]; omega
            · obtain rfl : fr = 8 := by omega
              have r0 := st.r0
              have stb := qlay st.bel
              clear st
              go_wp2_with ((with_reducible refine at_store_row (strsR e8) r0 ?_ ?_ ?_ ?_ ?_ ?_); rw [strsR_size]; kernel_rfl; rfl; exact strsR_one _; rfl; rfl)
              exact bodyPost_ret (results_cell_tmp rfl _ _ w.heap.size 22 (strsR e8) (0, 0) _ rfl (setRow_heap _ _ _ _ _ _ r0) Tryd.underlying22 rfl (by rw [strsR_size]; kernel_rfl) (.bool false) rfl) rfl ⟨below_setRow' stb.out (Nat.le_refl _) _, e8, false, rfl, rfl, fun h => by cases h⟩
      · obtain ⟨hk0, hkl, x, hx0, st⟩ := hcs
        have hl7 : Shut ((e8.set 7 x).getD 7 [] ≠ []) := by show _ ≠ _; simpa [e8] using hx0
        generalize e8.set 7 x = l7 at *
        have hex : (bs T).extract k T.length = bs (T.drop k) := by rw [bs_extract, List.take_length]
        have hT := qlay (fun V => htl.out (T.drop k) (by simp; omega) V)
        generalize tailB (T.drop k) = tb at *
        generalize T.drop k = R at *
        have hkz : (0 : Int) < (k : Int) := by omega
        have std := qlay st.drew
        clear st hx0
        go_upto_region 8 with fail
        refine wp_region_held_drew (S := fun V : World => V.rangeAt (w.heap.size + 1) 0 (strsR l7).toList) (by kernel_rfl) (range_row std.out.r1) (fun hHeld => ?_)
        refine' wpAnyH_take (i := 0) (v := _) rfl (by kernel_rfl) (by kernel_rfl) (by kernel_rfl) (fun _ _ _ h => h) (yieldsIf_load_mid (by rfl) _ _ rfl _ _ rfl _ _ (fun _ h => h) Tryd.underlying22 rfl (by rw [Array.length_toList, strsR_size, std.out.len]; kernel_rfl)) hHeld ?_
        try simp only [List.getElem_toArray, List.getElem_cons_zero, List.getElem_cons_succ, Act.put, List.setIfInBounds_toArray, List.set_cons_zero, List.set_cons_succ]
        refine wpAnyH_take (i := 1) (v := ?vqda2_1) rfl (by kernel_rfl) (by kernel_rfl) (by kernel_rfl) (fun _ _ _ h => h) (Or.inl ⟨by rfl, ?yqda2_1⟩) hHeld ?rqda2_1
        case yqda2_1 => (intro wq hSw; clear hSw; go_simp; try with_reducible rfl)
        try simp only [List.getElem_toArray, List.getElem_cons_zero, List.getElem_cons_succ, Act.put, List.setIfInBounds_toArray, List.set_cons_zero, List.set_cons_succ]
        refine wpAnyH_take (i := 2) (v := ?vqda3_2) rfl (by kernel_rfl) (by kernel_rfl) (by kernel_rfl) (fun _ _ _ h => h) (Or.inl ⟨by rfl, ?yqda3_2⟩) hHeld ?rqda3_2
        case yqda3_2 => (intro wq hSw; clear hSw; go_simp; try with_reducible rfl)
        try simp only [List.getElem_toArray, List.getElem_cons_zero, List.getElem_cons_succ, Act.put, List.setIfInBounds_toArray, List.set_cons_zero, List.set_cons_succ]
        refine wpAnyH_take (i := 3) (v := ?vqda4_3) rfl (by kernel_rfl) (by kernel_rfl) (by kernel_rfl) (fun _ _ _ h => h) (Or.inl ⟨by rfl, ?yqda4_3⟩) hHeld ?rqda4_3
        case yqda4_3 => (intro wq hSw; clear hSw; go_simp; try with_reducible rfl)
        try simp only [List.getElem_toArray, List.getElem_cons_zero, List.getElem_cons_succ, Act.put, List.setIfInBounds_toArray, List.set_cons_zero, List.set_cons_succ]
        refine wpAnyH_ready (rs := [4]) (by kernel_rfl) (by simp) ?_
        refine AllReadyH.cons rfl (fun K hK => ?_) AllReadyH.nil
        try simp only [List.getElem_toArray, List.getElem_cons_zero, List.getElem_cons_succ, Act.put, List.setIfInBounds_toArray, List.set_cons_zero, List.set_cons_succ]
        try rw [if_pos (by rfl)]
        go_simp
        refine (hT.out _).mono ?_
        rintro e1 w1 ⟨rfl, rfl⟩
        go_wp2_with fail
        refine hK.out _ _ ((range_row std.out.r1)) (fun hHeld => ?_)
        clear hK K
        try simp only [List.getElem_toArray, List.getElem_cons_zero, List.getElem_cons_succ, Act.put, List.setIfInBounds_toArray, List.set_cons_zero, List.set_cons_succ]
        refine wpAnyH_ready (rs := [5]) (by kernel_rfl) (by simp) ?_
        refine AllReadyH.cons rfl (fun K hK => ?_) AllReadyH.nil
        try simp only [List.getElem_toArray, List.getElem_cons_zero, List.getElem_cons_succ, Act.put, List.setIfInBounds_toArray, List.set_cons_zero, List.set_cons_succ]
        rw [if_pos (by rfl)]
        refine wp_store_row 22 _ _ rfl w.heap.size (strsR l7) (by rfl) (by rfl) 22 _ std.out.r0 (by rw [strsR_size, std.out.len]; kernel_rfl) (by rw [strsR_size, strsR_size, std.out.len]; rfl) (strsR_one _) ?_
        have hS5 := range_row ((setRow_other _ w.heap.size (w.heap.size + 1) (strsR l7) (by omega)).trans std.out.r1)
        refine hK.out _ _ hS5 (fun hHeld => ?_)
        clear hK K
        try simp only [List.getElem_toArray, List.getElem_cons_zero, List.getElem_cons_succ, Act.put, List.setIfInBounds_toArray, List.set_cons_zero, List.set_cons_succ]
        refine wpAnyH_take (i := 6) (v := ?vqda5_6) rfl (by kernel_rfl) (by kernel_rfl) (by kernel_rfl) (fun _ _ _ h => h) (Or.inl ⟨by rfl, ?yqda5_6⟩) hHeld ?rqda5_6
        case yqda5_6 => (intro wq hSw; clear hSw; go_simp; try with_reducible rfl)
        try simp only [List.getElem_toArray, List.getElem_cons_zero, List.getElem_cons_succ, Act.put, List.setIfInBounds_toArray, List.set_cons_zero, List.set_cons_succ]
        refine wpAnyH_done (by kernel_rfl) ?_ _
        clear hHeld hS5
        go_wp2_with fail
        exact bodyPost_ret (results_cell_tmp rfl _ _ w.heap.size 22 (strsR l7) (0, 0) _ rfl (setRow_heap _ _ _ _ _ _ std.out.r0) Tryd.underlying22 rfl (by rw [strsR_size, std.out.len]; kernel_rfl) (.bool tb) rfl) rfl ⟨below_setRow' std.out.bel (Nat.le_refl _) _, l7, tb, std.out.len, rfl, fun _ => Or.inl hl7.out⟩
  · go_upto_if 18 with fail
    go_cut [5] (fun s5 wx => ∃ k : Nat, s5 = .int .i64 (k : Int) ∧ ((k = 0 ∧ QdSt w e8 wx) ∨ (0 < k ∧ k ≤ T.length ∧ ∃ x, x ≠ [] ∧ QdSt w (e8.set 7 x) wx)))
    case first =>
      by_cases h3 : T.take 3 = [79, 45, 79]
      · have hll : 3 ≤ T.length := by have := congrArg List.length h3; simp at this; omega
        have hz : (3 : Int) ≤ (T.length : Int) := by omega
        have heq3 : ((bs (T.take 3)).toList == [79, 45, 79]) = true := by rw [bs_list, h3]; rfl
        have hne : T.take 3 ≠ [] := by rw [h3]; simp
        have st2 := qlay (sts.out.set 7 (T.take 3))
        clear h3
        go_wp2_with fail
        go_meet
        exact ⟨3, rfl, Or.inr ⟨by omega, hll, _, hne, st2.out⟩⟩
      · have heq3 : ((bs (T.take 3)).toList == [79, 45, 79]) = false := by rw [bs_list]; simpa using h3
        clear h3
        by_cases hz3 : (3 : Int) ≤ (T.length : Int)
        · go_wp2_with fail
          go_meet
          exact ⟨0, rfl, Or.inl ⟨rfl, sts.out⟩⟩
        · go_wp2_with fail
          go_meet
          exact ⟨0, rfl, Or.inl ⟨rfl, sts.out⟩⟩
    case rest =>
      have hc := hcut
      clear sts hcut
      obtain ⟨k, rfl, ⟨rfl, st⟩ | hcs⟩ := hc
      · by_cases hlen0 : 0 < T.length
        · have hx0 := hget.out 0 (by rw [hsz]; omega)
          obtain ⟨pb, hpb⟩ : ∃ pb, pcsL.contains (T.getD 0 0) = pb := ⟨_, rfl⟩
          have hin := qlay (fun V => qb_in pcsL (T.getD 0 0) (by decide) V)
          rw [hpb] at hin
          have hatb : Shut (atB pcsL T 0 = pb) := by show _ = _; unfold atB; rw [hpb]; simp; omega
          have hex1 : (bs T).extract 0 1 = bs (T.take 1) := by rw [bs_extract, List.drop_zero]
          have hlz : (0 : Int) < (T.length : Int) := by omega
          generalize T.getD 0 0 = x0 at *
          clear hpb
          have st9 := qlay st
          have c0 := (cell_of_row _ _ 0 _ _ _ st.r1).trans (show _ = some (.string ⟨#[]⟩) from rfl)
          have f0 := frozen_of_row _ _ 0 _ _ st.r1
          clear st
          go_upto_if 49 with (go_at_call 18; refine (hin.out _).mono ?_; rintro e1 w1 ⟨rfl, rfl⟩)
          go_cut [5] (fun s5 wx => ∃ a : Nat, s5 = .int .i64 (a : Int) ∧ a ≤ 1 ∧ (a = 1 ↔ atB pcsL T 0 = true) ∧ QdSt w (l8 T a) wx)
          case first =>
            cases pb with
            | true =>
              have st2 := qlay (st9.out.set 0 (T.take 1))
              go_wp2_with fail
              go_meet
              exact ⟨1, rfl, by omega, by rw [hatb.out]; simp, st2.out⟩
            | false =>
              go_wp2_with fail
              go_meet
              exact ⟨0, rfl, by omega, by rw [hatb.out]; simp, by simpa [l8, e8] using st9.out⟩
          case rest =>
            clear st9 c0 f0 hin hatb hx0 hex1 hlz
            obtain ⟨a, rfl, ha1, hpc, st⟩ := hcut
            have st0s := qlay st
            have hpcs := qlay hpc
            clear st hpc
            go_wp2_with fail
            go_loopw [6, 7, 8, 9] (fun f _ _ _ wr => ∃ fr : Nat, fr ≤ 8 ∧ f = .int .i64 (fr : Int) ∧ QdSt w (l8 T a) wr) (fun f _ _ _ _ => (8 - intOf f).toNat)
            case atStart => exact ⟨0, by omega, rfl, st0s.out⟩
            case round =>
              clear st0s
              obtain ⟨fr, hfr8, rfl, st⟩ := hrel
              by_cases hlt : fr < 8
              · obtain ⟨b, c, d, hb, hc, hd, hfr⟩ : ∃ b c d : Nat, b ≤ 1 ∧ c ≤ 1 ∧ d ≤ 1 ∧ fr = b + 2 * c + 4 * d := ⟨fr % 2, fr / 2 % 2, fr / 4, by omega, by omega, by omega, by omega⟩
                have hR : Shut (∀ V, Calls Tryd.prog 19 #[.string (bs T), .int .i64 (a : Int), .int .i64 (fr : Int)] V (RestPost T a b c d V)) := by
                  intro V
                  rw [hfr]
                  exact qc_rest T a b c d hb hc hd hl (by omega) V
                clear hfr
                have sts := qlay st
                clear st
                go_wp2_with fail
                refine (hR.out _).mono ?_
                rintro e1 w1 ⟨hb1, hor⟩
                have st1 := qlay (sts.out.below hb1)
                clear sts hb1 hR
                rcases hor with ⟨hok, rfl⟩ | ⟨hno, l, hll, rfl⟩
                · have hend := end_le hok
                  have hoks := qlay hok
                  obtain ⟨N, hN⟩ : ∃ N : Nat, a + b + c + d + 2 + prL T (a + b + c + d + 2) = N := ⟨_, rfl⟩
                  have hNs := qlay hN
                  have hN0 : (0 : Int) < (N : Int) := by omega
                  rw [hN] at hend
                  have hPl := parts_len T a b c d
                  have hgood : Shut (tailB (T.drop N) = true → GoodP T ([T.take a] ++ partsL T a b c d ++ [[]])) := fun h => ⟨a, b, c, d, ha1, hb, hc, hd, hpcs.out, hoks.out, by rw [hNs.out]; exact h, rfl⟩
                  rw [hN]
                  generalize partsL T a b c d = P at *
                  have hex : (bs T).extract N T.length = bs (T.drop N) := by rw [bs_extract, List.take_length]
                  have hT := qlay (fun V => htl.out (T.drop N) (by simp; omega) V)
                  clear hok hoks hN hNs
                  cases ht : tailB (T.drop N) with
                  | false =>
                    rw [ht] at hT
                    clear hgood ht
                    go_wp2_with (first
                      | ((with_reducible refine at_new_row (strsR P) ?_ ?_ ?_ ?_ ?_ ?_); rw [strsR_size, hPl]; kernel_rfl; rw [strsR_size, hPl]; rfl; exact strsR_one _; rfl; rfl; intro W2 rW2 hC2; have st2 := qlay (st1.out.below hC2))
                      | (go_at_call 17; refine (hT.out _).mono ?_; rintro e2 w2 ⟨rfl, rfl⟩))
                    go_roundw
                    case rel => first | exact ⟨fr + 1, by omega, by go_num, st2.out⟩ | ((repeat apply Exists.intro); exact ⟨⟨fr + 1, by omega, by go_num, st2.out⟩, rfl⟩)
                    case measure => simp [intOf]; omega
                  | true =>
                    rw [ht] at hT
                    have hgd := qlay (hgood.out ht)
                    clear hgood ht
                    go_wp2_with (first
                      | ((with_reducible refine at_new_row (strsR P) ?_ ?_ ?_ ?_ ?_ ?_); rw [strsR_size, hPl]; kernel_rfl; rw [strsR_size, hPl]; rfl; exact strsR_one _; rfl; rfl; intro W2 rW2 hC2; have st2 := qlay (st1.out.below hC2); have rP := qlay rW2; clear hC2 rW2)
                      | (go_at_call 17; refine (hT.out _).mono ?_; rintro e2 w2 ⟨rfl, rfl⟩))
                    have hz1 : w.heap.size + 2 ≤ w1.heap.size := st1.out.sz
                    clear hex hT hN0 hend hlt
                    go_loopw [9] (fun k wx => ∃ kk : Nat, kk ≤ 6 ∧ k = .int .i64 (kk : Int) ∧ QdSt w (cpy T a P kk) wx ∧ wx.heap[w1.heap.size]? = some (.cells (strsR P) 42 (0, 0))) (fun k _ => (6 - intOf k).toNat)
                    case atStart => exact ⟨0, by omega, rfl, by simpa [cpy, l8] using st2.out, rP.out⟩
                    case round =>
                      clear st2 rP
                      obtain ⟨kk, hk6, rfl, st, rP⟩ := hrel
                      by_cases hlk : kk < 6
                      · have cP := (cell_of_row _ _ kk _ _ _ rP).trans (strsR_at _ _ (by rw [hPl]; exact hlk))
                        have cS := (cell_of_row _ _ (1 + kk) _ _ _ st.r1).trans (strsR_at _ _ (by rw [st.len]; omega))
                        have fS := frozen_of_row _ _ (1 + kk) _ _ st.r1
                        have st3 := st.set (1 + kk) (P.getD kk [])
                        rw [cpy_set T a P hPl kk hlk] at st3
                        have rP3 := (heap_setCell_other wr ⟨w.heap.size + 1, 1 + kk, none⟩ w1.heap.size (.string (bs (P.getD kk []))) (by simp; omega)).trans rP
                        obtain ⟨x, hx⟩ : ∃ x, P.getD kk [] = x := ⟨_, rfl⟩
                        rw [hx] at cP st3 rP3
                        have st3s := qlay st3
                        have rP3 := qlay rP3
                        clear st rP st3 hgd hx
                        go_wp2_with fail
                        go_roundw
                        case rel => exact ⟨kk + 1, by omega, by go_num, st3s.out, rP3.out⟩
                        case measure => simp [intOf]; omega
                      · obtain rfl : kk = 6 := by omega
                        rw [cpy_all T a P hPl] at st
                        have sts := qlay st
                        have r0 := st.r0
                        have r1 := st.r1
                        have hln := st.len
                        clear st rP
                        generalize [T.take a] ++ P ++ [[]] = l at *
                        go_wp2_with (first
                          | ((with_reducible refine at_load_row r1 Tryd.underlying22 rfl ?_ ?_ ?_); rw [strsR_size, hln]; kernel_rfl; rfl)
                          | ((with_reducible refine at_store_row (strsR l) r0 ?_ ?_ ?_ ?_ ?_ ?_); rw [strsR_size, hln]; kernel_rfl; rw [strsR_size, strsR_size, hln]; rfl; exact strsR_one _; rfl; rfl))
                        exact bodyPost_ret (results_cell_tmp rfl _ _ w.heap.size 22 (strsR l) (0, 0) _ rfl (setRow_heap _ _ _ _ _ _ r0) Tryd.underlying22 rfl (by rw [strsR_size, hln]; kernel_rfl) (.bool true) rfl) rfl ⟨below_setRow' sts.out.bel (Nat.le_refl _) _, l, true, hln, rfl, fun _ => Or.inr hgd.out⟩
                · clear hno
                  go_wp2_with ((with_reducible refine at_new_row (strsR l) ?_ ?_ ?_ ?_ ?_ ?_); rw [strsR_size, hll]; kernel_rfl; rw [strsR_size, hll]; rfl; exact strsR_one _; rfl; rfl; intro W2 rW2 hC2; have st2 := qlay (st1.out.below hC2))
                  go_roundw
                  case rel => first | exact ⟨fr + 1, by omega, by go_num, st2.out⟩ | ((repeat apply Exists.intro); exact ⟨⟨fr + 1, by omega, by go_num, st2.out⟩, rfl⟩)
                  case measure => simp [intOf]; omega
              · obtain rfl : fr = 8 := by omega
                have r0 := st.r0
                have stb := qlay st.bel
                clear st
                go_wp2_with ((with_reducible refine at_store_row (strsR e8) r0 ?_ ?_ ?_ ?_ ?_ ?_); rw [strsR_size]; kernel_rfl; rfl; exact strsR_one _; rfl; rfl)
                exact bodyPost_ret (results_cell_tmp rfl _ _ w.heap.size 22 (strsR e8) (0, 0) _ rfl (setRow_heap _ _ _ _ _ _ r0) Tryd.underlying22 rfl (by rw [strsR_size]; kernel_rfl) (.bool false) rfl) rfl ⟨below_setRow' stb.out (Nat.le_refl _) _, e8, false, rfl, rfl, fun h => by cases h⟩
        · have hatb : Shut (atB pcsL T 0 = false) := by show _ = _; unfold atB; simp; omega
          have hlz : ¬ (0 : Int) < (T.length : Int) := by omega
          have st9 := qlay st
          clear st
          go_upto_if 49 with fail
          go_cut [5] (fun s5 wx => ∃ a : Nat, s5 = .int .i64 (a : Int) ∧ a ≤ 1 ∧ (a = 1 ↔ atB pcsL T 0 = true) ∧ QdSt w (l8 T a) wx)
          case first =>
            go_wp2_with fail
            go_meet
            exact ⟨0, rfl, by omega, by rw [hatb.out]; simp, by simpa [l8, e8] using st9.out⟩
          case rest =>
            clear st9 hatb hlz
            obtain ⟨a, rfl, ha1, hpc, st⟩ := hcut
            have st0s := qlay st
            have hpcs := qlay hpc
            clear st hpc
            go_wp2_with fail
            go_loopw [6, 7, 8, 9] (fun f _ _ _ wr => ∃ fr : Nat, fr ≤ 8 ∧ f = .int .i64 (fr : Int) ∧ QdSt w (l8 T a) wr) (fun f _ _ _ _ => (8 - intOf f).toNat)
            case atStart => exact ⟨0, by omega, rfl, st0s.out⟩
            case round =>
              clear st0s
              obtain ⟨fr, hfr8, rfl, st⟩ := hrel
              by_cases hlt : fr < 8
              · obtain ⟨b, c, d, hb, hc, hd, hfr⟩ : ∃ b c d : Nat, b ≤ 1 ∧ c ≤ 1 ∧ d ≤ 1 ∧ fr = b + 2 * c + 4 * d := ⟨fr % 2, fr / 2 % 2, fr / 4, by omega, by omega, by omega, by omega⟩
                have hR : Shut (∀ V, Calls Tryd.prog 19 #[.string (bs T), .int .i64 (a : Int), .int .i64 (fr : Int)] V (RestPost T a b c d V)) := by
                  intro V
                  rw [hfr]
                  exact qc_rest T a b c d hb hc hd hl (by omega) V
                clear hfr
                have sts := qlay st
                clear st
                go_wp2_with fail
                refine (hR.out _).mono ?_
                rintro e1 w1 ⟨hb1, hor⟩
                have st1 := qlay (sts.out.below hb1)
                clear sts hb1 hR
                rcases hor with ⟨hok, rfl⟩ | ⟨hno, l, hll, rfl⟩
                · exfalso
                  have hend := end_le hok
                  omega
                · clear hno
                  go_wp2_with ((with_reducible refine at_new_row (strsR l) ?_ ?_ ?_ ?_ ?_ ?_); rw [strsR_size, hll]; kernel_rfl; rw [strsR_size, hll]; rfl; exact strsR_one _; rfl; rfl; intro W2 rW2 hC2; have st2 := qlay (st1.out.below hC2))
                  go_roundw
                  case rel => first | exact ⟨fr + 1, by omega, by go_num, st2.out⟩ | ((repeat apply Exists.intro); exact ⟨⟨fr + 1, by omega, by go_num, st2.out⟩, rfl⟩)
                  case measure => simp [intOf]; omega
              · obtain rfl : fr = 8 := by omega
                have r0 := st.r0
                have stb := qlay st.bel
                clear st
                go_wp2_with ((with_reducible refine at_store_row (strsR e8) r0 ?_ ?_ ?_ ?_ ?_ ?_); rw [strsR_size]; kernel_rfl; rfl; exact strsR_one _; rfl; rfl)
                exact bodyPost_ret (results_cell_tmp rfl _ _ w.heap.size 22 (strsR e8) (0, 0) _ rfl (setRow_heap _ _ _ _ _ _ r0) Tryd.underlying22 rfl (by rw [strsR_size]; kernel_rfl) (.bool false) rfl) rfl ⟨below_setRow' stb.out (Nat.le_refl _) _, e8, false, rfl, rfl, fun h => by cases h⟩
      · obtain ⟨hk0, hkl, x, hx0, st⟩ := hcs
        have hl7 : Shut ((e8.set 7 x).getD 7 [] ≠ []) := by show _ ≠ _; simpa [e8] using hx0
        generalize e8.set 7 x = l7 at *
        have hex : (bs T).extract k T.length = bs (T.drop k) := by rw [bs_extract, List.take_length]
        have hT := qlay (fun V => htl.out (T.drop k) (by simp; omega) V)
        generalize tailB (T.drop k) = tb at *
        generalize T.drop k = R at *
        have hkz : (0 : Int) < (k : Int) := by omega
        have std := qlay st.drew
        clear st hx0
        go_upto_region 8 with fail
        refine wp_region_held_drew (S := fun V : World => V.rangeAt (w.heap.size + 1) 0 (strsR l7).toList) (by kernel_rfl) (range_row std.out.r1) (fun hHeld => ?_)
        refine' wpAnyH_take (i := 0) (v := _) rfl (by kernel_rfl) (by kernel_rfl) (by kernel_rfl) (fun _ _ _ h => h) (yieldsIf_load_mid (by rfl) _ _ rfl _ _ rfl _ _ (fun _ h => h) Tryd.underlying22 rfl (by rw [Array.length_toList, strsR_size, std.out.len]; kernel_rfl)) hHeld ?_
        try simp only [List.getElem_toArray, List.getElem_cons_zero, List.getElem_cons_succ, Act.put, List.setIfInBounds_toArray, List.set_cons_zero, List.set_cons_succ]
        refine wpAnyH_take (i := 1) (v := ?vqdb2_1) rfl (by kernel_rfl) (by kernel_rfl) (by kernel_rfl) (fun _ _ _ h => h) (Or.inl ⟨by rfl, ?yqdb2_1⟩) hHeld ?rqdb2_1
        case yqdb2_1 => (intro wq hSw; clear hSw; go_simp; try with_reducible rfl)
        try simp only [List.getElem_toArray, List.getElem_cons_zero, List.getElem_cons_succ, Act.put, List.setIfInBounds_toArray, List.set_cons_zero, List.set_cons_succ]
        refine wpAnyH_take (i := 2) (v := ?vqdb3_2) rfl (by kernel_rfl) (by kernel_rfl) (by kernel_rfl) (fun _ _ _ h => h) (Or.inl ⟨by rfl, ?yqdb3_2⟩) hHeld ?rqdb3_2
        case yqdb3_2 => (intro wq hSw; clear hSw; go_simp; try with_reducible rfl)
        try simp only [List.getElem_toArray, List.getElem_cons_zero, List.getElem_cons_succ, Act.put, List.setIfInBounds_toArray, List.set_cons_zero, List.set_cons_succ]
        refine wpAnyH_take (i := 3) (v := ?vqdb4_3) rfl (by kernel_rfl) (by kernel_rfl) (by kernel_rfl) (fun _ _ _ h => h) (Or.inl ⟨by rfl, ?yqdb4_3⟩) hHeld ?rqdb4_3
        case yqdb4_3 => (intro wq hSw; clear hSw; go_simp; try with_reducible rfl)
        try simp only [List.getElem_toArray, List.getElem_cons_zero, List.getElem_cons_succ, Act.put, List.setIfInBounds_toArray, List.set_cons_zero, List.set_cons_succ]
        refine wpAnyH_ready (rs := [4]) (by kernel_rfl) (by simp) ?_
        refine AllReadyH.cons rfl (fun K hK => ?_) AllReadyH.nil
        try simp only [List.getElem_toArray, List.getElem_cons_zero, List.getElem_cons_succ, Act.put, List.setIfInBounds_toArray, List.set_cons_zero, List.set_cons_succ]
        try rw [if_pos (by rfl)]
        go_simp
        refine (hT.out _).mono ?_
        rintro e1 w1 ⟨rfl, rfl⟩
        go_wp2_with fail
        refine hK.out _ _ ((range_row std.out.r1)) (fun hHeld => ?_)
        clear hK K
        try simp only [List.getElem_toArray, List.getElem_cons_zero, List.getElem_cons_succ, Act.put, List.setIfInBounds_toArray, List.set_cons_zero, List.set_cons_succ]
        refine wpAnyH_ready (rs := [5]) (by kernel_rfl) (by simp) ?_
        refine AllReadyH.cons rfl (fun K hK => ?_) AllReadyH.nil
        try simp only [List.getElem_toArray, List.getElem_cons_zero, List.getElem_cons_succ, Act.put, List.setIfInBounds_toArray, List.set_cons_zero, List.set_cons_succ]
        rw [if_pos (by rfl)]
        refine wp_store_row 22 _ _ rfl w.heap.size (strsR l7) (by rfl) (by rfl) 22 _ std.out.r0 (by rw [strsR_size, std.out.len]; kernel_rfl) (by rw [strsR_size, strsR_size, std.out.len]; rfl) (strsR_one _) ?_
        have hS5 := range_row ((setRow_other _ w.heap.size (w.heap.size + 1) (strsR l7) (by omega)).trans std.out.r1)
        refine hK.out _ _ hS5 (fun hHeld => ?_)
        clear hK K
        try simp only [List.getElem_toArray, List.getElem_cons_zero, List.getElem_cons_succ, Act.put, List.setIfInBounds_toArray, List.set_cons_zero, List.set_cons_succ]
        refine wpAnyH_take (i := 6) (v := ?vqdb5_6) rfl (by kernel_rfl) (by kernel_rfl) (by kernel_rfl) (fun _ _ _ h => h) (Or.inl ⟨by rfl, ?yqdb5_6⟩) hHeld ?rqdb5_6
        case yqdb5_6 => (intro wq hSw; clear hSw; go_simp; try with_reducible rfl)
        try simp only [List.getElem_toArray, List.getElem_cons_zero, List.getElem_cons_succ, Act.put, List.setIfInBounds_toArray, List.set_cons_zero, List.set_cons_succ]
        refine wpAnyH_done (by kernel_rfl) ?_ _
        clear hHeld hS5
        go_wp2_with fail
        exact bodyPost_ret (results_cell_tmp rfl _ _ w.heap.size 22 (strsR l7) (0, 0) _ rfl (setRow_heap _ _ _ _ _ _ std.out.r0) Tryd.underlying22 rfl (by rw [strsR_size, std.out.len]; kernel_rfl) (.bool tb) rfl) rfl ⟨below_setRow' std.out.bel (Nat.le_refl _) _, l7, tb, std.out.len, rfl, fun _ => Or.inl hl7.out⟩
end Go.Proofs.YtnpklkenjaambaaDoor
