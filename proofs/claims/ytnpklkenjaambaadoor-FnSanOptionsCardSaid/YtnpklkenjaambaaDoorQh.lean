/- The other texts that a text of a piece's move may stand for, as the package builds them. For eight parts of together at most 1000 bytes, of which the first is not empty. (Printed by gen_qh.py.) -/
import Derived.Test.YtnpklkenjaambaaDoorQg
import Derived.Deep.DeepCutAuto
namespace Go.Proofs.YtnpklkenjaambaaDoor
open Go Go.RowKit
set_option maxHeartbeats 8000000
set_option linter.unusedSimpArgs false
set_option linter.unusedVariables false
set_option maxRecDepth 100000

theorem GoSt.at {n : Nat} {w : World} {p0 p1 p2 p3 p4 p5 p6 p7 : List UInt8} {v : Value} {xs : List (List UInt8)} {W : World} (h : GoSt n w [p0, p1, p2, p3, p4, p5, p6, p7] v xs W) (k : Nat) (x : List UInt8) (hx : [p0, p1, p2, p3, p4, p5, p6, p7][k]? = some x) : W.cell? ⟨n, k, none⟩ = some (.string (bs x)) := by
  rw [cell_of_row W n k _ _ _ h.r0]
  unfold strsR
  rw [List.getElem?_toArray, List.getElem?_map, hx]
  rfl
theorem GoSt.cell1 {n : Nat} {w : World} {l : List (List UInt8)} {v : Value} {xs : List (List UInt8)} {W : World} (h : GoSt n w l v xs W) (o : Obj) : (W.alloc o).cell? ⟨n + 1, 0, none⟩ = some v := by
  have hsz := h.sz
  have hlt : n + 1 < W.heap.size := by omega
  exact (World.cell?_alloc_lt _ _ _ hlt).trans (cell_of_row _ _ 0 _ _ _ h.r1)
/-- One text more in the list. -/
theorem GoSt.add {n : Nat} {w : World} {l : List (List UInt8)} {v v' : Value} {xs : List (List UInt8)} {W W' : World} (t : List UInt8) (h : GoSt n w l v xs W) (hb : Bld (n + 2) t W) (ho : W'.ownsRow (n + 3) 9 1 v' (xs.length + 1) (strsV xs ++ [.string (bs t)])) (hw : Below (n + 3) W W') :
    GoSt n w l v' (xs ++ [t]) (W'.setCell ⟨n + 1, 0, none⟩ v') ∧ BldAny (n + 2) (W'.setCell ⟨n + 1, 0, none⟩ v') := by
  have hsz := h.sz
  obtain ⟨p, u, hu⟩ := hb.any
  refine ⟨⟨h.len, (heap_setCell_other _ _ _ _ (by simp)).trans ((hw.block n (by omega)).trans h.r0), ?_, ?_, (h.bel.trans (hw.mono (by omega))).setCell (p := ⟨n + 1, 0, none⟩) (by simp) _, ?_⟩, p, u, (heap_setCell_other _ _ _ _ (by simp)).trans ((hw.block (n + 2) (by omega)).trans hu)⟩
  · rw [heap_setCell_same _ _ 0 _ _ _ ((hw.block (n + 1) (by omega)).trans h.r1)]
    rfl
  · rw [List.length_append, ← strsV_app]
    exact ownsRow_setCell_below ho (by simp) _
  · simpa using Nat.le_trans hsz hw.size
theorem own_slice {w : World} {base : Nat} {e : TypeId} {size : Nat} {v : Value} {n : Nat} {xs : List Value} (h : w.ownsRow base e size v n xs) : ∃ a k c, v = .slice a k c := by
  obtain ⟨_, ⟨rfl, _⟩ | ⟨g, cap, cur, rfl, _⟩⟩ := h
  · exact ⟨_, _, _, rfl⟩
  · exact ⟨_, _, _, rfl⟩
theorem GoSt.slice {n : Nat} {w : World} {l : List (List UInt8)} {v : Value} {xs : List (List UInt8)} {W : World} (h : GoSt n w l v xs W) : ∃ a k c, v = .slice a k c := by
  obtain ⟨_, ⟨rfl, _⟩ | ⟨g, cap, cur, rfl, _⟩⟩ := h.own
  · exact ⟨_, _, _, rfl⟩
  · exact ⟨_, _, _, rfl⟩
theorem go_start (w : World) (l : List (List UInt8)) (hl : l.length = 8) :
    GoSt w.heap.size w l (.slice none 0 0) [] (((w.alloc (.cells (strsR l) 70)).alloc (.cells #[.slice none 0 0] 25)).alloc (.cells #[.pointer none, .slice none 0 0] 86)) ∧
    BldAny (w.heap.size + 2) (((w.alloc (.cells (strsR l) 70)).alloc (.cells #[.slice none 0 0] 25)).alloc (.cells #[.pointer none, .slice none 0 0] 86)) :=
  ⟨⟨hl, (heap_alloc_old _ _ (by simp; omega)).trans (heap_alloc2_old w _ _), (heap_alloc_old _ _ (by simp)).trans (heap_alloc2_new w _ _), World.ownsRow_nil _ _ _ _, (((Below.refl _ _).alloc (Nat.le_refl _) _).alloc (by simp) _).alloc (by simp; omega) _, by simp⟩,
    _, _, heap_at _ _ (w.heap.size + 2) (by simp)⟩

theorem qh_options (p0 p1 p2 p3 p4 p5 p6 p7 : List UInt8) (hp0 : p0 ≠ []) (hsum : p0.length + p1.length + p2.length + p3.length + p4.length + p5.length + p6.length + p7.length ≤ 2000) (w : World) :
    Calls Tryd.prog 39 #[.agg (strsR [p0, p1, p2, p3, p4, p5, p6, p7])] w fun e w' => ∃ v, e = .returned v ∧ w'.ownsRow w.heap.size 9 1 v 3 (strsV [p0 ++ p3 ++ p4 ++ p5 ++ p6 ++ p7, p0 ++ p2 ++ p3 ++ p4 ++ p5 ++ p6 ++ p7, p0 ++ p1 ++ p3 ++ p4 ++ p5 ++ p6 ++ p7]) ∧ Below w.heap.size w w' := by
  obtain ⟨ib, hib, hz0, hz1, hz2⟩ := info_parts (show (Tryd.prog.info? 9).map (fun i => (i.zero, i.size, i.bytes)) = some (some (.string ByteArray.empty), 1, 16) by kernel_rfl)
  have hst := qlay (go_start w [p0, p1, p2, p3, p4, p5, p6, p7] rfl)
  have hne : ((bs p0).toList == []) = false := by rw [bs_list]; simpa using hp0
  clear hp0
  go_enter Tryd.func39, Tryd.ntmps39
  go_upto_region 4 with fail
  change Code.wp _ _ _ _ (((w.alloc (.cells (strsR [p0, p1, p2, p3, p4, p5, p6, p7]) 70)).alloc (.cells #[.slice none 0 0] 25)).alloc (.cells #[.pointer none, .slice none 0 0] 86))
  generalize ((w.alloc (.cells (strsR [p0, p1, p2, p3, p4, p5, p6, p7]) 70)).alloc (.cells #[.slice none 0 0] 25)).alloc (.cells #[.pointer none, .slice none 0 0] 86) = W0 at *
  obtain ⟨n, hn⟩ : ∃ n : Nat, w.heap.size = n := ⟨_, rfl⟩
  obtain ⟨st0, bl0⟩ := hst.out
  rw [hn] at st0 bl0 ⊢
  have st := qlay st0
  have bl := qlay bl0
  have c := st0.at 0 p0 rfl
  clear hst st0 bl0
  go_upto_region 5 with fail
  clear c hne
  go_wp2_with fail
  refine (qg_reset st.out bl.out).mono ?_
  rintro e V0 ⟨rfl, st0, bl0⟩
  have c := st0.at 0 p0 rfl
  have sts := qlay st0; have bls := qlay bl0; clear st bl st0 bl0
  go_wp2_with fail
  refine (qg_write [] p0 sts.out bls.out (by (try simp only [List.length_append, List.length_nil]); omega)).mono ?_
  rintro e V1 ⟨rfl, st1, bl1⟩
  clear c sts bls
  have sts := qlay st1; have bls : Shut (Bld (n + 2) (p0) V1) := bl1; have c := st1.at 3 p3 rfl; clear st1 bl1
  go_wp2_with fail
  refine (qg_write p0 p3 sts.out bls.out (by (try simp only [List.length_append, List.length_nil]); omega)).mono ?_
  rintro e V2 ⟨rfl, st2, bl2⟩
  clear c sts bls
  have sts := qlay st2; have bls : Shut (Bld (n + 2) (p0 ++ p3) V2) := bl2; have c := st2.at 4 p4 rfl; clear st2 bl2
  go_wp2_with fail
  refine (qg_write (p0 ++ p3) p4 sts.out bls.out (by (try simp only [List.length_append, List.length_nil]); omega)).mono ?_
  rintro e V3 ⟨rfl, st3, bl3⟩
  clear c sts bls
  have sts := qlay st3; have bls : Shut (Bld (n + 2) (p0 ++ p3 ++ p4) V3) := bl3; have c := st3.at 5 p5 rfl; clear st3 bl3
  go_wp2_with fail
  refine (qg_write (p0 ++ p3 ++ p4) p5 sts.out bls.out (by (try simp only [List.length_append, List.length_nil]); omega)).mono ?_
  rintro e V4 ⟨rfl, st4, bl4⟩
  clear c sts bls
  have sts := qlay st4; have bls : Shut (Bld (n + 2) (p0 ++ p3 ++ p4 ++ p5) V4) := bl4; have c := st4.at 6 p6 rfl; clear st4 bl4
  go_wp2_with fail
  refine (qg_write (p0 ++ p3 ++ p4 ++ p5) p6 sts.out bls.out (by (try simp only [List.length_append, List.length_nil]); omega)).mono ?_
  rintro e V5 ⟨rfl, st5, bl5⟩
  clear c sts bls
  have sts := qlay st5; have bls : Shut (Bld (n + 2) (p0 ++ p3 ++ p4 ++ p5 ++ p6) V5) := bl5; have c := st5.at 7 p7 rfl; clear st5 bl5
  go_wp2_with fail
  refine (qg_write (p0 ++ p3 ++ p4 ++ p5 ++ p6) p7 sts.out bls.out (by (try simp only [List.length_append, List.length_nil]); omega)).mono ?_
  rintro e V6 ⟨rfl, st6, bl6⟩
  clear c sts bls
  have sts := qlay st6; have bls : Shut (Bld (n + 2) (p0 ++ p3 ++ p4 ++ p5 ++ p6 ++ p7) V6) := bl6; have c := cell_of_row _ _ 0 _ _ _ st6.r1; clear st6 bl6
  obtain ⟨T1, hT1⟩ : ∃ T1 : List UInt8, p0 ++ p3 ++ p4 ++ p5 ++ p6 ++ p7 = T1 := ⟨_, rfl⟩
  rw [hT1] at bls
  go_wp2_with fail
  go_cut [] (fun wx => ∃ v', GoSt n w [p0, p1, p2, p3, p4, p5, p6, p7] v' ([] ++ [T1]) wx ∧ BldAny (n + 2) wx)
  case first =>
    go_region_law (first | (refine step_append1 (w := V) rfl _ _ rfl Tryd.underlying25 hib hz0 hz1 hz2 rfl (by decide) rfl (n + 3) _ _ _ st2.out.own (by simp) st2.out.sz rfl rfl ?_; intro v' w' own' hb'; have r' := (hb'.block (n + 1) (by omega)).trans st2.out.r1; have c' := cell_of_row _ _ 0 _ _ _ r'; have f' := frozen_of_row _ (n + 1) 0 _ _ r'; have hadd := qlay (st2.out.add _ bl2.out own' hb'); obtain ⟨a', k', q', rfl⟩ := own_slice own'; clear r' own' hb') | (rw [if_pos (by rfl)]; go_simp; refine (qg_string _ sts.out.drew bls.out.drew).mono ?_; rintro e V ⟨rfl, st2, bl2⟩; have c2 := cell_of_row _ _ 0 _ _ _ st2.r1; have c3 := st2.cell1; have st2 := qlay st2; have bl2 := qlay bl2; go_wp2_with fail))
    all_goals (go_wp2_with fail; go_meet; exact ⟨_, hadd.out⟩)
  case rest =>
  clear sts bls c
  obtain ⟨v1, st0, bl0⟩ := hcut
  have st := qlay st0; have bl := qlay bl0; clear st0 bl0
  go_wp2_with fail
  refine (qg_reset st.out bl.out).mono ?_
  rintro e V0 ⟨rfl, st0, bl0⟩
  have c := st0.at 0 p0 rfl
  have sts := qlay st0; have bls := qlay bl0; clear st bl st0 bl0
  go_wp2_with fail
  refine (qg_write [] p0 sts.out bls.out (by (try simp only [List.length_append, List.length_nil]); omega)).mono ?_
  rintro e V1 ⟨rfl, st1, bl1⟩
  clear c sts bls
  have sts := qlay st1; have bls : Shut (Bld (n + 2) (p0) V1) := bl1; have c := st1.at 2 p2 rfl; clear st1 bl1
  go_wp2_with fail
  refine (qg_write p0 p2 sts.out bls.out (by (try simp only [List.length_append, List.length_nil]); omega)).mono ?_
  rintro e V2 ⟨rfl, st2, bl2⟩
  clear c sts bls
  have sts := qlay st2; have bls : Shut (Bld (n + 2) (p0 ++ p2) V2) := bl2; have c := st2.at 3 p3 rfl; clear st2 bl2
  go_wp2_with fail
  refine (qg_write (p0 ++ p2) p3 sts.out bls.out (by (try simp only [List.length_append, List.length_nil]); omega)).mono ?_
  rintro e V3 ⟨rfl, st3, bl3⟩
  clear c sts bls
  have sts := qlay st3; have bls : Shut (Bld (n + 2) (p0 ++ p2 ++ p3) V3) := bl3; have c := st3.at 4 p4 rfl; clear st3 bl3
  go_wp2_with fail
  refine (qg_write (p0 ++ p2 ++ p3) p4 sts.out bls.out (by (try simp only [List.length_append, List.length_nil]); omega)).mono ?_
  rintro e V4 ⟨rfl, st4, bl4⟩
  clear c sts bls
  have sts := qlay st4; have bls : Shut (Bld (n + 2) (p0 ++ p2 ++ p3 ++ p4) V4) := bl4; have c := st4.at 5 p5 rfl; clear st4 bl4
  go_wp2_with fail
  refine (qg_write (p0 ++ p2 ++ p3 ++ p4) p5 sts.out bls.out (by (try simp only [List.length_append, List.length_nil]); omega)).mono ?_
  rintro e V5 ⟨rfl, st5, bl5⟩
  clear c sts bls
  have sts := qlay st5; have bls : Shut (Bld (n + 2) (p0 ++ p2 ++ p3 ++ p4 ++ p5) V5) := bl5; have c := st5.at 6 p6 rfl; clear st5 bl5
  go_wp2_with fail
  refine (qg_write (p0 ++ p2 ++ p3 ++ p4 ++ p5) p6 sts.out bls.out (by (try simp only [List.length_append, List.length_nil]); omega)).mono ?_
  rintro e V6 ⟨rfl, st6, bl6⟩
  clear c sts bls
  have sts := qlay st6; have bls : Shut (Bld (n + 2) (p0 ++ p2 ++ p3 ++ p4 ++ p5 ++ p6) V6) := bl6; have c := st6.at 7 p7 rfl; clear st6 bl6
  go_wp2_with fail
  refine (qg_write (p0 ++ p2 ++ p3 ++ p4 ++ p5 ++ p6) p7 sts.out bls.out (by (try simp only [List.length_append, List.length_nil]); omega)).mono ?_
  rintro e V7 ⟨rfl, st7, bl7⟩
  clear c sts bls
  have sts := qlay st7; have bls : Shut (Bld (n + 2) (p0 ++ p2 ++ p3 ++ p4 ++ p5 ++ p6 ++ p7) V7) := bl7; have c := cell_of_row _ _ 0 _ _ _ st7.r1; clear st7 bl7
  obtain ⟨T2, hT2⟩ : ∃ T2 : List UInt8, p0 ++ p2 ++ p3 ++ p4 ++ p5 ++ p6 ++ p7 = T2 := ⟨_, rfl⟩
  rw [hT2] at bls
  obtain ⟨va, vk, vc, rfl⟩ := sts.out.slice
  go_wp2_with fail
  go_cut [] (fun wx => ∃ v', GoSt n w [p0, p1, p2, p3, p4, p5, p6, p7] v' ([] ++ [T1] ++ [T2]) wx ∧ BldAny (n + 2) wx)
  case first =>
    go_region_law (first | (refine step_append1 (w := V) rfl _ _ rfl Tryd.underlying25 hib hz0 hz1 hz2 rfl (by decide) rfl (n + 3) _ _ _ st2.out.own (by simp) st2.out.sz rfl rfl ?_; intro v' w' own' hb'; have r' := (hb'.block (n + 1) (by omega)).trans st2.out.r1; have c' := cell_of_row _ _ 0 _ _ _ r'; have f' := frozen_of_row _ (n + 1) 0 _ _ r'; have hadd := qlay (st2.out.add _ bl2.out own' hb'); obtain ⟨a', k', q', rfl⟩ := own_slice own'; clear r' own' hb') | (rw [if_pos (by rfl)]; go_simp; refine (qg_string _ sts.out.drew bls.out.drew).mono ?_; rintro e V ⟨rfl, st2, bl2⟩; have c2 := cell_of_row _ _ 0 _ _ _ st2.r1; have c3 := st2.cell1; have st2 := qlay st2; have bl2 := qlay bl2; go_wp2_with fail))
    all_goals (go_wp2_with fail; go_meet; exact ⟨_, hadd.out⟩)
  case rest =>
  clear sts bls c
  obtain ⟨v2, st0, bl0⟩ := hcut
  have st := qlay st0; have bl := qlay bl0; clear st0 bl0
  go_wp2_with fail
  refine (qg_reset st.out bl.out).mono ?_
  rintro e V0 ⟨rfl, st0, bl0⟩
  have c := st0.at 0 p0 rfl
  have sts := qlay st0; have bls := qlay bl0; clear st bl st0 bl0
  go_wp2_with fail
  refine (qg_write [] p0 sts.out bls.out (by (try simp only [List.length_append, List.length_nil]); omega)).mono ?_
  rintro e V1 ⟨rfl, st1, bl1⟩
  clear c sts bls
  have sts := qlay st1; have bls : Shut (Bld (n + 2) (p0) V1) := bl1; have c := st1.at 1 p1 rfl; clear st1 bl1
  go_wp2_with fail
  refine (qg_write p0 p1 sts.out bls.out (by (try simp only [List.length_append, List.length_nil]); omega)).mono ?_
  rintro e V2 ⟨rfl, st2, bl2⟩
  clear c sts bls
  have sts := qlay st2; have bls : Shut (Bld (n + 2) (p0 ++ p1) V2) := bl2; have c := st2.at 3 p3 rfl; clear st2 bl2
  go_wp2_with fail
  refine (qg_write (p0 ++ p1) p3 sts.out bls.out (by (try simp only [List.length_append, List.length_nil]); omega)).mono ?_
  rintro e V3 ⟨rfl, st3, bl3⟩
  clear c sts bls
  have sts := qlay st3; have bls : Shut (Bld (n + 2) (p0 ++ p1 ++ p3) V3) := bl3; have c := st3.at 4 p4 rfl; clear st3 bl3
  go_wp2_with fail
  refine (qg_write (p0 ++ p1 ++ p3) p4 sts.out bls.out (by (try simp only [List.length_append, List.length_nil]); omega)).mono ?_
  rintro e V4 ⟨rfl, st4, bl4⟩
  clear c sts bls
  have sts := qlay st4; have bls : Shut (Bld (n + 2) (p0 ++ p1 ++ p3 ++ p4) V4) := bl4; have c := st4.at 5 p5 rfl; clear st4 bl4
  go_wp2_with fail
  refine (qg_write (p0 ++ p1 ++ p3 ++ p4) p5 sts.out bls.out (by (try simp only [List.length_append, List.length_nil]); omega)).mono ?_
  rintro e V5 ⟨rfl, st5, bl5⟩
  clear c sts bls
  have sts := qlay st5; have bls : Shut (Bld (n + 2) (p0 ++ p1 ++ p3 ++ p4 ++ p5) V5) := bl5; have c := st5.at 6 p6 rfl; clear st5 bl5
  go_wp2_with fail
  refine (qg_write (p0 ++ p1 ++ p3 ++ p4 ++ p5) p6 sts.out bls.out (by (try simp only [List.length_append, List.length_nil]); omega)).mono ?_
  rintro e V6 ⟨rfl, st6, bl6⟩
  clear c sts bls
  have sts := qlay st6; have bls : Shut (Bld (n + 2) (p0 ++ p1 ++ p3 ++ p4 ++ p5 ++ p6) V6) := bl6; have c := st6.at 7 p7 rfl; clear st6 bl6
  go_wp2_with fail
  refine (qg_write (p0 ++ p1 ++ p3 ++ p4 ++ p5 ++ p6) p7 sts.out bls.out (by (try simp only [List.length_append, List.length_nil]); omega)).mono ?_
  rintro e V7 ⟨rfl, st7, bl7⟩
  clear c sts bls
  have sts := qlay st7; have bls : Shut (Bld (n + 2) (p0 ++ p1 ++ p3 ++ p4 ++ p5 ++ p6 ++ p7) V7) := bl7; have c := cell_of_row _ _ 0 _ _ _ st7.r1; clear st7 bl7
  obtain ⟨T3, hT3⟩ : ∃ T3 : List UInt8, p0 ++ p1 ++ p3 ++ p4 ++ p5 ++ p6 ++ p7 = T3 := ⟨_, rfl⟩
  rw [hT3] at bls
  obtain ⟨va, vk, vc, rfl⟩ := sts.out.slice
  go_wp2_with fail
  go_cut [] (fun wx => ∃ v', GoSt n w [p0, p1, p2, p3, p4, p5, p6, p7] v' ([] ++ [T1] ++ [T2] ++ [T3]) wx ∧ BldAny (n + 2) wx)
  case first =>
    go_region_law (first | (refine step_append1 (w := V) rfl _ _ rfl Tryd.underlying25 hib hz0 hz1 hz2 rfl (by decide) rfl (n + 3) _ _ _ st2.out.own (by simp) st2.out.sz rfl rfl ?_; intro v' w' own' hb'; have r' := (hb'.block (n + 1) (by omega)).trans st2.out.r1; have c' := cell_of_row _ _ 0 _ _ _ r'; have f' := frozen_of_row _ (n + 1) 0 _ _ r'; have hadd := qlay (st2.out.add _ bl2.out own' hb'); obtain ⟨a', k', q', rfl⟩ := own_slice own'; clear r' own' hb') | (rw [if_pos (by rfl)]; go_simp; refine (qg_string _ sts.out.drew bls.out.drew).mono ?_; rintro e V ⟨rfl, st2, bl2⟩; have c2 := cell_of_row _ _ 0 _ _ _ st2.r1; have c3 := st2.cell1; have st2 := qlay st2; have bl2 := qlay bl2; go_wp2_with fail))
    all_goals (go_wp2_with fail; go_meet; exact ⟨_, hadd.out⟩)
  case rest =>
  clear sts bls c
  obtain ⟨v3, st0, bl0⟩ := hcut
  have st := qlay st0; have bl := qlay bl0; clear st0 bl0
  obtain ⟨va, vk, vc, rfl⟩ := st.out.slice
  have c := cell_of_row _ _ 0 _ _ _ st.out.r1
  go_wp2_with fail
  go_ret
  subst hn hT1 hT2 hT3
  exact ⟨_, rfl, own_mono st.out.own (by omega), st.out.bel⟩
end Go.Proofs.YtnpklkenjaambaaDoor
