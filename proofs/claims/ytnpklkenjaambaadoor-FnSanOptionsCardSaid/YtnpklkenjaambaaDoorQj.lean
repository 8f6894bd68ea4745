/- The other texts that a text of a piece's move may stand for: the thin package's answer, and whether all texts of a list are in another one. -/
import Derived.Test.YtnpklkenjaambaaDoorQi
namespace Go.Proofs.YtnpklkenjaambaaDoor
open Go Go.RowKit
set_option maxHeartbeats 8000000
set_option linter.unusedSimpArgs false
set_option linter.unusedVariables false
set_option maxRecDepth 100000

theorem qj_idle (p q : Addr) (w : World) :
    CallsD Tryd.prog 20 #[.pointer (some p), .pointer (some q)] .returning w fun e u' w' => e = .returned (.tuple #[]) ∧ u' = .returning ∧ w = w' := by
  refine callsD_of_wpS Tryd.func20 rfl fun c₀ cs hu => ?_
  apply wpS_seq
  apply wpS_region
  simp [wpOpsS, go_sem, recoverD, hu, Tryd.ntmps20, Exit.thenS]
  refine wpS_cond (t := false) (by simp [Act.eval, Array.replicate]) ?_
  simp only [Bool.false_eq_true, if_false]
  refine wpS_of_wp (wp_skip ?_)
  cases c₀
  simp_all [bodyPostS, results, Tryd.results20]
theorem qj_impl (T : List UInt8) (b c d : Nat) (hl : T.length ≤ 200) (hb : b ≤ 1) (hc : c ≤ 1) (hd : d ≤ 1) (hp : atB pcsL T 0 = true) (hok : okC T 1 b c d = true) (hpr : prL T (1 + b + c + d + 2) = 0) (htl : tailB (T.drop (1 + b + c + d + 2)) = true) (w : World) :
    Calls Tryd.prog 7 #[.string (bs T)] w fun e w' => ∃ v, e = .returned (.tuple #[v, .bool true]) ∧ w'.ownsRow w.heap.size 9 1 v 3 (strsV (optsL (eightL T b c d))) ∧ Below w.heap.size w w' := by
  have hdoor := qlay (qi_door T b c d hl hb hc hd hp hok hpr htl)
  obtain ⟨ib, hib, hz0, hz1, hz2⟩ := info_parts (show (Tryd.prog.info? 9).map (fun i => (i.zero, i.size, i.bytes)) = some (some (.string ByteArray.empty), 1, 16) by kernel_rfl)
  clear hp hok hpr htl
  generalize optsL (eightL T b c d) = os at *
  have hmf := makeFunc_run Tryd.prog
  go_enter_defers Tryd.func7, Tryd.ntmps7
  go_wp2_with fail
  refine (hdoor.out _).mono ?_
  rintro e w1 ⟨v, rfl, hown, q1⟩
  obtain ⟨k0, k1, k2, k3, k4⟩ := two_cells q1
  have hA : w1.heap[w.heap.size]? = some (.cells #[.slice none 0 0] 25 (0, 0)) := (q1.block _ (by simp; omega)).trans (heap_alloc2_old w _ _)
  have hB : w1.heap[w.heap.size + 1]? = some (.cells #[.bool false] 4 (0, 0)) := (q1.block _ (by simp)).trans (heap_alloc2_new w _ _)
  have hb1 := two_below q1
  have hown2 : w1.ownsRow (w.heap.size + 2) 9 1 v 3 (strsV os) := own_mono hown (by simp)
  obtain ⟨va, vk, vc, rfl⟩ := own_slice hown
  clear q1 hown hdoor
  go_wp2_with fail
  have hA2 : (w1.setCell ⟨w.heap.size, 0, none⟩ (.slice va vk vc)).heap[w.heap.size]? = some (.cells #[.slice va vk vc] 25 (0, 0)) := heap_setCell_same _ _ 0 _ _ _ hA
  have hB2 := (heap_setCell_other w1 ⟨w.heap.size, 0, none⟩ (w.heap.size + 1) (.slice va vk vc) (by simp)).trans hB
  have hb2 := qlay (hb1.setCell (p := ⟨w.heap.size, 0, none⟩) (Nat.le_refl _) (.slice va vk vc))
  have hown3 : (w1.setCell ⟨w.heap.size, 0, none⟩ (.slice va vk vc)).ownsRow (w.heap.size + 2) 9 1 (.slice va vk vc) 3 (strsV os) := ownsRow_setCell_below hown2 (by simp) _
  have hs2 : w.heap.size + 1 < (w1.setCell ⟨w.heap.size, 0, none⟩ (.slice va vk vc)).heap.size := by simpa using k4
  clear k0 k1 k2 k3 hA hB hb1 hown2 k4 hmf
  generalize w1.setCell ⟨w.heap.size, 0, none⟩ (.slice va vk vc) = W at *
  have c0 := cell_of_row W w.heap.size 0 _ _ _ hA2
  refine wp_region_noPanic ?_
  go_region_law (refine step_append_copy (w := W.drew) rfl _ _ rfl Tryd.underlying25 hib hz0 hz1 hz2 rfl (by decide) _ (.slice va vk vc) _ _ hown3 (strsV_one _) (by decide) rfl rfl ?_; intro v' w' own' hb'; have r0' := (hb'.block w.heap.size (by show _ < W.heap.size; omega)).trans hA2; have r1' := (hb'.block (w.heap.size + 1) (by show _ < W.heap.size; omega)).trans hB2; have f0' := frozen_of_row _ _ 0 _ _ r0'; have c0' := cell_of_row _ _ 0 _ _ _ r0'; have f1' := frozen_of_row _ _ 0 _ _ r1'; have c1' := cell_of_row _ _ 0 _ _ _ r1'; obtain ⟨pa, pn, pc, rfl⟩ := own_slice own')
  have hs3 := hb'.size
  have hs4 : W.drew.heap.size = W.heap.size := rfl
  have ra := heap_setCell_same w' w.heap.size 0 _ _ (.slice pa pn pc) r0'
  have rb := (heap_setCell_other w' ⟨w.heap.size, 0, none⟩ (w.heap.size + 1) (.slice pa pn pc) (by simp)).trans r1'
  have ra2 := (heap_setCell_other (w'.setCell ⟨w.heap.size, 0, none⟩ (.slice pa pn pc)) ⟨w.heap.size + 1, 0, none⟩ w.heap.size (.bool true) (by simp)).trans ra
  have rb2 := heap_setCell_same (w'.setCell ⟨w.heap.size, 0, none⟩ (.slice pa pn pc)) (w.heap.size + 1) 0 _ _ (.bool true) rb
  have ho := ownsRow_setCell_below (ownsRow_setCell_below own' (a := ⟨w.heap.size, 0, none⟩) (by show w.heap.size < W.heap.size; omega) (.slice pa pn pc)) (a := ⟨w.heap.size + 1, 0, none⟩) (by show w.heap.size + 1 < W.heap.size; omega) (.bool true)
  have ho2 := own_mono ho (show w.heap.size ≤ W.drew.heap.size by rw [hs4]; omega)
  have hbf := (((hb2.out.drew).trans (hb'.mono (by rw [hs4]; omega))).setCell (p := ⟨w.heap.size, 0, none⟩) (Nat.le_refl _) (.slice pa pn pc)).setCell (p := ⟨w.heap.size + 1, 0, none⟩) (by simp) (.bool true)
  clear ho own' hb' r0' r1' f0' c0' f1' c1' ra rb hA2 hB2 hown3 c0 hb2
  generalize (w'.setCell ⟨w.heap.size, 0, none⟩ (.slice pa pn pc)).setCell ⟨w.heap.size + 1, 0, none⟩ (.bool true) = Z at *
  have k0 : Z.cell? ⟨w.heap.size, 0, none⟩ = some (.slice pa pn pc) := cell_of_row _ _ 0 _ _ _ ra2
  have k1 : Z.cell? ⟨w.heap.size + 1, 0, none⟩ = some (.bool true) := cell_of_row _ _ 0 _ _ _ rb2
  refine NoPanic.normal ?_
  go_wp2_with fail
  refine leaves_cons (f := 20) (args := #[.pointer (some ⟨w.heap.size, 0, none⟩), .pointer (some ⟨w.heap.size + 1, 0, none⟩)]) (by simp) (by simp [go_sem]) ?_
  refine (qj_idle _ _ _).mono ?_
  rintro e u' w'' ⟨rfl, rfl, rfl⟩
  simp [Leaves, settle, results, Tryd.results7, go_sem, k0, k1]
  exact ⟨ho2, hbf⟩
/-- Whether all texts of a list are in another one: they are. -/
theorem qj_within (xs ys : List (List UInt8)) (g h c1 c2 : Nat) (w : World) (hl1 : xs.length ≤ 1000) (hl2 : ys.length ≤ 1000) (hx : ∀ k, k < xs.length → w.cell? ⟨g, k, none⟩ = some (.string (bs (xs.getD k [])))) (hy : ∀ k, k < ys.length → w.cell? ⟨h, k, none⟩ = some (.string (bs (ys.getD k [])))) (hsub : ∀ k, k < xs.length → ys.contains (xs.getD k []) = true) :
    Calls Tryd.prog 8 #[.slice (some ⟨g, 0, none⟩) xs.length c1, .slice (some ⟨h, 0, none⟩) ys.length c2] w fun e w' => e = .returned (.bool true) ∧ ∃ q, w' = w.drewN q := by
  have hxs := qlay hx
  have hys := qlay hy
  have hsubs := qlay hsub
  clear hx hy hsub
  go_enter Tryd.func8, Tryd.ntmps8
  go_wp2_with fail
  go_loopw [5, 6, 7] (fun i _ _ wr => ∃ ii : Nat, ii ≤ xs.length ∧ i = .int .i64 (ii : Int) ∧ ∃ q, wr = w.drewN q) (fun i _ _ _ => xs.length - (intOf i).toNat)
  case atStart => exact ⟨0, by omega, rfl, 0, rfl⟩
  case round =>
    obtain ⟨ii, hii, rfl, q, rfl⟩ := hrel
    by_cases hlt : ii < xs.length
    · have hlz : (ii : Int) < (xs.length : Int) := by omega
      have hcx := hxs.out ii hlt
      have hct := qlay (hsubs.out ii hlt)
      generalize xs.getD ii [] = x at *
      go_wp2_with fail
      go_loopw [6, 7] (fun f k wr => ∃ kk : Nat, kk ≤ ys.length ∧ k = .int .i64 (kk : Int) ∧ f = .bool ((ys.take kk).contains x) ∧ ∃ q, wr = w.drewN q) (fun _ k _ => ys.length - (intOf k).toNat)
      case atStart => exact ⟨0, by omega, rfl, by simp, q, rfl⟩
      case round =>
        obtain ⟨kk, hkk, rfl, rfl, q, rfl⟩ := hrel
        by_cases hlk : kk < ys.length
        · have hkz : (kk : Int) < (ys.length : Int) := by omega
          have hcy := hys.out kk hlk
          have hst : Shut ((ys.take (kk + 1)).contains x = ((ys.take kk).contains x || (x == ys.getD kk []))) := by
            show _ = _
            rw [List.take_add_one, List.contains_eq_any_beq, List.contains_eq_any_beq, List.any_append]
            simp [hlk]
          generalize ys.getD kk [] = y at *
          have heq : ((bs x).toList == (bs y).toList) = (x == y) := by rw [bs_list, bs_list]
          cases hf : (ys.take kk).contains x with
          | true =>
            rw [hf] at hst
            have hst2 : Shut ((ys.take (kk + 1)).contains x = true) := by show _ = _; rw [hst.out]; rfl
            go_wp2_with fail
            go_quiet (fail)
            go_wp2
            go_roundw
            case rel => exact ⟨kk + 1, by omega, by go_num, by rw [hst2.out], _, rfl⟩
            case measure => simp [intOf]; omega
          | false =>
            rw [hf] at hst
            cases hxy : (x == y) with
            | true =>
              rw [hxy] at hst heq
              have hst2 : Shut ((ys.take (kk + 1)).contains x = true) := by show _ = _; rw [hst.out]; rfl
              go_wp2_with fail
              go_quiet (fail)
              go_wp2
              go_roundw
              case rel => exact ⟨kk + 1, by omega, by go_num, by rw [hst2.out], _, rfl⟩
              case measure => simp [intOf]; omega
            | false =>
              rw [hxy] at hst heq
              have hst2 : Shut ((ys.take (kk + 1)).contains x = false) := by show _ = _; rw [hst.out]; rfl
              go_wp2_with fail
              go_quiet (fail)
              go_wp2
              go_roundw
              case rel => exact ⟨kk + 1, by omega, by go_num, by rw [hst2.out], _, rfl⟩
              case measure => simp [intOf]; omega
        · obtain rfl : kk = ys.length := by omega
          have htk : (ys.take ys.length).contains x = true := by rw [List.take_length]; exact hct.out
          rw [htk]
          go_wp2_with fail
          go_roundw
          case rel => exact ⟨ii + 1, by omega, by go_num, q, rfl⟩
          case measure => simp [intOf]; omega
    · obtain rfl : ii = xs.length := by omega
      go_wp2_with fail
      go_ret
      exact ⟨rfl, q, rfl⟩
end Go.Proofs.YtnpklkenjaambaaDoor
