/- FnPoCastle: castling in a book goes as a move of the king, and is told to castle. For all four; no further condition. -/
import Derived.Test.YthicpbmojnjiiaaDoorPe
namespace Go.Proofs.YthicpbmojnjiiaaDoor
open Go Go.RowKit
set_option maxHeartbeats 4000000
set_option linter.unusedSimpArgs false
set_option linter.unusedVariables false
set_option maxRecDepth 100000

theorem pf_lay {p : Prop} (h : p) : Shut p := h
theorem mv_info (a b t : Int) : (Tryd.prog.info? 45).map (·.size) = some (mvCells a b t).size := by kernel_rfl
theorem mv_one (a b t : Int) : (mvCells a b t).all (·.oneCell') = true := by simp [mvCells, Value.oneCell']
theorem mv_set (a b t u : Int) : (mvCells a b t).setIfInBounds 7 (.int .u16 u) = mvCells a b u := rfl
theorem pf_move00 (w : World) :
    Calls Tryd.prog 9 #[pdFields 4 0 7 0 0 true] w fun e w' => e = .returned (.agg (mvCells 4 6 1)) ∧ Below w.heap.size w w' := by
  have hcv : (convert 54 9 (.slice (some ⟨w.heap.size + 1 + 1, 0, none⟩) 4 5)).run Tryd.prog (((w.alloc (.cells #[.int .i64 4, .int .i64 0, .int .i64 7, .int .i64 0, .int .i64 0, .bool true] 34)).alloc (.cells #[.pointer none, .pointer none, .string ⟨#[]⟩, .string ⟨#[]⟩, .map none, .slice none 0 0, .int .u64 0, .int .u16 0, .int .i8 0, .int .i8 0, .int .i8 0] 45)).alloc (.cells #[.int .u8 101, .int .u8 49, .int .u8 103, .int .u8 49, .int .u8 0] 51)) = .ok (.string ⟨#[101, 49, 103, 49]⟩) (((w.alloc (.cells #[.int .i64 4, .int .i64 0, .int .i64 7, .int .i64 0, .int .i64 0, .bool true] 34)).alloc (.cells #[.pointer none, .pointer none, .string ⟨#[]⟩, .string ⟨#[]⟩, .map none, .slice none 0 0, .int .u64 0, .int .u16 0, .int .i8 0, .int .i8 0, .int .i8 0] 45)).alloc (.cells #[.int .u8 101, .int .u8 49, .int .u8 103, .int .u8 49, .int .u8 0] 51)) := by
    refine run_convert_bytes_back (P := Tryd.prog) _ 54 9 5 ⟨w.heap.size + 1 + 1, 0, none⟩ 5 [101, 49, 103, 49] Tryd.underlying54 Tryd.underlying5 Tryd.underlying9 (fun j hj => ?_)
    have e : (⟨w.heap.size + 1 + 1, 0, none⟩ : Addr).add j = ⟨w.heap.size + 1 + 1, j, none⟩ := by unfold Addr.add; split <;> simp_all
    rw [e, cell_of_row _ _ _ _ _ _ (heap_at _ _ (w.heap.size + 1 + 1) (by simp))]
    match j, hj with
    | 0, _ => rfl
    | 1, _ => rfl
    | 2, _ => rfl
    | 3, _ => rfl
  have r0 : (((w.alloc (.cells #[.int .i64 4, .int .i64 0, .int .i64 7, .int .i64 0, .int .i64 0, .bool true] 34)).alloc (.cells #[.pointer none, .pointer none, .string ⟨#[]⟩, .string ⟨#[]⟩, .map none, .slice none 0 0, .int .u64 0, .int .u16 0, .int .i8 0, .int .i8 0, .int .i8 0] 45)).alloc (.cells #[.int .u8 101, .int .u8 49, .int .u8 103, .int .u8 49, .int .u8 0] 51)).heap[w.heap.size]? = some (.cells #[.int .i64 4, .int .i64 0, .int .i64 7, .int .i64 0, .int .i64 0, .bool true] 34 (0, 0)) := heap_keep (heap_alloc2_old w _ _)
  have r1 : (((w.alloc (.cells #[.int .i64 4, .int .i64 0, .int .i64 7, .int .i64 0, .int .i64 0, .bool true] 34)).alloc (.cells #[.pointer none, .pointer none, .string ⟨#[]⟩, .string ⟨#[]⟩, .map none, .slice none 0 0, .int .u64 0, .int .u16 0, .int .i8 0, .int .i8 0, .int .i8 0] 45)).alloc (.cells #[.int .u8 101, .int .u8 49, .int .u8 103, .int .u8 49, .int .u8 0] 51)).heap[w.heap.size + 1]? = some (.cells (mvCells 0 0 0) 45 (0, 0)) := heap_keep (heap_alloc2_new w _ _)
  have hB : Below w.heap.size w (((w.alloc (.cells #[.int .i64 4, .int .i64 0, .int .i64 7, .int .i64 0, .int .i64 0, .bool true] 34)).alloc (.cells #[.pointer none, .pointer none, .string ⟨#[]⟩, .string ⟨#[]⟩, .map none, .slice none 0 0, .int .u64 0, .int .u16 0, .int .i8 0, .int .i8 0, .int .i8 0] 45)).alloc (.cells #[.int .u8 101, .int .u8 49, .int .u8 103, .int .u8 49, .int .u8 0] 51)) := (((Below.refl _ _).alloc (Nat.le_refl _) _).alloc (by simp) _).alloc (by simp; omega) _
  have hz : (((w.alloc (.cells #[.int .i64 4, .int .i64 0, .int .i64 7, .int .i64 0, .int .i64 0, .bool true] 34)).alloc (.cells #[.pointer none, .pointer none, .string ⟨#[]⟩, .string ⟨#[]⟩, .map none, .slice none 0 0, .int .u64 0, .int .u16 0, .int .i8 0, .int .i8 0, .int .i8 0] 45)).alloc (.cells #[.int .u8 101, .int .u8 49, .int .u8 103, .int .u8 49, .int .u8 0] 51)).heap.size = w.heap.size + 3 := by simp
  have r0s := pf_lay r0
  have r1s := pf_lay r1
  have hBs := pf_lay hB
  have hzs := pf_lay hz
  clear r0 r1 hB hz
  unfold pdFields
  go_enter Tryd.func9, Tryd.ntmps9
  go_wp2_with (go_at_call 13; refine (pe_conv 103 104 (by omega) _ _).mono ?_; rintro e1 w1 ⟨rfl, rfl⟩)
  refine (pe_decode00 _).mono ?_
  rintro e w1 ⟨g, rfl, hg, hgw, hb⟩
  have r0 := (hb.block w.heap.size (by rw [hzs.out]; omega)).trans r0s.out
  have r1 := (hb.block (w.heap.size + 1) (by rw [hzs.out]; omega)).trans r1s.out
  have hB1 := hBs.out.trans (hb.mono hBs.out.size)
  rw [hzs.out] at hgw
  have c0 := cell_of_row _ _ 0 _ _ _ r0
  have c2 := cell_of_row _ _ 2 _ _ _ r0
  have c5 := cell_of_row _ _ 5 _ _ _ r0
  simp at c0 c2 c5
  have r1' := (heap_setCell_other w1 ⟨g, 7, none⟩ (w.heap.size + 1) (.int .u16 1) (by simp; omega)).trans r1
  have hg' := heap_setCell_same w1 g 7 _ _ (.int .u16 1) hg
  rw [mv_set] at hg'
  have hB2 := pf_lay (hB1.setCell (p := ⟨g, 7, none⟩) (by simp; omega) (.int .u16 1))
  have hA := pf_lay (pe_addtag g 4 6 1 w1 hg (by decide))
  clear hb hB1 hBs r0s r1s hzs hcv r0 r1 hg
  generalize w1.setCell ⟨g, 7, none⟩ (.int .u16 1) = w2 at *
  go_wp2_with (first
    | (go_at_call 15; refine hA.out.mono ?_; rintro e3 w3 ⟨rfl, rfl⟩)
    | ((with_reducible refine at_load_row hg' Tryd.underlying45 rfl ?_ ?_ ?_); exact mv_info _ _ _; rfl)
    | ((with_reducible refine at_store_row (mvCells 4 6 1) r1' ?_ ?_ ?_ ?_ ?_ ?_); exact mv_info _ _ _; rfl; exact mv_one _ _ _; rfl; rfl))
  exact bodyPost_ret (v := .agg (mvCells 4 6 1)) (results_cell1 rfl _ _ (w.heap.size + 1) 45 (mvCells 4 6 1) (0, 0) _ rfl (setRow_heap _ _ _ _ _ _ r1') Tryd.underlying45 rfl (mv_info _ _ _)) rfl ⟨rfl, below_setRow' hB2.out (by omega) _⟩
theorem pf_poly00 (w : World) :
    Calls Tryd.prog 5 #[pdFields 4 0 7 0 0 true] w fun e w' => e = .returned (.tuple #[mvPlain 4 6, .int .i64 1]) ∧ Below w.heap.size w w' := by
  have hB : Below w.heap.size w ((w.alloc (.cells #[.int .i64 4, .int .i64 0, .int .i64 7, .int .i64 0, .int .i64 0, .bool true] 23)).alloc (.cells #[.int .i64 0, .int .i64 0, .int .i64 0] 28)) := ((Below.refl _ _).alloc (Nat.le_refl _) _).alloc (by simp) _
  have hz : ((w.alloc (.cells #[.int .i64 4, .int .i64 0, .int .i64 7, .int .i64 0, .int .i64 0, .bool true] 23)).alloc (.cells #[.int .i64 0, .int .i64 0, .int .i64 0] 28)).heap.size = w.heap.size + 2 := by simp
  have r1 : ((w.alloc (.cells #[.int .i64 4, .int .i64 0, .int .i64 7, .int .i64 0, .int .i64 0, .bool true] 23)).alloc (.cells #[.int .i64 0, .int .i64 0, .int .i64 0] 28)).heap[w.heap.size + 1]? = some (.cells #[.int .i64 0, .int .i64 0, .int .i64 0] 28 (0, 0)) := heap_alloc2_new w _ _
  have r1s := pf_lay r1
  have hBs := pf_lay hB
  have hzs := pf_lay hz
  clear hB hz r1
  unfold pdFields
  go_enter Tryd.func5, Tryd.ntmps5
  go_wp2_with fail
  refine (pd_poly 4 0 7 0 0 true _).mono ?_
  rintro e w1 ⟨rfl, q1⟩
  go_wp2_with fail
  refine (pf_move00 _).mono ?_
  rintro e w2 ⟨rfl, q2⟩
  have r2 := (q2.block _ (Nat.lt_of_lt_of_le (by rw [hzs.out]; omega) q1.size)).trans ((q1.block (w.heap.size + 1) (by rw [hzs.out]; omega)).trans r1s.out)
  have hB2 := hBs.out.trans ((q1.trans (q2.mono q1.size)).mono hBs.out.size)
  have hz2 := q1.size
  have hz3 := q2.size
  rw [hzs.out] at hz2
  clear q1 q2 r1s hBs hzs
  go_wp2_with ((with_reducible refine at_new_row (mvCells 4 6 1) ?_ ?_ ?_ ?_ ?_ ?_); exact mv_info _ _ _; rfl; exact mv_one _ _ _; rfl; rfl; intro W rW hW)
  refine (pe_plain _ 4 6 1 (by omega) (by omega) W rW).mono ?_
  rintro e w3 ⟨rfl, q3⟩
  have rW3 := (q3.block _ (Array.getElem?_eq_some_iff.1 rW).1).trans rW
  have r3 := (q3.block _ (Nat.lt_of_lt_of_le (by omega) hW.size)).trans ((hW.block (w.heap.size + 1) (by omega)).trans r2)
  have hB3 := pf_lay ((hB2.trans (hW.mono hB2.size)).trans (q3.mono (by have := hW.size; omega)))
  clear rW q3 hW r2 hB2
  have hT := pf_lay (pe_tags _ 4 6 1 w3 rW3)
  have c0 := cell_of_row _ _ 0 _ _ _ r3
  have c1 := cell_of_row _ _ 1 _ _ _ r3
  have c2 := cell_of_row _ _ 2 _ _ _ r3
  have f0 := frozen_of_row _ _ 0 _ _ r3
  have f1 := frozen_of_row _ _ 1 _ _ r3
  have f2 := frozen_of_row _ _ 2 _ _ r3
  unfold mvPlain
  go_wp2_with (first
    | (go_at_call 11; refine hT.out.mono ?_; rintro e4 w4 ⟨rfl, rfl⟩)
    | ((with_reducible refine at_store_row #[.int .i64 4, .int .i64 6, .int .i64 0] r3 ?_ ?_ ?_ ?_ ?_ ?_); rfl; rfl; rfl; rfl; rfl))
  have s1 := heap_setCell_same w3 (w.heap.size + 1) 0 _ _ (.int .i64 4) r3
  have s2 := heap_setCell_same _ (w.heap.size + 1) 1 _ _ (.int .i64 6) s1
  have s3 := heap_setCell_same _ (w.heap.size + 1) 2 _ _ (.int .i64 0) s2
  have s4 : (((w3.setCell ⟨w.heap.size + 1, 0, none⟩ (.int .i64 4)).setCell ⟨w.heap.size + 1, 1, none⟩ (.int .i64 6)).setCell ⟨w.heap.size + 1, 2, none⟩ (.int .i64 0)).heap[w.heap.size + 1]? = some (.cells #[.int .i64 4, .int .i64 6, .int .i64 0] 28 (0, 0)) := s3
  refine bodyPost_ret (v := .tuple #[.agg #[.int .i64 4, .int .i64 6, .int .i64 0], .int .i64 1]) ?_ rfl ⟨rfl, ?_⟩
  · exact results_cell_tmp rfl _ _ (w.heap.size + 1) 28 #[.int .i64 4, .int .i64 6, .int .i64 0] (0, 0) _ rfl s4 Tryd.underlying28 rfl (by kernel_rfl) (.int .i64 1) rfl
  · exact ((hB3.out.setCell (p := ⟨w.heap.size + 1, 0, none⟩) (by simp) _).setCell (p := ⟨w.heap.size + 1, 1, none⟩) (by simp) _).setCell (p := ⟨w.heap.size + 1, 2, none⟩) (by simp) _
theorem pf_law00 (w : World) :
    Calls Tryd.prog 3 #[.bool false, .bool false] w fun e w' => e = .returned (.bool true) ∧ Below w.heap.size w w' := by
  have hbits : bits .or .i64 256 7 = 263 := by decide
  go_enter Tryd.func3, Tryd.ntmps3
  go_wp2_with fail
  refine (pd_decoded 263 _ (by omega) (by omega)).mono ?_
  rintro e w1 ⟨rfl, q1⟩
  rw [show pdFields ((263 : Int) / 64 % 8) (263 / 512 % 8) (263 % 8) (263 / 8 % 8) (263 / 4096 % 8) (pdCast (263 / 64 % 8) (263 / 512 % 8) (263 % 8) (263 / 8 % 8)) = pdFields 4 0 7 0 0 true by kernel_rfl]
  unfold pdFields
  go_wp2_with fail
  refine (pf_poly00 _).mono ?_
  rintro e w2 ⟨rfl, q2⟩
  have rp := (q2.block _ (by simp)).trans (heap_alloc_new w1 (.cells #[.int .i64 4, .int .i64 0, .int .i64 7, .int .i64 0, .int .i64 0, .bool true] 23))
  have c5 := cell_of_row _ _ 5 _ _ _ (heap_keep (o' := .cells #[.int .i64 4, .int .i64 6, .int .i64 0] 28) rp)
  replace c5 := c5.trans (show _ = some (.bool true) from rfl)
  have hB := (q1.alloc q1.size (.cells #[.int .i64 4, .int .i64 0, .int .i64 7, .int .i64 0, .int .i64 0, .bool true] 23)).trans (q2.mono (Nat.le_trans q1.size (by simp)))
  clear q1 q2 rp
  unfold mvPlain
  go_wp2
  go_ret
  exact ⟨rfl, hB.alloc hB.size _⟩
theorem pf_move01 (w : World) :
    Calls Tryd.prog 9 #[pdFields 4 0 0 0 0 true] w fun e w' => e = .returned (.agg (mvCells 4 2 2)) ∧ Below w.heap.size w w' := by
  have hcv : (convert 54 9 (.slice (some ⟨w.heap.size + 1 + 1, 0, none⟩) 4 5)).run Tryd.prog (((w.alloc (.cells #[.int .i64 4, .int .i64 0, .int .i64 0, .int .i64 0, .int .i64 0, .bool true] 34)).alloc (.cells #[.pointer none, .pointer none, .string ⟨#[]⟩, .string ⟨#[]⟩, .map none, .slice none 0 0, .int .u64 0, .int .u16 0, .int .i8 0, .int .i8 0, .int .i8 0] 45)).alloc (.cells #[.int .u8 101, .int .u8 49, .int .u8 99, .int .u8 49, .int .u8 0] 51)) = .ok (.string ⟨#[101, 49, 99, 49]⟩) (((w.alloc (.cells #[.int .i64 4, .int .i64 0, .int .i64 0, .int .i64 0, .int .i64 0, .bool true] 34)).alloc (.cells #[.pointer none, .pointer none, .string ⟨#[]⟩, .string ⟨#[]⟩, .map none, .slice none 0 0, .int .u64 0, .int .u16 0, .int .i8 0, .int .i8 0, .int .i8 0] 45)).alloc (.cells #[.int .u8 101, .int .u8 49, .int .u8 99, .int .u8 49, .int .u8 0] 51)) := by
    refine run_convert_bytes_back (P := Tryd.prog) _ 54 9 5 ⟨w.heap.size + 1 + 1, 0, none⟩ 5 [101, 49, 99, 49] Tryd.underlying54 Tryd.underlying5 Tryd.underlying9 (fun j hj => ?_)
    have e : (⟨w.heap.size + 1 + 1, 0, none⟩ : Addr).add j = ⟨w.heap.size + 1 + 1, j, none⟩ := by unfold Addr.add; split <;> simp_all
    rw [e, cell_of_row _ _ _ _ _ _ (heap_at _ _ (w.heap.size + 1 + 1) (by simp))]
    match j, hj with
    | 0, _ => rfl
    | 1, _ => rfl
    | 2, _ => rfl
    | 3, _ => rfl
  have r0 : (((w.alloc (.cells #[.int .i64 4, .int .i64 0, .int .i64 0, .int .i64 0, .int .i64 0, .bool true] 34)).alloc (.cells #[.pointer none, .pointer none, .string ⟨#[]⟩, .string ⟨#[]⟩, .map none, .slice none 0 0, .int .u64 0, .int .u16 0, .int .i8 0, .int .i8 0, .int .i8 0] 45)).alloc (.cells #[.int .u8 101, .int .u8 49, .int .u8 99, .int .u8 49, .int .u8 0] 51)).heap[w.heap.size]? = some (.cells #[.int .i64 4, .int .i64 0, .int .i64 0, .int .i64 0, .int .i64 0, .bool true] 34 (0, 0)) := heap_keep (heap_alloc2_old w _ _)
  have r1 : (((w.alloc (.cells #[.int .i64 4, .int .i64 0, .int .i64 0, .int .i64 0, .int .i64 0, .bool true] 34)).alloc (.cells #[.pointer none, .pointer none, .string ⟨#[]⟩, .string ⟨#[]⟩, .map none, .slice none 0 0, .int .u64 0, .int .u16 0, .int .i8 0, .int .i8 0, .int .i8 0] 45)).alloc (.cells #[.int .u8 101, .int .u8 49, .int .u8 99, .int .u8 49, .int .u8 0] 51)).heap[w.heap.size + 1]? = some (.cells (mvCells 0 0 0) 45 (0, 0)) := heap_keep (heap_alloc2_new w _ _)
  have hB : Below w.heap.size w (((w.alloc (.cells #[.int .i64 4, .int .i64 0, .int .i64 0, .int .i64 0, .int .i64 0, .bool true] 34)).alloc (.cells #[.pointer none, .pointer none, .string ⟨#[]⟩, .string ⟨#[]⟩, .map none, .slice none 0 0, .int .u64 0, .int .u16 0, .int .i8 0, .int .i8 0, .int .i8 0] 45)).alloc (.cells #[.int .u8 101, .int .u8 49, .int .u8 99, .int .u8 49, .int .u8 0] 51)) := (((Below.refl _ _).alloc (Nat.le_refl _) _).alloc (by simp) _).alloc (by simp; omega) _
  have hz : (((w.alloc (.cells #[.int .i64 4, .int .i64 0, .int .i64 0, .int .i64 0, .int .i64 0, .bool true] 34)).alloc (.cells #[.pointer none, .pointer none, .string ⟨#[]⟩, .string ⟨#[]⟩, .map none, .slice none 0 0, .int .u64 0, .int .u16 0, .int .i8 0, .int .i8 0, .int .i8 0] 45)).alloc (.cells #[.int .u8 101, .int .u8 49, .int .u8 99, .int .u8 49, .int .u8 0] 51)).heap.size = w.heap.size + 3 := by simp
  have r0s := pf_lay r0
  have r1s := pf_lay r1
  have hBs := pf_lay hB
  have hzs := pf_lay hz
  clear r0 r1 hB hz
  unfold pdFields
  go_enter Tryd.func9, Tryd.ntmps9
  go_wp2_with (go_at_call 13; refine (pe_conv 99 97 (by omega) _ _).mono ?_; rintro e1 w1 ⟨rfl, rfl⟩)
  refine (pe_decode01 _).mono ?_
  rintro e w1 ⟨g, rfl, hg, hgw, hb⟩
  have r0 := (hb.block w.heap.size (by rw [hzs.out]; omega)).trans r0s.out
  have r1 := (hb.block (w.heap.size + 1) (by rw [hzs.out]; omega)).trans r1s.out
  have hB1 := hBs.out.trans (hb.mono hBs.out.size)
  rw [hzs.out] at hgw
  have c0 := cell_of_row _ _ 0 _ _ _ r0
  have c2 := cell_of_row _ _ 2 _ _ _ r0
  have c5 := cell_of_row _ _ 5 _ _ _ r0
  simp at c0 c2 c5
  have r1' := (heap_setCell_other w1 ⟨g, 7, none⟩ (w.heap.size + 1) (.int .u16 2) (by simp; omega)).trans r1
  have hg' := heap_setCell_same w1 g 7 _ _ (.int .u16 2) hg
  rw [mv_set] at hg'
  have hB2 := pf_lay (hB1.setCell (p := ⟨g, 7, none⟩) (by simp; omega) (.int .u16 2))
  have hA := pf_lay (pe_addtag g 4 2 2 w1 hg (by decide))
  clear hb hB1 hBs r0s r1s hzs hcv r0 r1 hg
  generalize w1.setCell ⟨g, 7, none⟩ (.int .u16 2) = w2 at *
  go_wp2_with (first
    | (go_at_call 15; refine hA.out.mono ?_; rintro e3 w3 ⟨rfl, rfl⟩)
    | ((with_reducible refine at_load_row hg' Tryd.underlying45 rfl ?_ ?_ ?_); exact mv_info _ _ _; rfl)
    | ((with_reducible refine at_store_row (mvCells 4 2 2) r1' ?_ ?_ ?_ ?_ ?_ ?_); exact mv_info _ _ _; rfl; exact mv_one _ _ _; rfl; rfl))
  exact bodyPost_ret (v := .agg (mvCells 4 2 2)) (results_cell1 rfl _ _ (w.heap.size + 1) 45 (mvCells 4 2 2) (0, 0) _ rfl (setRow_heap _ _ _ _ _ _ r1') Tryd.underlying45 rfl (mv_info _ _ _)) rfl ⟨rfl, below_setRow' hB2.out (by omega) _⟩
theorem pf_poly01 (w : World) :
    Calls Tryd.prog 5 #[pdFields 4 0 0 0 0 true] w fun e w' => e = .returned (.tuple #[mvPlain 4 2, .int .i64 2]) ∧ Below w.heap.size w w' := by
  have hB : Below w.heap.size w ((w.alloc (.cells #[.int .i64 4, .int .i64 0, .int .i64 0, .int .i64 0, .int .i64 0, .bool true] 23)).alloc (.cells #[.int .i64 0, .int .i64 0, .int .i64 0] 28)) := ((Below.refl _ _).alloc (Nat.le_refl _) _).alloc (by simp) _
  have hz : ((w.alloc (.cells #[.int .i64 4, .int .i64 0, .int .i64 0, .int .i64 0, .int .i64 0, .bool true] 23)).alloc (.cells #[.int .i64 0, .int .i64 0, .int .i64 0] 28)).heap.size = w.heap.size + 2 := by simp
  have r1 : ((w.alloc (.cells #[.int .i64 4, .int .i64 0, .int .i64 0, .int .i64 0, .int .i64 0, .bool true] 23)).alloc (.cells #[.int .i64 0, .int .i64 0, .int .i64 0] 28)).heap[w.heap.size + 1]? = some (.cells #[.int .i64 0, .int .i64 0, .int .i64 0] 28 (0, 0)) := heap_alloc2_new w _ _
  have r1s := pf_lay r1
  have hBs := pf_lay hB
  have hzs := pf_lay hz
  clear hB hz r1
  unfold pdFields
  go_enter Tryd.func5, Tryd.ntmps5
  go_wp2_with fail
  refine (pd_poly 4 0 0 0 0 true _).mono ?_
  rintro e w1 ⟨rfl, q1⟩
  go_wp2_with fail
  refine (pf_move01 _).mono ?_
  rintro e w2 ⟨rfl, q2⟩
  have r2 := (q2.block _ (Nat.lt_of_lt_of_le (by rw [hzs.out]; omega) q1.size)).trans ((q1.block (w.heap.size + 1) (by rw [hzs.out]; omega)).trans r1s.out)
  have hB2 := hBs.out.trans ((q1.trans (q2.mono q1.size)).mono hBs.out.size)
  have hz2 := q1.size
  have hz3 := q2.size
  rw [hzs.out] at hz2
  clear q1 q2 r1s hBs hzs
  go_wp2_with ((with_reducible refine at_new_row (mvCells 4 2 2) ?_ ?_ ?_ ?_ ?_ ?_); exact mv_info _ _ _; rfl; exact mv_one _ _ _; rfl; rfl; intro W rW hW)
  refine (pe_plain _ 4 2 2 (by omega) (by omega) W rW).mono ?_
  rintro e w3 ⟨rfl, q3⟩
  have rW3 := (q3.block _ (Array.getElem?_eq_some_iff.1 rW).1).trans rW
  have r3 := (q3.block _ (Nat.lt_of_lt_of_le (by omega) hW.size)).trans ((hW.block (w.heap.size + 1) (by omega)).trans r2)
  have hB3 := pf_lay ((hB2.trans (hW.mono hB2.size)).trans (q3.mono (by have := hW.size; omega)))
  clear rW q3 hW r2 hB2
  have hT := pf_lay (pe_tags _ 4 2 2 w3 rW3)
  have c0 := cell_of_row _ _ 0 _ _ _ r3
  have c1 := cell_of_row _ _ 1 _ _ _ r3
  have c2 := cell_of_row _ _ 2 _ _ _ r3
  have f0 := frozen_of_row _ _ 0 _ _ r3
  have f1 := frozen_of_row _ _ 1 _ _ r3
  have f2 := frozen_of_row _ _ 2 _ _ r3
  unfold mvPlain
  go_wp2_with (first
    | (go_at_call 11; refine hT.out.mono ?_; rintro e4 w4 ⟨rfl, rfl⟩)
    | ((with_reducible refine at_store_row #[.int .i64 4, .int .i64 2, .int .i64 0] r3 ?_ ?_ ?_ ?_ ?_ ?_); rfl; rfl; rfl; rfl; rfl))
  have s1 := heap_setCell_same w3 (w.heap.size + 1) 0 _ _ (.int .i64 4) r3
  have s2 := heap_setCell_same _ (w.heap.size + 1) 1 _ _ (.int .i64 2) s1
  have s3 := heap_setCell_same _ (w.heap.size + 1) 2 _ _ (.int .i64 0) s2
  have s4 : (((w3.setCell ⟨w.heap.size + 1, 0, none⟩ (.int .i64 4)).setCell ⟨w.heap.size + 1, 1, none⟩ (.int .i64 2)).setCell ⟨w.heap.size + 1, 2, none⟩ (.int .i64 0)).heap[w.heap.size + 1]? = some (.cells #[.int .i64 4, .int .i64 2, .int .i64 0] 28 (0, 0)) := s3
  refine bodyPost_ret (v := .tuple #[.agg #[.int .i64 4, .int .i64 2, .int .i64 0], .int .i64 2]) ?_ rfl ⟨rfl, ?_⟩
  · exact results_cell_tmp rfl _ _ (w.heap.size + 1) 28 #[.int .i64 4, .int .i64 2, .int .i64 0] (0, 0) _ rfl s4 Tryd.underlying28 rfl (by kernel_rfl) (.int .i64 2) rfl
  · exact ((hB3.out.setCell (p := ⟨w.heap.size + 1, 0, none⟩) (by simp) _).setCell (p := ⟨w.heap.size + 1, 1, none⟩) (by simp) _).setCell (p := ⟨w.heap.size + 1, 2, none⟩) (by simp) _
theorem pf_law01 (w : World) :
    Calls Tryd.prog 3 #[.bool false, .bool true] w fun e w' => e = .returned (.bool true) ∧ Below w.heap.size w w' := by
  have hbits : bits .or .i64 256 0 = 256 := by decide
  go_enter Tryd.func3, Tryd.ntmps3
  go_wp2_with fail
  refine (pd_decoded 256 _ (by omega) (by omega)).mono ?_
  rintro e w1 ⟨rfl, q1⟩
  rw [show pdFields ((256 : Int) / 64 % 8) (256 / 512 % 8) (256 % 8) (256 / 8 % 8) (256 / 4096 % 8) (pdCast (256 / 64 % 8) (256 / 512 % 8) (256 % 8) (256 / 8 % 8)) = pdFields 4 0 0 0 0 true by kernel_rfl]
  unfold pdFields
  go_wp2_with fail
  refine (pf_poly01 _).mono ?_
  rintro e w2 ⟨rfl, q2⟩
  have rp := (q2.block _ (by simp)).trans (heap_alloc_new w1 (.cells #[.int .i64 4, .int .i64 0, .int .i64 0, .int .i64 0, .int .i64 0, .bool true] 23))
  have c5 := cell_of_row _ _ 5 _ _ _ (heap_keep (o' := .cells #[.int .i64 4, .int .i64 2, .int .i64 0] 28) rp)
  replace c5 := c5.trans (show _ = some (.bool true) from rfl)
  have hB := (q1.alloc q1.size (.cells #[.int .i64 4, .int .i64 0, .int .i64 0, .int .i64 0, .int .i64 0, .bool true] 23)).trans (q2.mono (Nat.le_trans q1.size (by simp)))
  clear q1 q2 rp
  unfold mvPlain
  go_wp2
  go_ret
  exact ⟨rfl, hB.alloc hB.size _⟩
theorem pf_move10 (w : World) :
    Calls Tryd.prog 9 #[pdFields 4 7 7 7 0 true] w fun e w' => e = .returned (.agg (mvCells 60 62 1)) ∧ Below w.heap.size w w' := by
  have hcv : (convert 54 9 (.slice (some ⟨w.heap.size + 1 + 1, 0, none⟩) 4 5)).run Tryd.prog (((w.alloc (.cells #[.int .i64 4, .int .i64 7, .int .i64 7, .int .i64 7, .int .i64 0, .bool true] 34)).alloc (.cells #[.pointer none, .pointer none, .string ⟨#[]⟩, .string ⟨#[]⟩, .map none, .slice none 0 0, .int .u64 0, .int .u16 0, .int .i8 0, .int .i8 0, .int .i8 0] 45)).alloc (.cells #[.int .u8 101, .int .u8 56, .int .u8 103, .int .u8 56, .int .u8 0] 51)) = .ok (.string ⟨#[101, 56, 103, 56]⟩) (((w.alloc (.cells #[.int .i64 4, .int .i64 7, .int .i64 7, .int .i64 7, .int .i64 0, .bool true] 34)).alloc (.cells #[.pointer none, .pointer none, .string ⟨#[]⟩, .string ⟨#[]⟩, .map none, .slice none 0 0, .int .u64 0, .int .u16 0, .int .i8 0, .int .i8 0, .int .i8 0] 45)).alloc (.cells #[.int .u8 101, .int .u8 56, .int .u8 103, .int .u8 56, .int .u8 0] 51)) := by
    refine run_convert_bytes_back (P := Tryd.prog) _ 54 9 5 ⟨w.heap.size + 1 + 1, 0, none⟩ 5 [101, 56, 103, 56] Tryd.underlying54 Tryd.underlying5 Tryd.underlying9 (fun j hj => ?_)
    have e : (⟨w.heap.size + 1 + 1, 0, none⟩ : Addr).add j = ⟨w.heap.size + 1 + 1, j, none⟩ := by unfold Addr.add; split <;> simp_all
    rw [e, cell_of_row _ _ _ _ _ _ (heap_at _ _ (w.heap.size + 1 + 1) (by simp))]
    match j, hj with
    | 0, _ => rfl
    | 1, _ => rfl
    | 2, _ => rfl
    | 3, _ => rfl
  have r0 : (((w.alloc (.cells #[.int .i64 4, .int .i64 7, .int .i64 7, .int .i64 7, .int .i64 0, .bool true] 34)).alloc (.cells #[.pointer none, .pointer none, .string ⟨#[]⟩, .string ⟨#[]⟩, .map none, .slice none 0 0, .int .u64 0, .int .u16 0, .int .i8 0, .int .i8 0, .int .i8 0] 45)).alloc (.cells #[.int .u8 101, .int .u8 56, .int .u8 103, .int .u8 56, .int .u8 0] 51)).heap[w.heap.size]? = some (.cells #[.int .i64 4, .int .i64 7, .int .i64 7, .int .i64 7, .int .i64 0, .bool true] 34 (0, 0)) := heap_keep (heap_alloc2_old w _ _)
  have r1 : (((w.alloc (.cells #[.int .i64 4, .int .i64 7, .int .i64 7, .int .i64 7, .int .i64 0, .bool true] 34)).alloc (.cells #[.pointer none, .pointer none, .string ⟨#[]⟩, .string ⟨#[]⟩, .map none, .slice none 0 0, .int .u64 0, .int .u16 0, .int .i8 0, .int .i8 0, .int .i8 0] 45)).alloc (.cells #[.int .u8 101, .int .u8 56, .int .u8 103, .int .u8 56, .int .u8 0] 51)).heap[w.heap.size + 1]? = some (.cells (mvCells 0 0 0) 45 (0, 0)) := heap_keep (heap_alloc2_new w _ _)
  have hB : Below w.heap.size w (((w.alloc (.cells #[.int .i64 4, .int .i64 7, .int .i64 7, .int .i64 7, .int .i64 0, .bool true] 34)).alloc (.cells #[.pointer none, .pointer none, .string ⟨#[]⟩, .string ⟨#[]⟩, .map none, .slice none 0 0, .int .u64 0, .int .u16 0, .int .i8 0, .int .i8 0, .int .i8 0] 45)).alloc (.cells #[.int .u8 101, .int .u8 56, .int .u8 103, .int .u8 56, .int .u8 0] 51)) := (((Below.refl _ _).alloc (Nat.le_refl _) _).alloc (by simp) _).alloc (by simp; omega) _
  have hz : (((w.alloc (.cells #[.int .i64 4, .int .i64 7, .int .i64 7, .int .i64 7, .int .i64 0, .bool true] 34)).alloc (.cells #[.pointer none, .pointer none, .string ⟨#[]⟩, .string ⟨#[]⟩, .map none, .slice none 0 0, .int .u64 0, .int .u16 0, .int .i8 0, .int .i8 0, .int .i8 0] 45)).alloc (.cells #[.int .u8 101, .int .u8 56, .int .u8 103, .int .u8 56, .int .u8 0] 51)).heap.size = w.heap.size + 3 := by simp
  have r0s := pf_lay r0
  have r1s := pf_lay r1
  have hBs := pf_lay hB
  have hzs := pf_lay hz
  clear r0 r1 hB hz
  unfold pdFields
  go_enter Tryd.func9, Tryd.ntmps9
  go_wp2_with (go_at_call 13; refine (pe_conv 103 104 (by omega) _ _).mono ?_; rintro e1 w1 ⟨rfl, rfl⟩)
  refine (pe_decode10 _).mono ?_
  rintro e w1 ⟨g, rfl, hg, hgw, hb⟩
  have r0 := (hb.block w.heap.size (by rw [hzs.out]; omega)).trans r0s.out
  have r1 := (hb.block (w.heap.size + 1) (by rw [hzs.out]; omega)).trans r1s.out
  have hB1 := hBs.out.trans (hb.mono hBs.out.size)
  rw [hzs.out] at hgw
  have c0 := cell_of_row _ _ 0 _ _ _ r0
  have c2 := cell_of_row _ _ 2 _ _ _ r0
  have c5 := cell_of_row _ _ 5 _ _ _ r0
  simp at c0 c2 c5
  have r1' := (heap_setCell_other w1 ⟨g, 7, none⟩ (w.heap.size + 1) (.int .u16 1) (by simp; omega)).trans r1
  have hg' := heap_setCell_same w1 g 7 _ _ (.int .u16 1) hg
  rw [mv_set] at hg'
  have hB2 := pf_lay (hB1.setCell (p := ⟨g, 7, none⟩) (by simp; omega) (.int .u16 1))
  have hA := pf_lay (pe_addtag g 60 62 1 w1 hg (by decide))
  clear hb hB1 hBs r0s r1s hzs hcv r0 r1 hg
  generalize w1.setCell ⟨g, 7, none⟩ (.int .u16 1) = w2 at *
  go_wp2_with (first
    | (go_at_call 15; refine hA.out.mono ?_; rintro e3 w3 ⟨rfl, rfl⟩)
    | ((with_reducible refine at_load_row hg' Tryd.underlying45 rfl ?_ ?_ ?_); exact mv_info _ _ _; rfl)
    | ((with_reducible refine at_store_row (mvCells 60 62 1) r1' ?_ ?_ ?_ ?_ ?_ ?_); exact mv_info _ _ _; rfl; exact mv_one _ _ _; rfl; rfl))
  exact bodyPost_ret (v := .agg (mvCells 60 62 1)) (results_cell1 rfl _ _ (w.heap.size + 1) 45 (mvCells 60 62 1) (0, 0) _ rfl (setRow_heap _ _ _ _ _ _ r1') Tryd.underlying45 rfl (mv_info _ _ _)) rfl ⟨rfl, below_setRow' hB2.out (by omega) _⟩
theorem pf_poly10 (w : World) :
    Calls Tryd.prog 5 #[pdFields 4 7 7 7 0 true] w fun e w' => e = .returned (.tuple #[mvPlain 60 62, .int .i64 1]) ∧ Below w.heap.size w w' := by
  have hB : Below w.heap.size w ((w.alloc (.cells #[.int .i64 4, .int .i64 7, .int .i64 7, .int .i64 7, .int .i64 0, .bool true] 23)).alloc (.cells #[.int .i64 0, .int .i64 0, .int .i64 0] 28)) := ((Below.refl _ _).alloc (Nat.le_refl _) _).alloc (by simp) _
  have hz : ((w.alloc (.cells #[.int .i64 4, .int .i64 7, .int .i64 7, .int .i64 7, .int .i64 0, .bool true] 23)).alloc (.cells #[.int .i64 0, .int .i64 0, .int .i64 0] 28)).heap.size = w.heap.size + 2 := by simp
  have r1 : ((w.alloc (.cells #[.int .i64 4, .int .i64 7, .int .i64 7, .int .i64 7, .int .i64 0, .bool true] 23)).alloc (.cells #[.int .i64 0, .int .i64 0, .int .i64 0] 28)).heap[w.heap.size + 1]? = some (.cells #[.int .i64 0, .int .i64 0, .int .i64 0] 28 (0, 0)) := heap_alloc2_new w _ _
  have r1s := pf_lay r1
  have hBs := pf_lay hB
  have hzs := pf_lay hz
  clear hB hz r1
  unfold pdFields
  go_enter Tryd.func5, Tryd.ntmps5
  go_wp2_with fail
  refine (pd_poly 4 7 7 7 0 true _).mono ?_
  rintro e w1 ⟨rfl, q1⟩
  go_wp2_with fail
  refine (pf_move10 _).mono ?_
  rintro e w2 ⟨rfl, q2⟩
  have r2 := (q2.block _ (Nat.lt_of_lt_of_le (by rw [hzs.out]; omega) q1.size)).trans ((q1.block (w.heap.size + 1) (by rw [hzs.out]; omega)).trans r1s.out)
  have hB2 := hBs.out.trans ((q1.trans (q2.mono q1.size)).mono hBs.out.size)
  have hz2 := q1.size
  have hz3 := q2.size
  rw [hzs.out] at hz2
  clear q1 q2 r1s hBs hzs
  go_wp2_with ((with_reducible refine at_new_row (mvCells 60 62 1) ?_ ?_ ?_ ?_ ?_ ?_); exact mv_info _ _ _; rfl; exact mv_one _ _ _; rfl; rfl; intro W rW hW)
  refine (pe_plain _ 60 62 1 (by omega) (by omega) W rW).mono ?_
  rintro e w3 ⟨rfl, q3⟩
  have rW3 := (q3.block _ (Array.getElem?_eq_some_iff.1 rW).1).trans rW
  have r3 := (q3.block _ (Nat.lt_of_lt_of_le (by omega) hW.size)).trans ((hW.block (w.heap.size + 1) (by omega)).trans r2)
  have hB3 := pf_lay ((hB2.trans (hW.mono hB2.size)).trans (q3.mono (by have := hW.size; omega)))
  clear rW q3 hW r2 hB2
  have hT := pf_lay (pe_tags _ 60 62 1 w3 rW3)
  have c0 := cell_of_row _ _ 0 _ _ _ r3
  have c1 := cell_of_row _ _ 1 _ _ _ r3
  have c2 := cell_of_row _ _ 2 _ _ _ r3
  have f0 := frozen_of_row _ _ 0 _ _ r3
  have f1 := frozen_of_row _ _ 1 _ _ r3
  have f2 := frozen_of_row _ _ 2 _ _ r3
  unfold mvPlain
  go_wp2_with (first
    | (go_at_call 11; refine hT.out.mono ?_; rintro e4 w4 ⟨rfl, rfl⟩)
    | ((with_reducible refine at_store_row #[.int .i64 60, .int .i64 62, .int .i64 0] r3 ?_ ?_ ?_ ?_ ?_ ?_); rfl; rfl; rfl; rfl; rfl))
  have s1 := heap_setCell_same w3 (w.heap.size + 1) 0 _ _ (.int .i64 60) r3
  have s2 := heap_setCell_same _ (w.heap.size + 1) 1 _ _ (.int .i64 62) s1
  have s3 := heap_setCell_same _ (w.heap.size + 1) 2 _ _ (.int .i64 0) s2
  have s4 : (((w3.setCell ⟨w.heap.size + 1, 0, none⟩ (.int .i64 60)).setCell ⟨w.heap.size + 1, 1, none⟩ (.int .i64 62)).setCell ⟨w.heap.size + 1, 2, none⟩ (.int .i64 0)).heap[w.heap.size + 1]? = some (.cells #[.int .i64 60, .int .i64 62, .int .i64 0] 28 (0, 0)) := s3
  refine bodyPost_ret (v := .tuple #[.agg #[.int .i64 60, .int .i64 62, .int .i64 0], .int .i64 1]) ?_ rfl ⟨rfl, ?_⟩
  · exact results_cell_tmp rfl _ _ (w.heap.size + 1) 28 #[.int .i64 60, .int .i64 62, .int .i64 0] (0, 0) _ rfl s4 Tryd.underlying28 rfl (by kernel_rfl) (.int .i64 1) rfl
  · exact ((hB3.out.setCell (p := ⟨w.heap.size + 1, 0, none⟩) (by simp) _).setCell (p := ⟨w.heap.size + 1, 1, none⟩) (by simp) _).setCell (p := ⟨w.heap.size + 1, 2, none⟩) (by simp) _
theorem pf_law10 (w : World) :
    Calls Tryd.prog 3 #[.bool true, .bool false] w fun e w' => e = .returned (.bool true) ∧ Below w.heap.size w w' := by
  have hbits : bits .or .i64 3840 63 = 3903 := by decide
  go_enter Tryd.func3, Tryd.ntmps3
  go_wp2_with fail
  refine (pd_decoded 3903 _ (by omega) (by omega)).mono ?_
  rintro e w1 ⟨rfl, q1⟩
  rw [show pdFields ((3903 : Int) / 64 % 8) (3903 / 512 % 8) (3903 % 8) (3903 / 8 % 8) (3903 / 4096 % 8) (pdCast (3903 / 64 % 8) (3903 / 512 % 8) (3903 % 8) (3903 / 8 % 8)) = pdFields 4 7 7 7 0 true by kernel_rfl]
  unfold pdFields
  go_wp2_with fail
  refine (pf_poly10 _).mono ?_
  rintro e w2 ⟨rfl, q2⟩
  have rp := (q2.block _ (by simp)).trans (heap_alloc_new w1 (.cells #[.int .i64 4, .int .i64 7, .int .i64 7, .int .i64 7, .int .i64 0, .bool true] 23))
  have c5 := cell_of_row _ _ 5 _ _ _ (heap_keep (o' := .cells #[.int .i64 60, .int .i64 62, .int .i64 0] 28) rp)
  replace c5 := c5.trans (show _ = some (.bool true) from rfl)
  have hB := (q1.alloc q1.size (.cells #[.int .i64 4, .int .i64 7, .int .i64 7, .int .i64 7, .int .i64 0, .bool true] 23)).trans (q2.mono (Nat.le_trans q1.size (by simp)))
  clear q1 q2 rp
  unfold mvPlain
  go_wp2
  go_ret
  exact ⟨rfl, hB.alloc hB.size _⟩
theorem pf_move11 (w : World) :
    Calls Tryd.prog 9 #[pdFields 4 7 0 7 0 true] w fun e w' => e = .returned (.agg (mvCells 60 58 2)) ∧ Below w.heap.size w w' := by
  have hcv : (convert 54 9 (.slice (some ⟨w.heap.size + 1 + 1, 0, none⟩) 4 5)).run Tryd.prog (((w.alloc (.cells #[.int .i64 4, .int .i64 7, .int .i64 0, .int .i64 7, .int .i64 0, .bool true] 34)).alloc (.cells #[.pointer none, .pointer none, .string ⟨#[]⟩, .string ⟨#[]⟩, .map none, .slice none 0 0, .int .u64 0, .int .u16 0, .int .i8 0, .int .i8 0, .int .i8 0] 45)).alloc (.cells #[.int .u8 101, .int .u8 56, .int .u8 99, .int .u8 56, .int .u8 0] 51)) = .ok (.string ⟨#[101, 56, 99, 56]⟩) (((w.alloc (.cells #[.int .i64 4, .int .i64 7, .int .i64 0, .int .i64 7, .int .i64 0, .bool true] 34)).alloc (.cells #[.pointer none, .pointer none, .string ⟨#[]⟩, .string ⟨#[]⟩, .map none, .slice none 0 0, .int .u64 0, .int .u16 0, .int .i8 0, .int .i8 0, .int .i8 0] 45)).alloc (.cells #[.int .u8 101, .int .u8 56, .int .u8 99, .int .u8 56, .int .u8 0] 51)) := by
    refine run_convert_bytes_back (P := Tryd.prog) _ 54 9 5 ⟨w.heap.size + 1 + 1, 0, none⟩ 5 [101, 56, 99, 56] Tryd.underlying54 Tryd.underlying5 Tryd.underlying9 (fun j hj => ?_)
    have e : (⟨w.heap.size + 1 + 1, 0, none⟩ : Addr).add j = ⟨w.heap.size + 1 + 1, j, none⟩ := by unfold Addr.add; split <;> simp_all
    rw [e, cell_of_row _ _ _ _ _ _ (heap_at _ _ (w.heap.size + 1 + 1) (by simp))]
    match j, hj with
    | 0, _ => rfl
    | 1, _ => rfl
    | 2, _ => rfl
    | 3, _ => rfl
  have r0 : (((w.alloc (.cells #[.int .i64 4, .int .i64 7, .int .i64 0, .int .i64 7, .int .i64 0, .bool true] 34)).alloc (.cells #[.pointer none, .pointer none, .string ⟨#[]⟩, .string ⟨#[]⟩, .map none, .slice none 0 0, .int .u64 0, .int .u16 0, .int .i8 0, .int .i8 0, .int .i8 0] 45)).alloc (.cells #[.int .u8 101, .int .u8 56, .int .u8 99, .int .u8 56, .int .u8 0] 51)).heap[w.heap.size]? = some (.cells #[.int .i64 4, .int .i64 7, .int .i64 0, .int .i64 7, .int .i64 0, .bool true] 34 (0, 0)) := heap_keep (heap_alloc2_old w _ _)
  have r1 : (((w.alloc (.cells #[.int .i64 4, .int .i64 7, .int .i64 0, .int .i64 7, .int .i64 0, .bool true] 34)).alloc (.cells #[.pointer none, .pointer none, .string ⟨#[]⟩, .string ⟨#[]⟩, .map none, .slice none 0 0, .int .u64 0, .int .u16 0, .int .i8 0, .int .i8 0, .int .i8 0] 45)).alloc (.cells #[.int .u8 101, .int .u8 56, .int .u8 99, .int .u8 56, .int .u8 0] 51)).heap[w.heap.size + 1]? = some (.cells (mvCells 0 0 0) 45 (0, 0)) := heap_keep (heap_alloc2_new w _ _)
  have hB : Below w.heap.size w (((w.alloc (.cells #[.int .i64 4, .int .i64 7, .int .i64 0, .int .i64 7, .int .i64 0, .bool true] 34)).alloc (.cells #[.pointer none, .pointer none, .string ⟨#[]⟩, .string ⟨#[]⟩, .map none, .slice none 0 0, .int .u64 0, .int .u16 0, .int .i8 0, .int .i8 0, .int .i8 0] 45)).alloc (.cells #[.int .u8 101, .int .u8 56, .int .u8 99, .int .u8 56, .int .u8 0] 51)) := (((Below.refl _ _).alloc (Nat.le_refl _) _).alloc (by simp) _).alloc (by simp; omega) _
  have hz : (((w.alloc (.cells #[.int .i64 4, .int .i64 7, .int .i64 0, .int .i64 7, .int .i64 0, .bool true] 34)).alloc (.cells #[.pointer none, .pointer none, .string ⟨#[]⟩, .string ⟨#[]⟩, .map none, .slice none 0 0, .int .u64 0, .int .u16 0, .int .i8 0, .int .i8 0, .int .i8 0] 45)).alloc (.cells #[.int .u8 101, .int .u8 56, .int .u8 99, .int .u8 56, .int .u8 0] 51)).heap.size = w.heap.size + 3 := by simp
  have r0s := pf_lay r0
  have r1s := pf_lay r1
  have hBs := pf_lay hB
  have hzs := pf_lay hz
  clear r0 r1 hB hz
  unfold pdFields
  go_enter Tryd.func9, Tryd.ntmps9
  go_wp2_with (go_at_call 13; refine (pe_conv 99 97 (by omega) _ _).mono ?_; rintro e1 w1 ⟨rfl, rfl⟩)
  refine (pe_decode11 _).mono ?_
  rintro e w1 ⟨g, rfl, hg, hgw, hb⟩
  have r0 := (hb.block w.heap.size (by rw [hzs.out]; omega)).trans r0s.out
  have r1 := (hb.block (w.heap.size + 1) (by rw [hzs.out]; omega)).trans r1s.out
  have hB1 := hBs.out.trans (hb.mono hBs.out.size)
  rw [hzs.out] at hgw
  have c0 := cell_of_row _ _ 0 _ _ _ r0
  have c2 := cell_of_row _ _ 2 _ _ _ r0
  have c5 := cell_of_row _ _ 5 _ _ _ r0
  simp at c0 c2 c5
  have r1' := (heap_setCell_other w1 ⟨g, 7, none⟩ (w.heap.size + 1) (.int .u16 2) (by simp; omega)).trans r1
  have hg' := heap_setCell_same w1 g 7 _ _ (.int .u16 2) hg
  rw [mv_set] at hg'
  have hB2 := pf_lay (hB1.setCell (p := ⟨g, 7, none⟩) (by simp; omega) (.int .u16 2))
  have hA := pf_lay (pe_addtag g 60 58 2 w1 hg (by decide))
  clear hb hB1 hBs r0s r1s hzs hcv r0 r1 hg
  generalize w1.setCell ⟨g, 7, none⟩ (.int .u16 2) = w2 at *
  go_wp2_with (first
    | (go_at_call 15; refine hA.out.mono ?_; rintro e3 w3 ⟨rfl, rfl⟩)
    | ((with_reducible refine at_load_row hg' Tryd.underlying45 rfl ?_ ?_ ?_); exact mv_info _ _ _; rfl)
    | ((with_reducible refine at_store_row (mvCells 60 58 2) r1' ?_ ?_ ?_ ?_ ?_ ?_); exact mv_info _ _ _; rfl; exact mv_one _ _ _; rfl; rfl))
  exact bodyPost_ret (v := .agg (mvCells 60 58 2)) (results_cell1 rfl _ _ (w.heap.size + 1) 45 (mvCells 60 58 2) (0, 0) _ rfl (setRow_heap _ _ _ _ _ _ r1') Tryd.underlying45 rfl (mv_info _ _ _)) rfl ⟨rfl, below_setRow' hB2.out (by omega) _⟩
theorem pf_poly11 (w : World) :
    Calls Tryd.prog 5 #[pdFields 4 7 0 7 0 true] w fun e w' => e = .returned (.tuple #[mvPlain 60 58, .int .i64 2]) ∧ Below w.heap.size w w' := by
  have hB : Below w.heap.size w ((w.alloc (.cells #[.int .i64 4, .int .i64 7, .int .i64 0, .int .i64 7, .int .i64 0, .bool true] 23)).alloc (.cells #[.int .i64 0, .int .i64 0, .int .i64 0] 28)) := ((Below.refl _ _).alloc (Nat.le_refl _) _).alloc (by simp) _
  have hz : ((w.alloc (.cells #[.int .i64 4, .int .i64 7, .int .i64 0, .int .i64 7, .int .i64 0, .bool true] 23)).alloc (.cells #[.int .i64 0, .int .i64 0, .int .i64 0] 28)).heap.size = w.heap.size + 2 := by simp
  have r1 : ((w.alloc (.cells #[.int .i64 4, .int .i64 7, .int .i64 0, .int .i64 7, .int .i64 0, .bool true] 23)).alloc (.cells #[.int .i64 0, .int .i64 0, .int .i64 0] 28)).heap[w.heap.size + 1]? = some (.cells #[.int .i64 0, .int .i64 0, .int .i64 0] 28 (0, 0)) := heap_alloc2_new w _ _
  have r1s := pf_lay r1
  have hBs := pf_lay hB
  have hzs := pf_lay hz
  clear hB hz r1
  unfold pdFields
  go_enter Tryd.func5, Tryd.ntmps5
  go_wp2_with fail
  refine (pd_poly 4 7 0 7 0 true _).mono ?_
  rintro e w1 ⟨rfl, q1⟩
  go_wp2_with fail
  refine (pf_move11 _).mono ?_
  rintro e w2 ⟨rfl, q2⟩
  have r2 := (q2.block _ (Nat.lt_of_lt_of_le (by rw [hzs.out]; omega) q1.size)).trans ((q1.block (w.heap.size + 1) (by rw [hzs.out]; omega)).trans r1s.out)
  have hB2 := hBs.out.trans ((q1.trans (q2.mono q1.size)).mono hBs.out.size)
  have hz2 := q1.size
  have hz3 := q2.size
  rw [hzs.out] at hz2
  clear q1 q2 r1s hBs hzs
  go_wp2_with ((with_reducible refine at_new_row (mvCells 60 58 2) ?_ ?_ ?_ ?_ ?_ ?_); exact mv_info _ _ _; rfl; exact mv_one _ _ _; rfl; rfl; intro W rW hW)
  refine (pe_plain _ 60 58 2 (by omega) (by omega) W rW).mono ?_
  rintro e w3 ⟨rfl, q3⟩
  have rW3 := (q3.block _ (Array.getElem?_eq_some_iff.1 rW).1).trans rW
  have r3 := (q3.block _ (Nat.lt_of_lt_of_le (by omega) hW.size)).trans ((hW.block (w.heap.size + 1) (by omega)).trans r2)
  have hB3 := pf_lay ((hB2.trans (hW.mono hB2.size)).trans (q3.mono (by have := hW.size; omega)))
  clear rW q3 hW r2 hB2
  have hT := pf_lay (pe_tags _ 60 58 2 w3 rW3)
  have c0 := cell_of_row _ _ 0 _ _ _ r3
  have c1 := cell_of_row _ _ 1 _ _ _ r3
  have c2 := cell_of_row _ _ 2 _ _ _ r3
  have f0 := frozen_of_row _ _ 0 _ _ r3
  have f1 := frozen_of_row _ _ 1 _ _ r3
  have f2 := frozen_of_row _ _ 2 _ _ r3
  unfold mvPlain
  go_wp2_with (first
    | (go_at_call 11; refine hT.out.mono ?_; rintro e4 w4 ⟨rfl, rfl⟩)
    | ((with_reducible refine at_store_row #[.int .i64 60, .int .i64 58, .int .i64 0] r3 ?_ ?_ ?_ ?_ ?_ ?_); rfl; rfl; rfl; rfl; rfl))
  have s1 := heap_setCell_same w3 (w.heap.size + 1) 0 _ _ (.int .i64 60) r3
  have s2 := heap_setCell_same _ (w.heap.size + 1) 1 _ _ (.int .i64 58) s1
  have s3 := heap_setCell_same _ (w.heap.size + 1) 2 _ _ (.int .i64 0) s2
  have s4 : (((w3.setCell ⟨w.heap.size + 1, 0, none⟩ (.int .i64 60)).setCell ⟨w.heap.size + 1, 1, none⟩ (.int .i64 58)).setCell ⟨w.heap.size + 1, 2, none⟩ (.int .i64 0)).heap[w.heap.size + 1]? = some (.cells #[.int .i64 60, .int .i64 58, .int .i64 0] 28 (0, 0)) := s3
  refine bodyPost_ret (v := .tuple #[.agg #[.int .i64 60, .int .i64 58, .int .i64 0], .int .i64 2]) ?_ rfl ⟨rfl, ?_⟩
  · exact results_cell_tmp rfl _ _ (w.heap.size + 1) 28 #[.int .i64 60, .int .i64 58, .int .i64 0] (0, 0) _ rfl s4 Tryd.underlying28 rfl (by kernel_rfl) (.int .i64 2) rfl
  · exact ((hB3.out.setCell (p := ⟨w.heap.size + 1, 0, none⟩) (by simp) _).setCell (p := ⟨w.heap.size + 1, 1, none⟩) (by simp) _).setCell (p := ⟨w.heap.size + 1, 2, none⟩) (by simp) _
theorem pf_law11 (w : World) :
    Calls Tryd.prog 3 #[.bool true, .bool true] w fun e w' => e = .returned (.bool true) ∧ Below w.heap.size w w' := by
  have hbits : bits .or .i64 3840 56 = 3896 := by decide
  go_enter Tryd.func3, Tryd.ntmps3
  go_wp2_with fail
  refine (pd_decoded 3896 _ (by omega) (by omega)).mono ?_
  rintro e w1 ⟨rfl, q1⟩
  rw [show pdFields ((3896 : Int) / 64 % 8) (3896 / 512 % 8) (3896 % 8) (3896 / 8 % 8) (3896 / 4096 % 8) (pdCast (3896 / 64 % 8) (3896 / 512 % 8) (3896 % 8) (3896 / 8 % 8)) = pdFields 4 7 0 7 0 true by kernel_rfl]
  unfold pdFields
  go_wp2_with fail
  refine (pf_poly11 _).mono ?_
  rintro e w2 ⟨rfl, q2⟩
  have rp := (q2.block _ (by simp)).trans (heap_alloc_new w1 (.cells #[.int .i64 4, .int .i64 7, .int .i64 0, .int .i64 7, .int .i64 0, .bool true] 23))
  have c5 := cell_of_row _ _ 5 _ _ _ (heap_keep (o' := .cells #[.int .i64 60, .int .i64 58, .int .i64 0] 28) rp)
  replace c5 := c5.trans (show _ = some (.bool true) from rfl)
  have hB := (q1.alloc q1.size (.cells #[.int .i64 4, .int .i64 7, .int .i64 0, .int .i64 7, .int .i64 0, .bool true] 23)).trans (q2.mono (Nat.le_trans q1.size (by simp)))
  clear q1 q2 rp
  unfold mvPlain
  go_wp2
  go_ret
  exact ⟨rfl, hB.alloc hB.size _⟩
theorem pf_law (a b : Bool) (w : World) : Calls Tryd.prog 3 #[.bool a, .bool b] w fun e w' => e = .returned (.bool true) ∧ Below w.heap.size w w' := by
  cases a <;> cases b
  · exact pf_law00 w
  · exact pf_law01 w
  · exact pf_law10 w
  · exact pf_law11 w
end Go.Proofs.YthicpbmojnjiiaaDoor
