/- The copies of a board and of a position. For every board and position. (Printed by gen_vc.py.) -/
import Derived.Test.YtnjdgooljnbebaaGreatDoorG0
import Derived.Test.YtnjdgooljnbebaaGreatDoorGj
namespace Go.Proofs.YtnjdgooljnbebaaGreatDoor
open Go Go.RowKit
open List renaming getElem_toArray → zA, getElem_cons_zero → zB, getElem_cons_succ → zC, setIfInBounds_toArray → zD, set_cons_zero → zE, set_cons_succ → zF
set_option maxHeartbeats 8000000
set_option linter.unusedSimpArgs false
set_option linter.unusedVariables false
set_option maxRecDepth 100000

/-- '&T{..}' in a region. -/
theorem wp_boxed {P : Program} {o : Oper} {a : Act} {w : World} {K : Act → World → Prop} {Q : Exit → Act → World → Prop} (t : TypeId) (x : Operand) (ho : o.op = .box t x) (cells : Array Value) (hx : (a.eval x).cells = cells) (dst : Option Tmp) (hd : o.dst = dst)
    (h : K (a.put dst (.pointer (some ⟨w.heap.size, 0, none⟩))) (w.alloc (.cells cells t))) : o.wp P a w K Q := by
  subst hx hd
  unfold Oper.wp execOp
  simp only [ho, Sem.run_bind, Instr.box, newVar, newRow, run_newObj_alloc, Sem.run_pure, Result.andThen_ok]
  exact h
theorem exec_built {P : Program} {o : Oper} {a : Act} (t : TypeId) (parts : Array (Nat × Operand)) (ho : o.op = .build t parts) (cells : Array Value) (hf : P.built t (parts.map fun (i, x) => (i, a.eval x)).toList = some cells) (w : World) : (execOp a.eval o).run P w = .ok (.value (.agg cells)) w := by
  unfold execOp
  simp only [ho, Sem.run_bind, run_build w t _ cells hf, Result.andThen_ok, Sem.run_pure]
theorem vc_copy (F : Nat → BitVec 64) (a b c : BitVec 64) (d e : Int) (g : Nat) (w : World) (hg : w.heap[g]? = some (.cells (brdF F (bbv a) (bbv b) (bbv c) (.int .i8 d) (.int .i8 e)) 144 (0, 0))) :
    Calls Tryz.prog 80 #[.pointer (some ⟨g, 0, none⟩)] w fun e' w' => e' = .returned (.pointer (some ⟨w.heap.size, 0, none⟩)) ∧ w'.heap[w.heap.size]? = some (.cells (brdF F (bbv a) (bbv b) (bbv c) (.int .i8 d) (.int .i8 e)) 144 (0, 0)) ∧ Below w.heap.size w w' := by
  have hgl : Shut (g < w.heap.size) := (Array.getElem?_eq_some_iff.1 hg).1
  have hgs := lay hg
  clear hg
  go_enter Tryz.func80, Tryz.ntmps80
  go_wp2_with fail
  simp only [List.append_eq, List.cons_append, List.nil_append]
  refine wp_region_held_drew (S := fun V : World => V.heap[g]? = some (.cells (brdF F (bbv a) (bbv b) (bbv c) (.int .i8 d) (.int .i8 e)) 144 (0, 0))) (by kernel_rfl) hgs.out (fun hHeld => ?_)
  refine takeA (i := 0) (v := ?vvc_1_0) rfl (Or.inl ⟨by rfl, ?yvc_1_0⟩) hHeld ?rvc_1_0
  case yvc_1_0 => (intro wq hSw; clear hSw; go_simp; try with_reducible rfl)
  try simp only [zA, zB, zC, Act.put, zD, zE, zF]
  refine takeA (i := 1) (v := ?vvc_2_1) rfl (Or.inl ⟨by rfl, ?yvc_2_1⟩) hHeld ?rvc_2_1
  case yvc_2_1 => (intro wq hSw; clear hSw; go_simp; try with_reducible rfl)
  try simp only [zA, zB, zC, Act.put, zD, zE, zF]
  refine takeA (i := 2) (v := ?vvc_3_2) rfl (Or.inl ⟨by rfl, ?yvc_3_2⟩) hHeld ?rvc_3_2
  case yvc_3_2 => (intro wq hSw; clear hSw; go_simp; try with_reducible rfl)
  try simp only [zA, zB, zC, Act.put, zD, zE, zF]
  refine takeA (i := 3) (v := ?vvc_4_3) rfl (Or.inl ⟨by rfl, ?yvc_4_3⟩) hHeld ?rvc_4_3
  case yvc_4_3 => (intro wq hSw; have hq : wq.cell? ⟨g, 12, none⟩ = some (bbv a) := cell_of_row wq g 12 _ _ _ hSw; clear hSw; go_simp; try with_reducible rfl)
  try simp only [zA, zB, zC, Act.put, zD, zE, zF]
  refine takeA (i := 4) (v := ?vvc_5_4) rfl (Or.inl ⟨by rfl, ?yvc_5_4⟩) hHeld ?rvc_5_4
  case yvc_5_4 => (intro wq hSw; clear hSw; go_simp; try with_reducible rfl)
  try simp only [zA, zB, zC, Act.put, zD, zE, zF]
  refine takeA (i := 5) (v := ?vvc_6_5) rfl (Or.inl ⟨by rfl, ?yvc_6_5⟩) hHeld ?rvc_6_5
  case yvc_6_5 => (intro wq hSw; clear hSw; go_simp; try with_reducible rfl)
  try simp only [zA, zB, zC, Act.put, zD, zE, zF]
  refine takeA (i := 6) (v := ?vvc_7_6) rfl (Or.inl ⟨by rfl, ?yvc_7_6⟩) hHeld ?rvc_7_6
  case yvc_7_6 => (intro wq hSw; clear hSw; go_simp; try with_reducible rfl)
  try simp only [zA, zB, zC, Act.put, zD, zE, zF]
  refine takeA (i := 7) (v := ?vvc_8_7) rfl (Or.inl ⟨by rfl, ?yvc_8_7⟩) hHeld ?rvc_8_7
  case yvc_8_7 => (intro wq hSw; have hq : wq.cell? ⟨g, 13, none⟩ = some (bbv b) := cell_of_row wq g 13 _ _ _ hSw; clear hSw; go_simp; try with_reducible rfl)
  try simp only [zA, zB, zC, Act.put, zD, zE, zF]
  refine takeA (i := 8) (v := ?vvc_9_8) rfl (Or.inl ⟨by rfl, ?yvc_9_8⟩) hHeld ?rvc_9_8
  case yvc_9_8 => (intro wq hSw; clear hSw; go_simp; try with_reducible rfl)
  try simp only [zA, zB, zC, Act.put, zD, zE, zF]
  refine takeA (i := 9) (v := ?vvc_10_9) rfl (Or.inl ⟨by rfl, ?yvc_10_9⟩) hHeld ?rvc_10_9
  case yvc_10_9 => (intro wq hSw; clear hSw; go_simp; try with_reducible rfl)
  try simp only [zA, zB, zC, Act.put, zD, zE, zF]
  refine takeA (i := 10) (v := ?vvc_11_10) rfl (Or.inl ⟨by rfl, ?yvc_11_10⟩) hHeld ?rvc_11_10
  case yvc_11_10 => (intro wq hSw; clear hSw; go_simp; try with_reducible rfl)
  try simp only [zA, zB, zC, Act.put, zD, zE, zF]
  refine takeA (i := 11) (v := ?vvc_12_11) rfl (Or.inl ⟨by rfl, ?yvc_12_11⟩) hHeld ?rvc_12_11
  case yvc_12_11 => (intro wq hSw; have hq : wq.cell? ⟨g, 14, none⟩ = some (bbv c) := cell_of_row wq g 14 _ _ _ hSw; clear hSw; go_simp; try with_reducible rfl)
  try simp only [zA, zB, zC, Act.put, zD, zE, zF]
  refine takeA (i := 12) (v := ?vvc_13_12) rfl (Or.inl ⟨by rfl, ?yvc_13_12⟩) hHeld ?rvc_13_12
  case yvc_13_12 => (intro wq hSw; clear hSw; go_simp; try with_reducible rfl)
  try simp only [zA, zB, zC, Act.put, zD, zE, zF]
  refine takeA (i := 13) (v := ?vvc_14_13) rfl (Or.inl ⟨by rfl, ?yvc_14_13⟩) hHeld ?rvc_14_13
  case yvc_14_13 => (intro wq hSw; clear hSw; go_simp; try with_reducible rfl)
  try simp only [zA, zB, zC, Act.put, zD, zE, zF]
  refine takeA (i := 14) (v := ?vvc_15_14) rfl (Or.inl ⟨by rfl, ?yvc_15_14⟩) hHeld ?rvc_15_14
  case yvc_15_14 => (intro wq hSw; clear hSw; go_simp; try with_reducible rfl)
  try simp only [zA, zB, zC, Act.put, zD, zE, zF]
  refine takeA (i := 15) (v := ?vvc_16_15) rfl (Or.inl ⟨by rfl, ?yvc_16_15⟩) hHeld ?rvc_16_15
  case yvc_16_15 => (intro wq hSw; have hq : wq.cell? ⟨g, 15, none⟩ = some (.int .i8 d) := cell_of_row wq g 15 _ _ _ hSw; clear hSw; go_simp; try with_reducible rfl)
  try simp only [zA, zB, zC, Act.put, zD, zE, zF]
  refine takeA (i := 16) (v := ?vvc_17_16) rfl (Or.inl ⟨by rfl, ?yvc_17_16⟩) hHeld ?rvc_17_16
  case yvc_17_16 => (intro wq hSw; clear hSw; go_simp; try with_reducible rfl)
  try simp only [zA, zB, zC, Act.put, zD, zE, zF]
  refine takeA (i := 17) (v := ?vvc_18_17) rfl (Or.inl ⟨by rfl, ?yvc_18_17⟩) hHeld ?rvc_18_17
  case yvc_18_17 => (intro wq hSw; clear hSw; go_simp; try with_reducible rfl)
  try simp only [zA, zB, zC, Act.put, zD, zE, zF]
  refine takeA (i := 18) (v := ?vvc_19_18) rfl (Or.inl ⟨by rfl, ?yvc_19_18⟩) hHeld ?rvc_19_18
  case yvc_19_18 => (intro wq hSw; clear hSw; go_simp; try with_reducible rfl)
  try simp only [zA, zB, zC, Act.put, zD, zE, zF]
  refine takeA (i := 19) (v := ?vvc_20_19) rfl (Or.inl ⟨by rfl, ?yvc_20_19⟩) hHeld ?rvc_20_19
  case yvc_20_19 => (intro wq hSw; have hq : wq.cell? ⟨g, 16, none⟩ = some (.int .i8 e) := cell_of_row wq g 16 _ _ _ hSw; clear hSw; go_simp; try with_reducible rfl)
  try simp only [zA, zB, zC, Act.put, zD, zE, zF]
  refine takeA (i := 20) (v := ?vvc_21_20) rfl (Or.inl ⟨by rfl, ?yvc_21_20⟩) hHeld ?rvc_21_20
  case yvc_21_20 => (intro wq hSw; clear hSw; go_simp; try with_reducible rfl)
  try simp only [zA, zB, zC, Act.put, zD, zE, zF]
  refine takeA (i := 21) (v := ?vvc_22_21) rfl (Or.inl ⟨by rfl, ?yvc_22_21⟩) hHeld ?rvc_22_21
  case yvc_22_21 => (intro wq hSw; clear hSw; go_simp; try with_reducible rfl)
  try simp only [zA, zB, zC, Act.put, zD, zE, zF]
  refine takeA (i := 22) (v := ?vvc_23_22) rfl (Or.inl ⟨by rfl, ?yvc_23_22⟩) hHeld ?rvc_23_22
  case yvc_23_22 => (intro wq hSw; clear hSw; go_simp; try with_reducible rfl)
  try simp only [zA, zB, zC, Act.put, zD, zE, zF]
  refine takeA (i := 23) (v := ?vvc_24_23) rfl (Or.inl ⟨by rfl, ?yvc_24_23⟩) hHeld ?rvc_24_23
  case yvc_24_23 => (intro wq hSw; have hq : wq.cell? ⟨g, 0, none⟩ = some (bbv (F 0)) := cell_of_row wq g 0 _ _ _ hSw; clear hSw; go_simp; try with_reducible rfl)
  try simp only [zA, zB, zC, Act.put, zD, zE, zF]
  refine takeA (i := 24) (v := ?vvc_25_24) rfl (Or.inl ⟨by rfl, ?yvc_25_24⟩) hHeld ?rvc_25_24
  case yvc_25_24 => (intro wq hSw; clear hSw; go_simp; try with_reducible rfl)
  try simp only [zA, zB, zC, Act.put, zD, zE, zF]
  refine takeA (i := 25) (v := ?vvc_26_25) rfl (Or.inl ⟨by rfl, ?yvc_26_25⟩) hHeld ?rvc_26_25
  case yvc_26_25 => (intro wq hSw; clear hSw; go_simp; try with_reducible rfl)
  try simp only [zA, zB, zC, Act.put, zD, zE, zF]
  refine takeA (i := 26) (v := ?vvc_27_26) rfl (Or.inl ⟨by rfl, ?yvc_27_26⟩) hHeld ?rvc_27_26
  case yvc_27_26 => (intro wq hSw; clear hSw; go_simp; try with_reducible rfl)
  try simp only [zA, zB, zC, Act.put, zD, zE, zF]
  refine takeA (i := 27) (v := ?vvc_28_27) rfl (Or.inl ⟨by rfl, ?yvc_28_27⟩) hHeld ?rvc_28_27
  case yvc_28_27 => (intro wq hSw; have hq : wq.cell? ⟨g, 1, none⟩ = some (bbv (F 1)) := cell_of_row wq g 1 _ _ _ hSw; clear hSw; go_simp; try with_reducible rfl)
  try simp only [zA, zB, zC, Act.put, zD, zE, zF]
  refine takeA (i := 28) (v := ?vvc_29_28) rfl (Or.inl ⟨by rfl, ?yvc_29_28⟩) hHeld ?rvc_29_28
  case yvc_29_28 => (intro wq hSw; clear hSw; go_simp; try with_reducible rfl)
  try simp only [zA, zB, zC, Act.put, zD, zE, zF]
  refine takeA (i := 29) (v := ?vvc_30_29) rfl (Or.inl ⟨by rfl, ?yvc_30_29⟩) hHeld ?rvc_30_29
  case yvc_30_29 => (intro wq hSw; clear hSw; go_simp; try with_reducible rfl)
  try simp only [zA, zB, zC, Act.put, zD, zE, zF]
  refine takeA (i := 30) (v := ?vvc_31_30) rfl (Or.inl ⟨by rfl, ?yvc_31_30⟩) hHeld ?rvc_31_30
  case yvc_31_30 => (intro wq hSw; clear hSw; go_simp; try with_reducible rfl)
  try simp only [zA, zB, zC, Act.put, zD, zE, zF]
  refine takeA (i := 31) (v := ?vvc_32_31) rfl (Or.inl ⟨by rfl, ?yvc_32_31⟩) hHeld ?rvc_32_31
  case yvc_32_31 => (intro wq hSw; have hq : wq.cell? ⟨g, 2, none⟩ = some (bbv (F 2)) := cell_of_row wq g 2 _ _ _ hSw; clear hSw; go_simp; try with_reducible rfl)
  try simp only [zA, zB, zC, Act.put, zD, zE, zF]
  refine takeA (i := 32) (v := ?vvc_33_32) rfl (Or.inl ⟨by rfl, ?yvc_33_32⟩) hHeld ?rvc_33_32
  case yvc_33_32 => (intro wq hSw; clear hSw; go_simp; try with_reducible rfl)
  try simp only [zA, zB, zC, Act.put, zD, zE, zF]
  refine takeA (i := 33) (v := ?vvc_34_33) rfl (Or.inl ⟨by rfl, ?yvc_34_33⟩) hHeld ?rvc_34_33
  case yvc_34_33 => (intro wq hSw; clear hSw; go_simp; try with_reducible rfl)
  try simp only [zA, zB, zC, Act.put, zD, zE, zF]
  refine takeA (i := 34) (v := ?vvc_35_34) rfl (Or.inl ⟨by rfl, ?yvc_35_34⟩) hHeld ?rvc_35_34
  case yvc_35_34 => (intro wq hSw; clear hSw; go_simp; try with_reducible rfl)
  try simp only [zA, zB, zC, Act.put, zD, zE, zF]
  refine takeA (i := 35) (v := ?vvc_36_35) rfl (Or.inl ⟨by rfl, ?yvc_36_35⟩) hHeld ?rvc_36_35
  case yvc_36_35 => (intro wq hSw; have hq : wq.cell? ⟨g, 3, none⟩ = some (bbv (F 3)) := cell_of_row wq g 3 _ _ _ hSw; clear hSw; go_simp; try with_reducible rfl)
  try simp only [zA, zB, zC, Act.put, zD, zE, zF]
  refine takeA (i := 36) (v := ?vvc_37_36) rfl (Or.inl ⟨by rfl, ?yvc_37_36⟩) hHeld ?rvc_37_36
  case yvc_37_36 => (intro wq hSw; clear hSw; go_simp; try with_reducible rfl)
  try simp only [zA, zB, zC, Act.put, zD, zE, zF]
  refine takeA (i := 37) (v := ?vvc_38_37) rfl (Or.inl ⟨by rfl, ?yvc_38_37⟩) hHeld ?rvc_38_37
  case yvc_38_37 => (intro wq hSw; clear hSw; go_simp; try with_reducible rfl)
  try simp only [zA, zB, zC, Act.put, zD, zE, zF]
  refine takeA (i := 38) (v := ?vvc_39_38) rfl (Or.inl ⟨by rfl, ?yvc_39_38⟩) hHeld ?rvc_39_38
  case yvc_39_38 => (intro wq hSw; clear hSw; go_simp; try with_reducible rfl)
  try simp only [zA, zB, zC, Act.put, zD, zE, zF]
  refine takeA (i := 39) (v := ?vvc_40_39) rfl (Or.inl ⟨by rfl, ?yvc_40_39⟩) hHeld ?rvc_40_39
  case yvc_40_39 => (intro wq hSw; have hq : wq.cell? ⟨g, 4, none⟩ = some (bbv (F 4)) := cell_of_row wq g 4 _ _ _ hSw; clear hSw; go_simp; try with_reducible rfl)
  try simp only [zA, zB, zC, Act.put, zD, zE, zF]
  refine takeA (i := 40) (v := ?vvc_41_40) rfl (Or.inl ⟨by rfl, ?yvc_41_40⟩) hHeld ?rvc_41_40
  case yvc_41_40 => (intro wq hSw; clear hSw; go_simp; try with_reducible rfl)
  try simp only [zA, zB, zC, Act.put, zD, zE, zF]
  refine takeA (i := 41) (v := ?vvc_42_41) rfl (Or.inl ⟨by rfl, ?yvc_42_41⟩) hHeld ?rvc_42_41
  case yvc_42_41 => (intro wq hSw; clear hSw; go_simp; try with_reducible rfl)
  try simp only [zA, zB, zC, Act.put, zD, zE, zF]
  refine takeA (i := 42) (v := ?vvc_43_42) rfl (Or.inl ⟨by rfl, ?yvc_43_42⟩) hHeld ?rvc_43_42
  case yvc_43_42 => (intro wq hSw; clear hSw; go_simp; try with_reducible rfl)
  try simp only [zA, zB, zC, Act.put, zD, zE, zF]
  refine takeA (i := 43) (v := ?vvc_44_43) rfl (Or.inl ⟨by rfl, ?yvc_44_43⟩) hHeld ?rvc_44_43
  case yvc_44_43 => (intro wq hSw; have hq : wq.cell? ⟨g, 5, none⟩ = some (bbv (F 5)) := cell_of_row wq g 5 _ _ _ hSw; clear hSw; go_simp; try with_reducible rfl)
  try simp only [zA, zB, zC, Act.put, zD, zE, zF]
  refine takeA (i := 44) (v := ?vvc_45_44) rfl (Or.inl ⟨by rfl, ?yvc_45_44⟩) hHeld ?rvc_45_44
  case yvc_45_44 => (intro wq hSw; clear hSw; go_simp; try with_reducible rfl)
  try simp only [zA, zB, zC, Act.put, zD, zE, zF]
  refine takeA (i := 45) (v := ?vvc_46_45) rfl (Or.inl ⟨by rfl, ?yvc_46_45⟩) hHeld ?rvc_46_45
  case yvc_46_45 => (intro wq hSw; clear hSw; go_simp; try with_reducible rfl)
  try simp only [zA, zB, zC, Act.put, zD, zE, zF]
  refine takeA (i := 46) (v := ?vvc_47_46) rfl (Or.inl ⟨by rfl, ?yvc_47_46⟩) hHeld ?rvc_47_46
  case yvc_47_46 => (intro wq hSw; clear hSw; go_simp; try with_reducible rfl)
  try simp only [zA, zB, zC, Act.put, zD, zE, zF]
  refine takeA (i := 47) (v := ?vvc_48_47) rfl (Or.inl ⟨by rfl, ?yvc_48_47⟩) hHeld ?rvc_48_47
  case yvc_48_47 => (intro wq hSw; have hq : wq.cell? ⟨g, 6, none⟩ = some (bbv (F 6)) := cell_of_row wq g 6 _ _ _ hSw; clear hSw; go_simp; try with_reducible rfl)
  try simp only [zA, zB, zC, Act.put, zD, zE, zF]
  refine takeA (i := 48) (v := ?vvc_49_48) rfl (Or.inl ⟨by rfl, ?yvc_49_48⟩) hHeld ?rvc_49_48
  case yvc_49_48 => (intro wq hSw; clear hSw; go_simp; try with_reducible rfl)
  try simp only [zA, zB, zC, Act.put, zD, zE, zF]
  refine takeA (i := 49) (v := ?vvc_50_49) rfl (Or.inl ⟨by rfl, ?yvc_50_49⟩) hHeld ?rvc_50_49
  case yvc_50_49 => (intro wq hSw; clear hSw; go_simp; try with_reducible rfl)
  try simp only [zA, zB, zC, Act.put, zD, zE, zF]
  refine takeA (i := 50) (v := ?vvc_51_50) rfl (Or.inl ⟨by rfl, ?yvc_51_50⟩) hHeld ?rvc_51_50
  case yvc_51_50 => (intro wq hSw; clear hSw; go_simp; try with_reducible rfl)
  try simp only [zA, zB, zC, Act.put, zD, zE, zF]
  refine takeA (i := 51) (v := ?vvc_52_51) rfl (Or.inl ⟨by rfl, ?yvc_52_51⟩) hHeld ?rvc_52_51
  case yvc_52_51 => (intro wq hSw; have hq : wq.cell? ⟨g, 7, none⟩ = some (bbv (F 7)) := cell_of_row wq g 7 _ _ _ hSw; clear hSw; go_simp; try with_reducible rfl)
  try simp only [zA, zB, zC, Act.put, zD, zE, zF]
  refine takeA (i := 52) (v := ?vvc_53_52) rfl (Or.inl ⟨by rfl, ?yvc_53_52⟩) hHeld ?rvc_53_52
  case yvc_53_52 => (intro wq hSw; clear hSw; go_simp; try with_reducible rfl)
  try simp only [zA, zB, zC, Act.put, zD, zE, zF]
  refine takeA (i := 53) (v := ?vvc_54_53) rfl (Or.inl ⟨by rfl, ?yvc_54_53⟩) hHeld ?rvc_54_53
  case yvc_54_53 => (intro wq hSw; clear hSw; go_simp; try with_reducible rfl)
  try simp only [zA, zB, zC, Act.put, zD, zE, zF]
  refine takeA (i := 54) (v := ?vvc_55_54) rfl (Or.inl ⟨by rfl, ?yvc_55_54⟩) hHeld ?rvc_55_54
  case yvc_55_54 => (intro wq hSw; clear hSw; go_simp; try with_reducible rfl)
  try simp only [zA, zB, zC, Act.put, zD, zE, zF]
  refine takeA (i := 55) (v := ?vvc_56_55) rfl (Or.inl ⟨by rfl, ?yvc_56_55⟩) hHeld ?rvc_56_55
  case yvc_56_55 => (intro wq hSw; have hq : wq.cell? ⟨g, 8, none⟩ = some (bbv (F 8)) := cell_of_row wq g 8 _ _ _ hSw; clear hSw; go_simp; try with_reducible rfl)
  try simp only [zA, zB, zC, Act.put, zD, zE, zF]
  refine takeA (i := 56) (v := ?vvc_57_56) rfl (Or.inl ⟨by rfl, ?yvc_57_56⟩) hHeld ?rvc_57_56
  case yvc_57_56 => (intro wq hSw; clear hSw; go_simp; try with_reducible rfl)
  try simp only [zA, zB, zC, Act.put, zD, zE, zF]
  refine takeA (i := 57) (v := ?vvc_58_57) rfl (Or.inl ⟨by rfl, ?yvc_58_57⟩) hHeld ?rvc_58_57
  case yvc_58_57 => (intro wq hSw; clear hSw; go_simp; try with_reducible rfl)
  try simp only [zA, zB, zC, Act.put, zD, zE, zF]
  refine takeA (i := 58) (v := ?vvc_59_58) rfl (Or.inl ⟨by rfl, ?yvc_59_58⟩) hHeld ?rvc_59_58
  case yvc_59_58 => (intro wq hSw; clear hSw; go_simp; try with_reducible rfl)
  try simp only [zA, zB, zC, Act.put, zD, zE, zF]
  refine takeA (i := 59) (v := ?vvc_60_59) rfl (Or.inl ⟨by rfl, ?yvc_60_59⟩) hHeld ?rvc_60_59
  case yvc_60_59 => (intro wq hSw; have hq : wq.cell? ⟨g, 9, none⟩ = some (bbv (F 9)) := cell_of_row wq g 9 _ _ _ hSw; clear hSw; go_simp; try with_reducible rfl)
  try simp only [zA, zB, zC, Act.put, zD, zE, zF]
  refine takeA (i := 60) (v := ?vvc_61_60) rfl (Or.inl ⟨by rfl, ?yvc_61_60⟩) hHeld ?rvc_61_60
  case yvc_61_60 => (intro wq hSw; clear hSw; go_simp; try with_reducible rfl)
  try simp only [zA, zB, zC, Act.put, zD, zE, zF]
  refine takeA (i := 61) (v := ?vvc_62_61) rfl (Or.inl ⟨by rfl, ?yvc_62_61⟩) hHeld ?rvc_62_61
  case yvc_62_61 => (intro wq hSw; clear hSw; go_simp; try with_reducible rfl)
  try simp only [zA, zB, zC, Act.put, zD, zE, zF]
  refine takeA (i := 62) (v := ?vvc_63_62) rfl (Or.inl ⟨by rfl, ?yvc_63_62⟩) hHeld ?rvc_63_62
  case yvc_63_62 => (intro wq hSw; clear hSw; go_simp; try with_reducible rfl)
  try simp only [zA, zB, zC, Act.put, zD, zE, zF]
  refine takeA (i := 63) (v := ?vvc_64_63) rfl (Or.inl ⟨by rfl, ?yvc_64_63⟩) hHeld ?rvc_64_63
  case yvc_64_63 => (intro wq hSw; have hq : wq.cell? ⟨g, 10, none⟩ = some (bbv (F 10)) := cell_of_row wq g 10 _ _ _ hSw; clear hSw; go_simp; try with_reducible rfl)
  try simp only [zA, zB, zC, Act.put, zD, zE, zF]
  refine takeA (i := 64) (v := ?vvc_65_64) rfl (Or.inl ⟨by rfl, ?yvc_65_64⟩) hHeld ?rvc_65_64
  case yvc_65_64 => (intro wq hSw; clear hSw; go_simp; try with_reducible rfl)
  try simp only [zA, zB, zC, Act.put, zD, zE, zF]
  refine takeA (i := 65) (v := ?vvc_66_65) rfl (Or.inl ⟨by rfl, ?yvc_66_65⟩) hHeld ?rvc_66_65
  case yvc_66_65 => (intro wq hSw; clear hSw; go_simp; try with_reducible rfl)
  try simp only [zA, zB, zC, Act.put, zD, zE, zF]
  refine takeA (i := 66) (v := ?vvc_67_66) rfl (Or.inl ⟨by rfl, ?yvc_67_66⟩) hHeld ?rvc_67_66
  case yvc_67_66 => (intro wq hSw; clear hSw; go_simp; try with_reducible rfl)
  try simp only [zA, zB, zC, Act.put, zD, zE, zF]
  refine takeA (i := 67) (v := ?vvc_68_67) rfl (Or.inl ⟨by rfl, ?yvc_68_67⟩) hHeld ?rvc_68_67
  case yvc_68_67 => (intro wq hSw; have hq : wq.cell? ⟨g, 11, none⟩ = some (bbv (F 11)) := cell_of_row wq g 11 _ _ _ hSw; clear hSw; go_simp; try with_reducible rfl)
  try simp only [zA, zB, zC, Act.put, zD, zE, zF]
  refine takeA (i := 68) (v := ?vvc_69_68) rfl (Or.inl ⟨by rfl, ?yvc_69_68⟩) hHeld ?rvc_69_68
  case yvc_69_68 => (intro wq hSw; clear hSw; refine exec_built ?tt ?pp ?h1 (brdF F (bbv a) (bbv b) (bbv c) (.int .i8 d) (.int .i8 e)) ?h2 wq; (case h1 => exact rfl); (case h2 => kernel_rfl))
  try simp only [zA, zB, zC, Act.put, zD, zE, zF]
  refine wpAnyH_ready (rs := [69]) (by kernel_rfl) (by simp) ?_
  refine AllReadyH.cons rfl (fun K hK => ?_) AllReadyH.nil
  try simp only [zA, zB, zC, Act.put, zD, zE, zF]
  rw [if_pos (by rfl)]
  refine wp_boxed 144 _ rfl (brdF F (bbv a) (bbv b) (bbv c) (.int .i8 d) (.int .i8 e)) (by kernel_rfl) (some 72) rfl ?_
  refine hK.out _ _ ((heap_alloc_old _ _ hgl.out).trans hHeld) (fun hHeld => ?_)
  clear hK K
  try simp only [zA, zB, zC, Act.put, zD, zE, zF]
  refine takeA (i := 70) (v := ?vvc_70_70) rfl (Or.inl ⟨by rfl, ?yvc_70_70⟩) hHeld ?rvc_70_70
  case yvc_70_70 => (intro wq hSw; clear hSw; go_simp; try with_reducible rfl)
  try simp only [zA, zB, zC, Act.put, zD, zE, zF]
  refine wpAnyH_done (by kernel_rfl) ?_ _
  go_wp2_with fail
  go_ret
  refine ⟨?_, heap_alloc_new w.drew _, ((Below.refl w.heap.size w).drew).alloc (Nat.le_refl _) _⟩
  first | rfl | kernel_rfl | (simp; done)
/-- The cells of a position, whatever moves are cached. -/
def posW (bg : Nat) (cas : ByteArray) (v : Value) (half full tn ep : Int) (chk : Bool) : Array Value :=
  #[.pointer (some ⟨bg, 0, none⟩), .string cas, v, .int .i64 half, .int .i64 full, .int .i8 (tn + 1), .int .i8 ep, .bool chk]
theorem vc_pcopy (p : List Int) (bg pg : Nat) (cas : ByteArray) (v : Value) (half full tn ep : Int) (chk : Bool) (w : World) (hpg : w.heap[pg]? = some (.cells (posW bg cas v half full tn ep chk) 103 (0, 0))) (hbg : w.heap[bg]? = some (.cells (brd p) 144 (0, 0))) :
    Calls Tryz.prog 146 #[.pointer (some ⟨pg, 0, none⟩)] w fun e' w' => ∃ cg cb, e' = .returned (.pointer (some ⟨cg, 0, none⟩)) ∧ w.heap.size ≤ cg ∧ w.heap.size ≤ cb ∧ cb ≠ cg ∧ w'.heap[cg]? = some (.cells (posW cb cas (.slice none 0 0) half full tn ep chk) 103 (0, 0)) ∧ w'.heap[cb]? = some (.cells (brd p) 144 (0, 0)) ∧ Below w.heap.size w w' := by
  have hgl : Shut (pg < w.heap.size) := (Array.getElem?_eq_some_iff.1 hpg).1
  have hbl : Shut (bg < w.heap.size) := (Array.getElem?_eq_some_iff.1 hbg).1
  have hgs := lay (And.intro hpg hbg)
  have hcop := lay (fun W h => vc_copy (bbF p) (whiteB p) (blackB p) (~~~(whiteB p ||| blackB p)) (lastK p 1 64) (lastK p 7 64) bg W h)
  clear hpg hbg
  go_enter Tryz.func146, Tryz.ntmps146
  go_wp2_with fail
  refine wp_region_held_drew (S := fun V : World => V.heap[pg]? = some (.cells (posW bg cas v half full tn ep chk) 103 (0, 0)) ∧ V.heap[bg]? = some (.cells (brd p) 144 (0, 0))) (by kernel_rfl) hgs.out (fun hHeld => ?_)
  refine takeA (i := 0) (v := ?vvp_1_0) rfl (Or.inl ⟨by rfl, ?yvp_1_0⟩) hHeld ?rvp_1_0
  case yvp_1_0 => (intro wq hSw; clear hSw; go_simp; try with_reducible rfl)
  try simp only [zA, zB, zC, Act.put, zD, zE, zF]
  refine takeA (i := 1) (v := ?vvp_2_1) rfl (Or.inl ⟨by rfl, ?yvp_2_1⟩) hHeld ?rvp_2_1
  case yvp_2_1 => (intro wq hSw; clear hSw; go_simp; try with_reducible rfl)
  try simp only [zA, zB, zC, Act.put, zD, zE, zF]
  refine takeA (i := 2) (v := ?vvp_3_2) rfl (Or.inl ⟨by rfl, ?yvp_3_2⟩) hHeld ?rvp_3_2
  case yvp_3_2 => (intro wq hSw; clear hSw; go_simp; try with_reducible rfl)
  try simp only [zA, zB, zC, Act.put, zD, zE, zF]
  refine takeA (i := 3) (v := ?vvp_4_3) rfl (Or.inl ⟨by rfl, ?yvp_4_3⟩) hHeld ?rvp_4_3
  case yvp_4_3 => (intro wq hSw; have hq : wq.cell? ⟨pg, 0, none⟩ = some (.pointer (some ⟨bg, 0, none⟩)) := cell_of_row wq pg 0 _ _ _ hSw.1; clear hSw; go_simp; try with_reducible rfl)
  try simp only [zA, zB, zC, Act.put, zD, zE, zF]
  refine takeA (i := 5) (v := ?vvp_5_5) rfl (Or.inl ⟨by rfl, ?yvp_5_5⟩) hHeld ?rvp_5_5
  case yvp_5_5 => (intro wq hSw; clear hSw; go_simp; try with_reducible rfl)
  try simp only [zA, zB, zC, Act.put, zD, zE, zF]
  refine takeA (i := 6) (v := ?vvp_6_6) rfl (Or.inl ⟨by rfl, ?yvp_6_6⟩) hHeld ?rvp_6_6
  case yvp_6_6 => (intro wq hSw; clear hSw; go_simp; try with_reducible rfl)
  try simp only [zA, zB, zC, Act.put, zD, zE, zF]
  refine takeA (i := 7) (v := ?vvp_7_7) rfl (Or.inl ⟨by rfl, ?yvp_7_7⟩) hHeld ?rvp_7_7
  case yvp_7_7 => (intro wq hSw; clear hSw; go_simp; try with_reducible rfl)
  try simp only [zA, zB, zC, Act.put, zD, zE, zF]
  refine takeA (i := 8) (v := ?vvp_8_8) rfl (Or.inl ⟨by rfl, ?yvp_8_8⟩) hHeld ?rvp_8_8
  case yvp_8_8 => (intro wq hSw; have hq : wq.cell? ⟨pg, 5, none⟩ = some (.int .i8 (tn + 1)) := cell_of_row wq pg 5 _ _ _ hSw.1; clear hSw; go_simp; try with_reducible rfl)
  try simp only [zA, zB, zC, Act.put, zD, zE, zF]
  refine takeA (i := 9) (v := ?vvp_9_9) rfl (Or.inl ⟨by rfl, ?yvp_9_9⟩) hHeld ?rvp_9_9
  case yvp_9_9 => (intro wq hSw; clear hSw; go_simp; try with_reducible rfl)
  try simp only [zA, zB, zC, Act.put, zD, zE, zF]
  refine takeA (i := 10) (v := ?vvp_10_10) rfl (Or.inl ⟨by rfl, ?yvp_10_10⟩) hHeld ?rvp_10_10
  case yvp_10_10 => (intro wq hSw; clear hSw; go_simp; try with_reducible rfl)
  try simp only [zA, zB, zC, Act.put, zD, zE, zF]
  refine takeA (i := 11) (v := ?vvp_11_11) rfl (Or.inl ⟨by rfl, ?yvp_11_11⟩) hHeld ?rvp_11_11
  case yvp_11_11 => (intro wq hSw; clear hSw; go_simp; try with_reducible rfl)
  try simp only [zA, zB, zC, Act.put, zD, zE, zF]
  refine takeA (i := 12) (v := ?vvp_12_12) rfl (Or.inl ⟨by rfl, ?yvp_12_12⟩) hHeld ?rvp_12_12
  case yvp_12_12 => (intro wq hSw; have hq : wq.cell? ⟨pg, 1, none⟩ = some (.string cas) := cell_of_row wq pg 1 _ _ _ hSw.1; clear hSw; go_simp; try with_reducible rfl)
  try simp only [zA, zB, zC, Act.put, zD, zE, zF]
  refine takeA (i := 13) (v := ?vvp_13_13) rfl (Or.inl ⟨by rfl, ?yvp_13_13⟩) hHeld ?rvp_13_13
  case yvp_13_13 => (intro wq hSw; clear hSw; go_simp; try with_reducible rfl)
  try simp only [zA, zB, zC, Act.put, zD, zE, zF]
  refine takeA (i := 14) (v := ?vvp_14_14) rfl (Or.inl ⟨by rfl, ?yvp_14_14⟩) hHeld ?rvp_14_14
  case yvp_14_14 => (intro wq hSw; clear hSw; go_simp; try with_reducible rfl)
  try simp only [zA, zB, zC, Act.put, zD, zE, zF]
  refine takeA (i := 15) (v := ?vvp_15_15) rfl (Or.inl ⟨by rfl, ?yvp_15_15⟩) hHeld ?rvp_15_15
  case yvp_15_15 => (intro wq hSw; clear hSw; go_simp; try with_reducible rfl)
  try simp only [zA, zB, zC, Act.put, zD, zE, zF]
  refine takeA (i := 16) (v := ?vvp_16_16) rfl (Or.inl ⟨by rfl, ?yvp_16_16⟩) hHeld ?rvp_16_16
  case yvp_16_16 => (intro wq hSw; have hq : wq.cell? ⟨pg, 6, none⟩ = some (.int .i8 ep) := cell_of_row wq pg 6 _ _ _ hSw.1; clear hSw; go_simp; try with_reducible rfl)
  try simp only [zA, zB, zC, Act.put, zD, zE, zF]
  refine takeA (i := 17) (v := ?vvp_17_17) rfl (Or.inl ⟨by rfl, ?yvp_17_17⟩) hHeld ?rvp_17_17
  case yvp_17_17 => (intro wq hSw; clear hSw; go_simp; try with_reducible rfl)
  try simp only [zA, zB, zC, Act.put, zD, zE, zF]
  refine takeA (i := 18) (v := ?vvp_18_18) rfl (Or.inl ⟨by rfl, ?yvp_18_18⟩) hHeld ?rvp_18_18
  case yvp_18_18 => (intro wq hSw; clear hSw; go_simp; try with_reducible rfl)
  try simp only [zA, zB, zC, Act.put, zD, zE, zF]
  refine takeA (i := 19) (v := ?vvp_19_19) rfl (Or.inl ⟨by rfl, ?yvp_19_19⟩) hHeld ?rvp_19_19
  case yvp_19_19 => (intro wq hSw; clear hSw; go_simp; try with_reducible rfl)
  try simp only [zA, zB, zC, Act.put, zD, zE, zF]
  refine takeA (i := 20) (v := ?vvp_20_20) rfl (Or.inl ⟨by rfl, ?yvp_20_20⟩) hHeld ?rvp_20_20
  case yvp_20_20 => (intro wq hSw; have hq : wq.cell? ⟨pg, 3, none⟩ = some (.int .i64 half) := cell_of_row wq pg 3 _ _ _ hSw.1; clear hSw; go_simp; try with_reducible rfl)
  try simp only [zA, zB, zC, Act.put, zD, zE, zF]
  refine takeA (i := 21) (v := ?vvp_21_21) rfl (Or.inl ⟨by rfl, ?yvp_21_21⟩) hHeld ?rvp_21_21
  case yvp_21_21 => (intro wq hSw; clear hSw; go_simp; try with_reducible rfl)
  try simp only [zA, zB, zC, Act.put, zD, zE, zF]
  refine takeA (i := 22) (v := ?vvp_22_22) rfl (Or.inl ⟨by rfl, ?yvp_22_22⟩) hHeld ?rvp_22_22
  case yvp_22_22 => (intro wq hSw; clear hSw; go_simp; try with_reducible rfl)
  try simp only [zA, zB, zC, Act.put, zD, zE, zF]
  refine takeA (i := 23) (v := ?vvp_23_23) rfl (Or.inl ⟨by rfl, ?yvp_23_23⟩) hHeld ?rvp_23_23
  case yvp_23_23 => (intro wq hSw; clear hSw; go_simp; try with_reducible rfl)
  try simp only [zA, zB, zC, Act.put, zD, zE, zF]
  refine takeA (i := 24) (v := ?vvp_24_24) rfl (Or.inl ⟨by rfl, ?yvp_24_24⟩) hHeld ?rvp_24_24
  case yvp_24_24 => (intro wq hSw; have hq : wq.cell? ⟨pg, 4, none⟩ = some (.int .i64 full) := cell_of_row wq pg 4 _ _ _ hSw.1; clear hSw; go_simp; try with_reducible rfl)
  try simp only [zA, zB, zC, Act.put, zD, zE, zF]
  refine takeA (i := 25) (v := ?vvp_25_25) rfl (Or.inl ⟨by rfl, ?yvp_25_25⟩) hHeld ?rvp_25_25
  case yvp_25_25 => (intro wq hSw; clear hSw; go_simp; try with_reducible rfl)
  try simp only [zA, zB, zC, Act.put, zD, zE, zF]
  refine takeA (i := 26) (v := ?vvp_26_26) rfl (Or.inl ⟨by rfl, ?yvp_26_26⟩) hHeld ?rvp_26_26
  case yvp_26_26 => (intro wq hSw; clear hSw; go_simp; try with_reducible rfl)
  try simp only [zA, zB, zC, Act.put, zD, zE, zF]
  refine takeA (i := 27) (v := ?vvp_27_27) rfl (Or.inl ⟨by rfl, ?yvp_27_27⟩) hHeld ?rvp_27_27
  case yvp_27_27 => (intro wq hSw; clear hSw; go_simp; try with_reducible rfl)
  try simp only [zA, zB, zC, Act.put, zD, zE, zF]
  refine takeA (i := 28) (v := ?vvp_28_28) rfl (Or.inl ⟨by rfl, ?yvp_28_28⟩) hHeld ?rvp_28_28
  case yvp_28_28 => (intro wq hSw; have hq : wq.cell? ⟨pg, 7, none⟩ = some (.bool chk) := cell_of_row wq pg 7 _ _ _ hSw.1; clear hSw; go_simp; try with_reducible rfl)
  try simp only [zA, zB, zC, Act.put, zD, zE, zF]
  refine wpAnyH_ready (rs := [4]) (by kernel_rfl) (by simp) ?_
  refine AllReadyH.cons rfl (fun K hK => ?_) AllReadyH.nil
  try simp only [zA, zB, zC, Act.put, zD, zE, zF]
  try rw [if_pos (by rfl)]
  go_simp
  refine (hcop.out _ hHeld.2).mono ?_
  rintro e1 w1 ⟨rfl, hr1, hb1⟩
  have hb1s := lay hb1; have hr1s := lay hr1; clear hb1 hr1
  go_wp2_with fail
  refine hK.out _ _ ⟨(hb1s.out.block _ hgl.out).trans hgs.out.1, (hb1s.out.block _ hbl.out).trans hgs.out.2⟩ (fun hHeld => ?_)
  clear hK K
  try simp only [zA, zB, zC, Act.put, zD, zE, zF]
  refine takeA (i := 29) (v := ?vvp_29_29) rfl (Or.inl ⟨by rfl, ?yvp_29_29⟩) hHeld ?rvp_29_29
  case yvp_29_29 => (intro wq hSw; clear hSw; refine exec_built ?tt ?pp ?h1 (posW w.heap.size cas (.slice none 0 0) half full tn ep chk) ?h2 wq; (case h1 => exact rfl); (case h2 => kernel_rfl))
  try simp only [zA, zB, zC, Act.put, zD, zE, zF]
  have hgl1 : Shut (pg < w1.heap.size) := Nat.lt_of_lt_of_le hgl.out hb1s.out.size
  have hbl1 : Shut (bg < w1.heap.size) := Nat.lt_of_lt_of_le hbl.out hb1s.out.size
  refine wpAnyH_ready (rs := [30]) (by kernel_rfl) (by simp) ?_
  refine AllReadyH.cons rfl (fun K hK => ?_) AllReadyH.nil
  try simp only [zA, zB, zC, Act.put, zD, zE, zF]
  rw [if_pos (by rfl)]
  refine wp_boxed 103 _ rfl (posW w.heap.size cas (.slice none 0 0) half full tn ep chk) (by kernel_rfl) (some 33) rfl ?_
  refine hK.out _ _ (⟨(heap_alloc_old _ _ hgl1.out).trans hHeld.1, (heap_alloc_old _ _ hbl1.out).trans hHeld.2⟩) (fun hHeld => ?_)
  clear hK K
  try simp only [zA, zB, zC, Act.put, zD, zE, zF]
  refine takeA (i := 31) (v := ?vvp_30_31) rfl (Or.inl ⟨by rfl, ?yvp_30_31⟩) hHeld ?rvp_30_31
  case yvp_30_31 => (intro wq hSw; clear hSw; go_simp; try with_reducible rfl)
  try simp only [zA, zB, zC, Act.put, zD, zE, zF]
  refine wpAnyH_done (by kernel_rfl) ?_ _
  have hlt : w.heap.size < w1.heap.size := (Array.getElem?_eq_some_iff.1 hr1s.out).1
  go_wp2_with fail
  go_ret
  refine ⟨w1.heap.size, w.heap.size, ?_, by omega, Nat.le_refl _, by omega, heap_alloc_new w1 _, (heap_alloc_old _ _ hlt).trans hr1s.out, (((Below.refl w.heap.size w).drew).trans hb1s.out).alloc (by omega) _⟩
  first | rfl | kernel_rfl | (simp; done)
end Go.Proofs.YtnjdgooljnbebaaGreatDoor
