/- The copies of a board and of a position. For every board and position. (Printed by gen_vc.py.) -/
import Derived.Test.YtnjdgooljnbebaaGreatDoorG0
import Derived.Test.YtnjdgooljnbebaaGreatDoorGj
namespace Go.Proofs.YtnjdgooljnbebaaGreatDoor
open Go Go.RowKit
open List renaming getElem_toArray → zA, getElem_cons_zero → zB, getElem_cons_succ → zC, setIfInBounds_toArray → zD, set_cons_zero → zE, set_cons_succ → zF
set_option maxHeartbeats 8000000
set_option linter.unusedSimpArgs false
set_option linter.unusedVariables false
set_option maxRecDepth 100000

/-- '&T{..}' in a region. -/
theorem wp_boxed {P : Program} {o : Oper} {a : Act} {w : World} {K : Act → World → Prop} {Q : Exit → Act → World → Prop} (t : TypeId) (x : Operand) (ho : o.op = .box t x) (cells : Array Value) (hx : (a.eval x).cells = cells) (dst : Option Tmp) (hd : o.dst = dst)
    (h : K (a.put dst (.pointer (some ⟨w.heap.size, 0, none⟩))) (w.alloc (.cells cells t))) : o.wp P a w K Q := by
  subst hx hd
  unfold Oper.wp execOp
  simp only [ho, Sem.run_bind, Instr.box, newVar, newRow, run_newObj_alloc, Sem.run_pure, Result.andThen_ok]
  exact h
theorem exec_built {P : Program} {o : Oper} {a : Act} (t : TypeId) (parts : Array (Nat × Operand)) (ho : o.op = .build t parts) (cells : Array Value) (hf : P.built t (parts.map fun (i, x) => (i, a.eval x)).toList = some cells) (w : World) : (execOp a.eval o).run P w = .ok (.value (.agg cells)) w := by
  unfold execOp
  simp only [ho, Sem.run_bind, run_build w t _ cells hf, Result.andThen_ok, Sem.run_pure]
theorem vc_copy (F : Nat → BitVec 64) (a b c : BitVec 64) (d e : Int) (g : Nat) (w : World) (hg : w.heap[g]? = some (.cells (brdF F (bbv a) (bbv b) (bbv c) (.int .i8 d) (.int .i8 e)) 144 (0, 0))) :
    Calls Tryz.prog 80 #[.pointer (some ⟨g, 0, none⟩)] w fun e' w' => e' = .returned (.pointer (some ⟨w.heap.size, 0, none⟩)) ∧ w'.heap[w.heap.size]? = some (.cells (brdF F (bbv a) (bbv b) (bbv c) (.int .i8 d) (.int .i8 e)) 144 (0, 0)) ∧ Below w.heap.size w w' := by
  have hgl : Shut (g < w.heap.size) := (Array.getElem?_eq_some_iff.1 hg).1
  have hgs := lay hg
  clear hg
  go_enter Tryz.func80, Tryz.ntmps80
  go_wp2_with fail
  simp only [List.append_eq, List.cons_append, List.nil_append]
  refine wp_region_held_drew (S := fun V : World => V.heap[g]? = some (.cells (brdF F (bbv a) (bbv b) (bbv c) (.int .i8 d) (.int .i8 e)) 144 (0, 0))) (by kernel_rfl) hgs.out (fun hHeld => ?_)
  refine takeC (i := 0) rfl hHeld ?_
  try simp only [zA, zB, zC, Act.put, zD, zE, zF]
  refine takeC (i := 1) rfl hHeld ?_
  try simp only [zA, zB, zC, Act.put, zD, zE, zF]
  refine takeC (i := 2) rfl hHeld ?_
  try simp only [zA, zB, zC, Act.put, zD, zE, zF]
  refine takeA (i := 3) (v := ?vvc_4_3) rfl (Or.inl ⟨by rfl, ?yvc_4_3⟩) hHeld ?rvc_4_3
  case yvc_4_3 => (intro wq hSw; have hq : wq.cell? ⟨g, 12, none⟩ = some (bbv a) := cell_of_row wq g 12 _ _ _ hSw; clear hSw; go_simp; try with_reducible rfl)
  try simp only [zA, zB, zC, Act.put, zD, zE, zF]
  refine takeC (i := 4) rfl hHeld ?_
  try simp only [zA, zB, zC, Act.put, zD, zE, zF]
  refine takeC (i := 5) rfl hHeld ?_
  try simp only [zA, zB, zC, Act.put, zD, zE, zF]
  refine takeC (i := 6) rfl hHeld ?_
  try simp only [zA, zB, zC, Act.put, zD, zE, zF]
  refine takeA (i := 7) (v := ?vvc_8_7) rfl (Or.inl ⟨by rfl, ?yvc_8_7⟩) hHeld ?rvc_8_7
  case yvc_8_7 => (intro wq hSw; have hq : wq.cell? ⟨g, 13, none⟩ = some (bbv b) := cell_of_row wq g 13 _ _ _ hSw; clear hSw; go_simp; try with_reducible rfl)
  try simp only [zA, zB, zC, Act.put, zD, zE, zF]
  refine takeC (i := 8) rfl hHeld ?_
  try simp only [zA, zB, zC, Act.put, zD, zE, zF]
  refine takeC (i := 9) rfl hHeld ?_
  try simp only [zA, zB, zC, Act.put, zD, zE, zF]
  refine takeC (i := 10) rfl hHeld ?_
  try simp only [zA, zB, zC, Act.put, zD, zE, zF]
  refine takeA (i := 11) (v := ?vvc_12_11) rfl (Or.inl ⟨by rfl, ?yvc_12_11⟩) hHeld ?rvc_12_11
  case yvc_12_11 => (intro wq hSw; have hq : wq.cell? ⟨g, 14, none⟩ = some (bbv c) := cell_of_row wq g 14 _ _ _ hSw; clear hSw; go_simp; try with_reducible rfl)
  try simp only [zA, zB, zC, Act.put, zD, zE, zF]
  refine takeC (i := 12) rfl hHeld ?_
  try simp only [zA, zB, zC, Act.put, zD, zE, zF]
  refine takeC (i := 13) rfl hHeld ?_
  try simp only [zA, zB, zC, Act.put, zD, zE, zF]
  refine takeC (i := 14) rfl hHeld ?_
  try simp only [zA, zB, zC, Act.put, zD, zE, zF]
  refine takeA (i := 15) (v := ?vvc_16_15) rfl (Or.inl ⟨by rfl, ?yvc_16_15⟩) hHeld ?rvc_16_15
  case yvc_16_15 => (intro wq hSw; have hq : wq.cell? ⟨g, 15, none⟩ = some (.int .i8 d) := cell_of_row wq g 15 _ _ _ hSw; clear hSw; go_simp; try with_reducible rfl)
  try simp only [zA, zB, zC, Act.put, zD, zE, zF]
  refine takeC (i := 16) rfl hHeld ?_
  try simp only [zA, zB, zC, Act.put, zD, zE, zF]
  refine takeC (i := 17) rfl hHeld ?_
  try simp only [zA, zB, zC, Act.put, zD, zE, zF]
  refine takeC (i := 18) rfl hHeld ?_
  try simp only [zA, zB, zC, Act.put, zD, zE, zF]
  refine takeA (i := 19) (v := ?vvc_20_19) rfl (Or.inl ⟨by rfl, ?yvc_20_19⟩) hHeld ?rvc_20_19
  case yvc_20_19 => (intro wq hSw; have hq : wq.cell? ⟨g, 16, none⟩ = some (.int .i8 e) := cell_of_row wq g 16 _ _ _ hSw; clear hSw; go_simp; try with_reducible rfl)
  try simp only [zA, zB, zC, Act.put, zD, zE, zF]
  refine takeC (i := 20) rfl hHeld ?_
  try simp only [zA, zB, zC, Act.put, zD, zE, zF]
  refine takeC (i := 21) rfl hHeld ?_
  try simp only [zA, zB, zC, Act.put, zD, zE, zF]
  refine takeC (i := 22) rfl hHeld ?_
  try simp only [zA, zB, zC, Act.put, zD, zE, zF]
  refine takeA (i := 23) (v := ?vvc_24_23) rfl (Or.inl ⟨by rfl, ?yvc_24_23⟩) hHeld ?rvc_24_23
  case yvc_24_23 => (intro wq hSw; have hq : wq.cell? ⟨g, 0, none⟩ = some (bbv (F 0)) := cell_of_row wq g 0 _ _ _ hSw; clear hSw; go_simp; try with_reducible rfl)
  try simp only [zA, zB, zC, Act.put, zD, zE, zF]
  refine takeC (i := 24) rfl hHeld ?_
  try simp only [zA, zB, zC, Act.put, zD, zE, zF]
  refine takeC (i := 25) rfl hHeld ?_
  try simp only [zA, zB, zC, Act.put, zD, zE, zF]
  refine takeC (i := 26) rfl hHeld ?_
  try simp only [zA, zB, zC, Act.put, zD, zE, zF]
  refine takeA (i := 27) (v := ?vvc_28_27) rfl (Or.inl ⟨by rfl, ?yvc_28_27⟩) hHeld ?rvc_28_27
  case yvc_28_27 => (intro wq hSw; have hq : wq.cell? ⟨g, 1, none⟩ = some (bbv (F 1)) := cell_of_row wq g 1 _ _ _ hSw; clear hSw; go_simp; try with_reducible rfl)
  try simp only [zA, zB, zC, Act.put, zD, zE, zF]
  refine takeC (i := 28) rfl hHeld ?_
  try simp only [zA, zB, zC, Act.put, zD, zE, zF]
  refine takeC (i := 29) rfl hHeld ?_
  try simp only [zA, zB, zC, Act.put, zD, zE, zF]
  refine takeC (i := 30) rfl hHeld ?_
  try simp only [zA, zB, zC, Act.put, zD, zE, zF]
  refine takeA (i := 31) (v := ?vvc_32_31) rfl (Or.inl ⟨by rfl, ?yvc_32_31⟩) hHeld ?rvc_32_31
  case yvc_32_31 => (intro wq hSw; have hq : wq.cell? ⟨g, 2, none⟩ = some (bbv (F 2)) := cell_of_row wq g 2 _ _ _ hSw; clear hSw; go_simp; try with_reducible rfl)
  try simp only [zA, zB, zC, Act.put, zD, zE, zF]
  refine takeC (i := 32) rfl hHeld ?_
  try simp only [zA, zB, zC, Act.put, zD, zE, zF]
  refine takeC (i := 33) rfl hHeld ?_
  try simp only [zA, zB, zC, Act.put, zD, zE, zF]
  refine takeC (i := 34) rfl hHeld ?_
  try simp only [zA, zB, zC, Act.put, zD, zE, zF]
  refine takeA (i := 35) (v := ?vvc_36_35) rfl (Or.inl ⟨by rfl, ?yvc_36_35⟩) hHeld ?rvc_36_35
  case yvc_36_35 => (intro wq hSw; have hq : wq.cell? ⟨g, 3, none⟩ = some (bbv (F 3)) := cell_of_row wq g 3 _ _ _ hSw; clear hSw; go_simp; try with_reducible rfl)
  try simp only [zA, zB, zC, Act.put, zD, zE, zF]
  refine takeC (i := 36) rfl hHeld ?_
  try simp only [zA, zB, zC, Act.put, zD, zE, zF]
  refine takeC (i := 37) rfl hHeld ?_
  try simp only [zA, zB, zC, Act.put, zD, zE, zF]
  refine takeC (i := 38) rfl hHeld ?_
  try simp only [zA, zB, zC, Act.put, zD, zE, zF]
  refine takeA (i := 39) (v := ?vvc_40_39) rfl (Or.inl ⟨by rfl, ?yvc_40_39⟩) hHeld ?rvc_40_39
  case yvc_40_39 => (intro wq hSw; have hq : wq.cell? ⟨g, 4, none⟩ = some (bbv (F 4)) := cell_of_row wq g 4 _ _ _ hSw; clear hSw; go_simp; try with_reducible rfl)
  try simp only [zA, zB, zC, Act.put, zD, zE, zF]
  refine takeC (i := 40) rfl hHeld ?_
  try simp only [zA, zB, zC, Act.put, zD, zE, zF]
  refine takeC (i := 41) rfl hHeld ?_
  try simp only [zA, zB, zC, Act.put, zD, zE, zF]
  refine takeC (i := 42) rfl hHeld ?_
  try simp only [zA, zB, zC, Act.put, zD, zE, zF]
  refine takeA (i := 43) (v := ?vvc_44_43) rfl (Or.inl ⟨by rfl, ?yvc_44_43⟩) hHeld ?rvc_44_43
  case yvc_44_43 => (intro wq hSw; have hq : wq.cell? ⟨g, 5, none⟩ = some (bbv (F 5)) := cell_of_row wq g 5 _ _ _ hSw; clear hSw; go_simp; try with_reducible rfl)
  try simp only [zA, zB, zC, Act.put, zD, zE, zF]
  refine takeC (i := 44) rfl hHeld ?_
  try simp only [zA, zB, zC, Act.put, zD, zE, zF]
  refine takeC (i := 45) rfl hHeld ?_
  try simp only [zA, zB, zC, Act.put, zD, zE, zF]
  refine takeC (i := 46) rfl hHeld ?_
  try simp only [zA, zB, zC, Act.put, zD, zE, zF]
  refine takeA (i := 47) (v := ?vvc_48_47) rfl (Or.inl ⟨by rfl, ?yvc_48_47⟩) hHeld ?rvc_48_47
  case yvc_48_47 => (intro wq hSw; have hq : wq.cell? ⟨g, 6, none⟩ = some (bbv (F 6)) := cell_of_row wq g 6 _ _ _ hSw; clear hSw; go_simp; try with_reducible rfl)
  try simp only [zA, zB, zC, Act.put, zD, zE, zF]
  refine takeC (i := 48) rfl hHeld ?_
  try simp only [zA, zB, zC, Act.put, zD, zE, zF]
  refine takeC (i := 49) rfl hHeld ?_
  try simp only [zA, zB, zC, Act.put, zD, zE, zF]
  refine takeC (i := 50) rfl hHeld ?_
  try simp only [zA, zB, zC, Act.put, zD, zE, zF]
  refine takeA (i := 51) (v := ?vvc_52_51) rfl (Or.inl ⟨by rfl, ?yvc_52_51⟩) hHeld ?rvc_52_51
  case yvc_52_51 => (intro wq hSw; have hq : wq.cell? ⟨g, 7, none⟩ = some (bbv (F 7)) := cell_of_row wq g 7 _ _ _ hSw; clear hSw; go_simp; try with_reducible rfl)
  try simp only [zA, zB, zC, Act.put, zD, zE, zF]
  refine takeC (i := 52) rfl hHeld ?_
  try simp only [zA, zB, zC, Act.put, zD, zE, zF]
  refine takeC (i := 53) rfl hHeld ?_
  try simp only [zA, zB, zC, Act.put, zD, zE, zF]
  refine takeC (i := 54) rfl hHeld ?_
  try simp only [zA, zB, zC, Act.put, zD, zE, zF]
  refine takeA (i := 55) (v := ?vvc_56_55) rfl (Or.inl ⟨by rfl, ?yvc_56_55⟩) hHeld ?rvc_56_55
  case yvc_56_55 => (intro wq hSw; have hq : wq.cell? ⟨g, 8, none⟩ = some (bbv (F 8)) := cell_of_row wq g 8 _ _ _ hSw; clear hSw; go_simp; try with_reducible rfl)
  try simp only [zA, zB, zC, Act.put, zD, zE, zF]
  refine takeC (i := 56) rfl hHeld ?_
  try simp only [zA, zB, zC, Act.put, zD, zE, zF]
  refine takeC (i := 57) rfl hHeld ?_
  try simp only [zA, zB, zC, Act.put, zD, zE, zF]
  refine takeC (i := 58) rfl hHeld ?_
  try simp only [zA, zB, zC, Act.put, zD, zE, zF]
  refine takeA (i := 59) (v := ?vvc_60_59) rfl (Or.inl ⟨by rfl, ?yvc_60_59⟩) hHeld ?rvc_60_59
  case yvc_60_59 => (intro wq hSw; have hq : wq.cell? ⟨g, 9, none⟩ = some (bbv (F 9)) := cell_of_row wq g 9 _ _ _ hSw; clear hSw; go_simp; try with_reducible rfl)
  try simp only [zA, zB, zC, Act.put, zD, zE, zF]
  refine takeC (i := 60) rfl hHeld ?_
  try simp only [zA, zB, zC, Act.put, zD, zE, zF]
  refine takeC (i := 61) rfl hHeld ?_
  try simp only [zA, zB, zC, Act.put, zD, zE, zF]
  refine takeC (i := 62) rfl hHeld ?_
  try simp only [zA, zB, zC, Act.put, zD, zE, zF]
  refine takeA (i := 63) (v := ?vvc_64_63) rfl (Or.inl ⟨by rfl, ?yvc_64_63⟩) hHeld ?rvc_64_63
  case yvc_64_63 => (intro wq hSw; have hq : wq.cell? ⟨g, 10, none⟩ = some (bbv (F 10)) := cell_of_row wq g 10 _ _ _ hSw; clear hSw; go_simp; try with_reducible rfl)
  try simp only [zA, zB, zC, Act.put, zD, zE, zF]
  refine takeC (i := 64) rfl hHeld ?_
  try simp only [zA, zB, zC, Act.put, zD, zE, zF]
  refine takeC (i := 65) rfl hHeld ?_
  try simp only [zA, zB, zC, Act.put, zD, zE, zF]
  refine takeC (i := 66) rfl hHeld ?_
  try simp only [zA, zB, zC, Act.put, zD, zE, zF]
  refine takeA (i := 67) (v := ?vvc_68_67) rfl (Or.inl ⟨by rfl, ?yvc_68_67⟩) hHeld ?rvc_68_67
  case yvc_68_67 => (intro wq hSw; have hq : wq.cell? ⟨g, 11, none⟩ = some (bbv (F 11)) := cell_of_row wq g 11 _ _ _ hSw; clear hSw; go_simp; try with_reducible rfl)
  try simp only [zA, zB, zC, Act.put, zD, zE, zF]
  refine takeA (i := 68) (v := ?vvc_69_68) rfl (Or.inl ⟨by rfl, ?yvc_69_68⟩) hHeld ?rvc_69_68
  case yvc_69_68 => (intro wq hSw; clear hSw; refine exec_built ?tt ?pp ?h1 (brdF F (bbv a) (bbv b) (bbv c) (.int .i8 d) (.int .i8 e)) ?h2 wq; (case h1 => exact rfl); (case h2 => kernel_rfl))
  try simp only [zA, zB, zC, Act.put, zD, zE, zF]
  refine wpAnyH_ready (rs := [69]) (by kernel_rfl) (by simp) ?_
  refine AllReadyH.cons rfl (fun K hK => ?_) AllReadyH.nil
  try simp only [zA, zB, zC, Act.put, zD, zE, zF]
  rw [if_pos (by rfl)]
  refine wp_boxed 144 _ rfl (brdF F (bbv a) (bbv b) (bbv c) (.int .i8 d) (.int .i8 e)) (by kernel_rfl) (some 72) rfl ?_
  refine hK.out _ _ ((heap_alloc_old _ _ hgl.out).trans hHeld) (fun hHeld => ?_)
  clear hK K
  try simp only [zA, zB, zC, Act.put, zD, zE, zF]
  refine takeC (i := 70) rfl hHeld ?_
  try simp only [zA, zB, zC, Act.put, zD, zE, zF]
  refine wpAnyH_done (by kernel_rfl) ?_ _
  go_wp2_with fail
  go_ret
  refine ⟨?_, heap_alloc_new w.drew _, ((Below.refl w.heap.size w).drew).alloc (Nat.le_refl _) _⟩
  first | rfl | kernel_rfl | (simp; done)
/-- The cells of a position, whatever moves are cached. -/
def posW (bg : Nat) (cas : ByteArray) (v : Value) (half full tn ep : Int) (chk : Bool) : Array Value :=
  #[.pointer (some ⟨bg, 0, none⟩), .string cas, v, .int .i64 half, .int .i64 full, .int .i8 (tn + 1), .int .i8 ep, .bool chk]
theorem vc_pcopy (p : List Int) (bg pg : Nat) (cas : ByteArray) (v : Value) (half full tn ep : Int) (chk : Bool) (w : World) (hpg : w.heap[pg]? = some (.cells (posW bg cas v half full tn ep chk) 103 (0, 0))) (hbg : w.heap[bg]? = some (.cells (brd p) 144 (0, 0))) :
    Calls Tryz.prog 146 #[.pointer (some ⟨pg, 0, none⟩)] w fun e' w' => ∃ cg cb, e' = .returned (.pointer (some ⟨cg, 0, none⟩)) ∧ w.heap.size ≤ cg ∧ w.heap.size ≤ cb ∧ cb ≠ cg ∧ w'.heap[cg]? = some (.cells (posW cb cas (.slice none 0 0) half full tn ep chk) 103 (0, 0)) ∧ w'.heap[cb]? = some (.cells (brd p) 144 (0, 0)) ∧ Below w.heap.size w w' := by
  have hgl : Shut (pg < w.heap.size) := (Array.getElem?_eq_some_iff.1 hpg).1
  have hbl : Shut (bg < w.heap.size) := (Array.getElem?_eq_some_iff.1 hbg).1
  have hgs := lay (And.intro hpg hbg)
  have hcop := lay (fun W h => vc_copy (bbF p) (whiteB p) (blackB p) (~~~(whiteB p ||| blackB p)) (lastK p 1 64) (lastK p 7 64) bg W h)
  clear hpg hbg
  go_enter Tryz.func146, Tryz.ntmps146
  go_wp2_with fail
  refine wp_region_held_drew (S := fun V : World => V.heap[pg]? = some (.cells (posW bg cas v half full tn ep chk) 103 (0, 0)) ∧ V.heap[bg]? = some (.cells (brd p) 144 (0, 0))) (by kernel_rfl) hgs.out (fun hHeld => ?_)
  refine takeC (i := 0) rfl hHeld ?_
  try simp only [zA, zB, zC, Act.put, zD, zE, zF]
  refine takeC (i := 1) rfl hHeld ?_
  try simp only [zA, zB, zC, Act.put, zD, zE, zF]
  refine takeC (i := 2) rfl hHeld ?_
  try simp only [zA, zB, zC, Act.put, zD, zE, zF]
  refine takeA (i := 3) (v := ?vvp_4_3) rfl (Or.inl ⟨by rfl, ?yvp_4_3⟩) hHeld ?rvp_4_3
  case yvp_4_3 => (intro wq hSw; have hq : wq.cell? ⟨pg, 0, none⟩ = some (.pointer (some ⟨bg, 0, none⟩)) := cell_of_row wq pg 0 _ _ _ hSw.1; clear hSw; go_simp; try with_reducible rfl)
  try simp only [zA, zB, zC, Act.put, zD, zE, zF]
  refine takeC (i := 5) rfl hHeld ?_
  try simp only [zA, zB, zC, Act.put, zD, zE, zF]
  refine takeC (i := 6) rfl hHeld ?_
  try simp only [zA, zB, zC, Act.put, zD, zE, zF]
  refine takeC (i := 7) rfl hHeld ?_
  try simp only [zA, zB, zC, Act.put, zD, zE, zF]
  refine takeA (i := 8) (v := ?vvp_8_8) rfl (Or.inl ⟨by rfl, ?yvp_8_8⟩) hHeld ?rvp_8_8
  case yvp_8_8 => (intro wq hSw; have hq : wq.cell? ⟨pg, 5, none⟩ = some (.int .i8 (tn + 1)) := cell_of_row wq pg 5 _ _ _ hSw.1; clear hSw; go_simp; try with_reducible rfl)
  try simp only [zA, zB, zC, Act.put, zD, zE, zF]
  refine takeC (i := 9) rfl hHeld ?_
  try simp only [zA, zB, zC, Act.put, zD, zE, zF]
  refine takeC (i := 10) rfl hHeld ?_
  try simp only [zA, zB, zC, Act.put, zD, zE, zF]
  refine takeC (i := 11) rfl hHeld ?_
  try simp only [zA, zB, zC, Act.put, zD, zE, zF]
  refine takeA (i := 12) (v := ?vvp_12_12) rfl (Or.inl ⟨by rfl, ?yvp_12_12⟩) hHeld ?rvp_12_12
  case yvp_12_12 => (intro wq hSw; have hq : wq.cell? ⟨pg, 1, none⟩ = some (.string cas) := cell_of_row wq pg 1 _ _ _ hSw.1; clear hSw; go_simp; try with_reducible rfl)
  try simp only [zA, zB, zC, Act.put, zD, zE, zF]
  refine takeC (i := 13) rfl hHeld ?_
  try simp only [zA, zB, zC, Act.put, zD, zE, zF]
  refine takeC (i := 14) rfl hHeld ?_
  try simp only [zA, zB, zC, Act.put, zD, zE, zF]
  refine takeC (i := 15) rfl hHeld ?_
  try simp only [zA, zB, zC, Act.put, zD, zE, zF]
  refine takeA (i := 16) (v := ?vvp_16_16) rfl (Or.inl ⟨by rfl, ?yvp_16_16⟩) hHeld ?rvp_16_16
  case yvp_16_16 => (intro wq hSw; have hq : wq.cell? ⟨pg, 6, none⟩ = some (.int .i8 ep) := cell_of_row wq pg 6 _ _ _ hSw.1; clear hSw; go_simp; try with_reducible rfl)
  try simp only [zA, zB, zC, Act.put, zD, zE, zF]
  refine takeC (i := 17) rfl hHeld ?_
  try simp only [zA, zB, zC, Act.put, zD, zE, zF]
  refine takeC (i := 18) rfl hHeld ?_
  try simp only [zA, zB, zC, Act.put, zD, zE, zF]
  refine takeC (i := 19) rfl hHeld ?_
  try simp only [zA, zB, zC, Act.put, zD, zE, zF]
  refine takeA (i := 20) (v := ?vvp_20_20) rfl (Or.inl ⟨by rfl, ?yvp_20_20⟩) hHeld ?rvp_20_20
  case yvp_20_20 => (intro wq hSw; have hq : wq.cell? ⟨pg, 3, none⟩ = some (.int .i64 half) := cell_of_row wq pg 3 _ _ _ hSw.1; clear hSw; go_simp; try with_reducible rfl)
  try simp only [zA, zB, zC, Act.put, zD, zE, zF]
  refine takeC (i := 21) rfl hHeld ?_
  try simp only [zA, zB, zC, Act.put, zD, zE, zF]
  refine takeC (i := 22) rfl hHeld ?_
  try simp only [zA, zB, zC, Act.put, zD, zE, zF]
  refine takeC (i := 23) rfl hHeld ?_
  try simp only [zA, zB, zC, Act.put, zD, zE, zF]
  refine takeA (i := 24) (v := ?vvp_24_24) rfl (Or.inl ⟨by rfl, ?yvp_24_24⟩) hHeld ?rvp_24_24
  case yvp_24_24 => (intro wq hSw; have hq : wq.cell? ⟨pg, 4, none⟩ = some (.int .i64 full) := cell_of_row wq pg 4 _ _ _ hSw.1; clear hSw; go_simp; try with_reducible rfl)
  try simp only [zA, zB, zC, Act.put, zD, zE, zF]
  refine takeC (i := 25) rfl hHeld ?_
  try simp only [zA, zB, zC, Act.put, zD, zE, zF]
  refine takeC (i := 26) rfl hHeld ?_
  try simp only [zA, zB, zC, Act.put, zD, zE, zF]
  refine takeC (i := 27) rfl hHeld ?_
  try simp only [zA, zB, zC, Act.put, zD, zE, zF]
  refine takeA (i := 28) (v := ?vvp_28_28) rfl (Or.inl ⟨by rfl, ?yvp_28_28⟩) hHeld ?rvp_28_28
  case yvp_28_28 => (intro wq hSw; have hq : wq.cell? ⟨pg, 7, none⟩ = some (.bool chk) := cell_of_row wq pg 7 _ _ _ hSw.1; clear hSw; go_simp; try with_reducible rfl)
  try simp only [zA, zB, zC, Act.put, zD, zE, zF]
  refine wpAnyH_ready (rs := [4]) (by kernel_rfl) (by simp) ?_
  refine AllReadyH.cons rfl (fun K hK => ?_) AllReadyH.nil
  try simp only [zA, zB, zC, Act.put, zD, zE, zF]
  try rw [if_pos (by rfl)]
  go_simp
  refine (hcop.out _ hHeld.2).mono ?_
  rintro e1 w1 ⟨rfl, hr1, hb1⟩
  have hb1s := lay hb1; have hr1s := lay hr1; clear hb1 hr1
  go_wp2_with fail
  refine hK.out _ _ ⟨(hb1s.out.block _ hgl.out).trans hgs.out.1, (hb1s.out.block _ hbl.out).trans hgs.out.2⟩ (fun hHeld => ?_)
  clear hK K
  try simp only [zA, zB, zC, Act.put, zD, zE, zF]
  refine takeA (i := 29) (v := ?vvp_29_29) rfl (Or.inl ⟨by rfl, ?yvp_29_29⟩) hHeld ?rvp_29_29
  case yvp_29_29 => (intro wq hSw; clear hSw; refine exec_built ?tt ?pp ?h1 (posW w.heap.size cas (.slice none 0 0) half full tn ep chk) ?h2 wq; (case h1 => exact rfl); (case h2 => kernel_rfl))
  try simp only [zA, zB, zC, Act.put, zD, zE, zF]
  have hgl1 : Shut (pg < w1.heap.size) := Nat.lt_of_lt_of_le hgl.out hb1s.out.size
  have hbl1 : Shut (bg < w1.heap.size) := Nat.lt_of_lt_of_le hbl.out hb1s.out.size
  refine wpAnyH_ready (rs := [30]) (by kernel_rfl) (by simp) ?_
  refine AllReadyH.cons rfl (fun K hK => ?_) AllReadyH.nil
  try simp only [zA, zB, zC, Act.put, zD, zE, zF]
  rw [if_pos (by rfl)]
  refine wp_boxed 103 _ rfl (posW w.heap.size cas (.slice none 0 0) half full tn ep chk) (by kernel_rfl) (some 33) rfl ?_
  refine hK.out _ _ (⟨(heap_alloc_old _ _ hgl1.out).trans hHeld.1, (heap_alloc_old _ _ hbl1.out).trans hHeld.2⟩) (fun hHeld => ?_)
  clear hK K
  try simp only [zA, zB, zC, Act.put, zD, zE, zF]
  refine takeC (i := 31) rfl hHeld ?_
  try simp only [zA, zB, zC, Act.put, zD, zE, zF]
  refine wpAnyH_done (by kernel_rfl) ?_ _
  have hlt : w.heap.size < w1.heap.size := (Array.getElem?_eq_some_iff.1 hr1s.out).1
  go_wp2_with fail
  go_ret
  refine ⟨w1.heap.size, w.heap.size, ?_, by omega, Nat.le_refl _, by omega, heap_alloc_new w1 _, (heap_alloc_old _ _ hlt).trans hr1s.out, (((Below.refl w.heap.size w).drew).trans hb1s.out).alloc (by omega) _⟩
  first | rfl | kernel_rfl | (simp; done)
end Go.Proofs.YtnjdgooljnbebaaGreatDoor
