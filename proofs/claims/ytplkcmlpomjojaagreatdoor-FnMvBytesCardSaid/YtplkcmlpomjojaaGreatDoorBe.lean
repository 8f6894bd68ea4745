/- FnBdBytes: the bytes of a board. For every board of pieces from 0 to 12. -/
import Derived.Test.YtplkcmlpomjojaaGreatDoorBc
import Derived.Great.BuildSlice
namespace Go.Proofs.YtplkcmlpomjojaaGreatDoor
open Go Go.RowKit
set_option maxHeartbeats 4000000
set_option linter.unusedSimpArgs false
set_option linter.unusedVariables false
set_option maxRecDepth 100000

def bytesOf (F : Nat → BitVec 64) (k : Nat) : List Value := (List.range k).flatMap fun i => bytes8 (F i)
theorem bytesOf_step (F : Nat → BitVec 64) (k : Nat) : bytesOf F (k + 1) = bytesOf F k ++ bytes8 (F k) := by simp [bytesOf, List.range_succ]
def brd12 (F : Nat → BitVec 64) : Array Value := #[bbv (F 0), bbv (F 1), bbv (F 2), bbv (F 3), bbv (F 4), bbv (F 5), bbv (F 6), bbv (F 7), bbv (F 8), bbv (F 9), bbv (F 10), bbv (F 11)]
theorem brd12_get (F : Nat → BitVec 64) (k : Nat) (h : k < 12) : (brd12 F)[k]? = some (bbv (F k)) := by
  rcases twelve h with rfl | rfl | rfl | rfl | rfl | rfl | rfl | rfl | rfl | rfl | rfl | rfl <;> rfl
theorem be_marshal (F : Nat → BitVec 64) (a b c d e : Value) (g : Nat) (w : World) (hg : w.heap[g]? = some (.cells (brdF F a b c d e) 125 (0, 0))) :
    Calls Tryz.prog 82 #[.pointer (some ⟨g, 0, none⟩)] w fun e' w' => ∃ v, e' = .returned (.tuple #[v, .nilIface]) ∧ w'.ownsRow w.heap.size 5 1 v 96 (bytesOf F 12) ∧ Below w.heap.size w w' := by
  have hglt : g < w.heap.size := (Array.getElem?_eq_some_iff.1 hg).1
  have c : ∀ k, k < 12 → w.cell? ⟨g, k, none⟩ = some (bbv (F k)) := fun k hk => (cell_of_row w g k _ _ _ hg).trans (brdF_get F a b c d e k hk)
  have c0 := c 0 (by omega)
  have c1 := c 1 (by omega)
  have c2 := c 2 (by omega)
  have c3 := c 3 (by omega)
  have c4 := c 4 (by omega)
  have c5 := c 5 (by omega)
  have c6 := c 6 (by omega)
  have c7 := c 7 (by omega)
  have c8 := c 8 (by omega)
  have c9 := c 9 (by omega)
  have c10 := c 10 (by omega)
  have c11 := c 11 (by omega)
  clear c hg
  obtain ⟨ib, hib, hz0, hz1, hz2⟩ := info_parts (show (Tryz.prog.info? 123).map (fun i => (i.zero, i.size, i.bytes)) = some (some (.int .u64 0), 1, 8) by kernel_rfl)
  go_enter Tryz.func82, Tryz.ntmps82
  go_wp2_with fail
  refine wp_region_held_drew (S := (fun w' : World => w'.cell? ⟨g, 0, none⟩ = some (bbv (F 0)) ∧ w'.cell? ⟨g, 1, none⟩ = some (bbv (F 1)) ∧ w'.cell? ⟨g, 2, none⟩ = some (bbv (F 2)) ∧ w'.cell? ⟨g, 3, none⟩ = some (bbv (F 3)) ∧ w'.cell? ⟨g, 4, none⟩ = some (bbv (F 4)) ∧ w'.cell? ⟨g, 5, none⟩ = some (bbv (F 5)) ∧ w'.cell? ⟨g, 6, none⟩ = some (bbv (F 6)) ∧ w'.cell? ⟨g, 7, none⟩ = some (bbv (F 7)) ∧ w'.cell? ⟨g, 8, none⟩ = some (bbv (F 8)) ∧ w'.cell? ⟨g, 9, none⟩ = some (bbv (F 9)) ∧ w'.cell? ⟨g, 10, none⟩ = some (bbv (F 10)) ∧ w'.cell? ⟨g, 11, none⟩ = some (bbv (F 11)))) (by kernel_rfl) ⟨c0, c1, c2, c3, c4, c5, c6, c7, c8, c9, c10, c11⟩ (fun hHeld => ?_)
  clear c0 c1 c2 c3 c4 c5 c6 c7 c8 c9 c10 c11
  refine wpAnyH_take (i := 0) (v := ?v0) rfl (by kernel_rfl) (by kernel_rfl) (by kernel_rfl) (fun _ _ _ h => h) (Or.inl ⟨by rfl, ?y0⟩) hHeld ?r0
  case y0 => (intro wq hSw; clear hSw; go_simp; try with_reducible rfl)
  try simp only [List.getElem_toArray, List.getElem_cons_zero, List.getElem_cons_succ, Act.put, List.setIfInBounds_toArray, List.set_cons_zero, List.set_cons_succ]
  refine wpAnyH_take (i := 1) (v := ?v1) rfl (by kernel_rfl) (by kernel_rfl) (by kernel_rfl) (fun _ _ _ h => h) (Or.inl ⟨by rfl, ?y1⟩) hHeld ?r1
  case y1 => (intro wq hSw; clear hSw; go_simp; try with_reducible rfl)
  try simp only [List.getElem_toArray, List.getElem_cons_zero, List.getElem_cons_succ, Act.put, List.setIfInBounds_toArray, List.set_cons_zero, List.set_cons_succ]
  refine wpAnyH_take (i := 2) (v := ?v2) rfl (by kernel_rfl) (by kernel_rfl) (by kernel_rfl) (fun _ _ _ h => h) (Or.inl ⟨by rfl, ?y2⟩) hHeld ?r2
  case y2 => (intro wq hSw; clear hSw; go_simp; try with_reducible rfl)
  try simp only [List.getElem_toArray, List.getElem_cons_zero, List.getElem_cons_succ, Act.put, List.setIfInBounds_toArray, List.set_cons_zero, List.set_cons_succ]
  refine wpAnyH_take (i := 3) (v := ?v3) rfl (by kernel_rfl) (by kernel_rfl) (by kernel_rfl) (fun _ _ _ h => h) (Or.inl ⟨by rfl, ?y3⟩) hHeld ?r3
  case y3 => (intro wq hSw; have hq := hSw.1; clear hSw; go_simp; try with_reducible rfl)
  try simp only [List.getElem_toArray, List.getElem_cons_zero, List.getElem_cons_succ, Act.put, List.setIfInBounds_toArray, List.set_cons_zero, List.set_cons_succ]
  refine wpAnyH_take (i := 4) (v := ?v4) rfl (by kernel_rfl) (by kernel_rfl) (by kernel_rfl) (fun _ _ _ h => h) (Or.inl ⟨by rfl, ?y4⟩) hHeld ?r4
  case y4 => (intro wq hSw; clear hSw; go_simp; try with_reducible rfl)
  try simp only [List.getElem_toArray, List.getElem_cons_zero, List.getElem_cons_succ, Act.put, List.setIfInBounds_toArray, List.set_cons_zero, List.set_cons_succ]
  refine wpAnyH_take (i := 5) (v := ?v5) rfl (by kernel_rfl) (by kernel_rfl) (by kernel_rfl) (fun _ _ _ h => h) (Or.inl ⟨by rfl, ?y5⟩) hHeld ?r5
  case y5 => (intro wq hSw; clear hSw; go_simp; try with_reducible rfl)
  try simp only [List.getElem_toArray, List.getElem_cons_zero, List.getElem_cons_succ, Act.put, List.setIfInBounds_toArray, List.set_cons_zero, List.set_cons_succ]
  refine wpAnyH_take (i := 6) (v := ?v6) rfl (by kernel_rfl) (by kernel_rfl) (by kernel_rfl) (fun _ _ _ h => h) (Or.inl ⟨by rfl, ?y6⟩) hHeld ?r6
  case y6 => (intro wq hSw; clear hSw; go_simp; try with_reducible rfl)
  try simp only [List.getElem_toArray, List.getElem_cons_zero, List.getElem_cons_succ, Act.put, List.setIfInBounds_toArray, List.set_cons_zero, List.set_cons_succ]
  refine wpAnyH_take (i := 7) (v := ?v7) rfl (by kernel_rfl) (by kernel_rfl) (by kernel_rfl) (fun _ _ _ h => h) (Or.inl ⟨by rfl, ?y7⟩) hHeld ?r7
  case y7 => (intro wq hSw; have hq := hSw.2.1; clear hSw; go_simp; try with_reducible rfl)
  try simp only [List.getElem_toArray, List.getElem_cons_zero, List.getElem_cons_succ, Act.put, List.setIfInBounds_toArray, List.set_cons_zero, List.set_cons_succ]
  refine wpAnyH_take (i := 8) (v := ?v8) rfl (by kernel_rfl) (by kernel_rfl) (by kernel_rfl) (fun _ _ _ h => h) (Or.inl ⟨by rfl, ?y8⟩) hHeld ?r8
  case y8 => (intro wq hSw; clear hSw; go_simp; try with_reducible rfl)
  try simp only [List.getElem_toArray, List.getElem_cons_zero, List.getElem_cons_succ, Act.put, List.setIfInBounds_toArray, List.set_cons_zero, List.set_cons_succ]
  refine wpAnyH_take (i := 9) (v := ?v9) rfl (by kernel_rfl) (by kernel_rfl) (by kernel_rfl) (fun _ _ _ h => h) (Or.inl ⟨by rfl, ?y9⟩) hHeld ?r9
  case y9 => (intro wq hSw; clear hSw; go_simp; try with_reducible rfl)
  try simp only [List.getElem_toArray, List.getElem_cons_zero, List.getElem_cons_succ, Act.put, List.setIfInBounds_toArray, List.set_cons_zero, List.set_cons_succ]
  refine wpAnyH_take (i := 10) (v := ?v10) rfl (by kernel_rfl) (by kernel_rfl) (by kernel_rfl) (fun _ _ _ h => h) (Or.inl ⟨by rfl, ?y10⟩) hHeld ?r10
  case y10 => (intro wq hSw; clear hSw; go_simp; try with_reducible rfl)
  try simp only [List.getElem_toArray, List.getElem_cons_zero, List.getElem_cons_succ, Act.put, List.setIfInBounds_toArray, List.set_cons_zero, List.set_cons_succ]
  refine wpAnyH_take (i := 11) (v := ?v11) rfl (by kernel_rfl) (by kernel_rfl) (by kernel_rfl) (fun _ _ _ h => h) (Or.inl ⟨by rfl, ?y11⟩) hHeld ?r11
  case y11 => (intro wq hSw; have hq := hSw.2.2.1; clear hSw; go_simp; try with_reducible rfl)
  try simp only [List.getElem_toArray, List.getElem_cons_zero, List.getElem_cons_succ, Act.put, List.setIfInBounds_toArray, List.set_cons_zero, List.set_cons_succ]
  refine wpAnyH_take (i := 12) (v := ?v12) rfl (by kernel_rfl) (by kernel_rfl) (by kernel_rfl) (fun _ _ _ h => h) (Or.inl ⟨by rfl, ?y12⟩) hHeld ?r12
  case y12 => (intro wq hSw; clear hSw; go_simp; try with_reducible rfl)
  try simp only [List.getElem_toArray, List.getElem_cons_zero, List.getElem_cons_succ, Act.put, List.setIfInBounds_toArray, List.set_cons_zero, List.set_cons_succ]
  refine wpAnyH_take (i := 13) (v := ?v13) rfl (by kernel_rfl) (by kernel_rfl) (by kernel_rfl) (fun _ _ _ h => h) (Or.inl ⟨by rfl, ?y13⟩) hHeld ?r13
  case y13 => (intro wq hSw; clear hSw; go_simp; try with_reducible rfl)
  try simp only [List.getElem_toArray, List.getElem_cons_zero, List.getElem_cons_succ, Act.put, List.setIfInBounds_toArray, List.set_cons_zero, List.set_cons_succ]
  refine wpAnyH_take (i := 14) (v := ?v14) rfl (by kernel_rfl) (by kernel_rfl) (by kernel_rfl) (fun _ _ _ h => h) (Or.inl ⟨by rfl, ?y14⟩) hHeld ?r14
  case y14 => (intro wq hSw; clear hSw; go_simp; try with_reducible rfl)
  try simp only [List.getElem_toArray, List.getElem_cons_zero, List.getElem_cons_succ, Act.put, List.setIfInBounds_toArray, List.set_cons_zero, List.set_cons_succ]
  refine wpAnyH_take (i := 15) (v := ?v15) rfl (by kernel_rfl) (by kernel_rfl) (by kernel_rfl) (fun _ _ _ h => h) (Or.inl ⟨by rfl, ?y15⟩) hHeld ?r15
  case y15 => (intro wq hSw; have hq := hSw.2.2.2.1; clear hSw; go_simp; try with_reducible rfl)
  try simp only [List.getElem_toArray, List.getElem_cons_zero, List.getElem_cons_succ, Act.put, List.setIfInBounds_toArray, List.set_cons_zero, List.set_cons_succ]
  refine wpAnyH_take (i := 16) (v := ?v16) rfl (by kernel_rfl) (by kernel_rfl) (by kernel_rfl) (fun _ _ _ h => h) (Or.inl ⟨by rfl, ?y16⟩) hHeld ?r16
  case y16 => (intro wq hSw; clear hSw; go_simp; try with_reducible rfl)
  try simp only [List.getElem_toArray, List.getElem_cons_zero, List.getElem_cons_succ, Act.put, List.setIfInBounds_toArray, List.set_cons_zero, List.set_cons_succ]
  refine wpAnyH_take (i := 17) (v := ?v17) rfl (by kernel_rfl) (by kernel_rfl) (by kernel_rfl) (fun _ _ _ h => h) (Or.inl ⟨by rfl, ?y17⟩) hHeld ?r17
  case y17 => (intro wq hSw; clear hSw; go_simp; try with_reducible rfl)
  try simp only [List.getElem_toArray, List.getElem_cons_zero, List.getElem_cons_succ, Act.put, List.setIfInBounds_toArray, List.set_cons_zero, List.set_cons_succ]
  refine wpAnyH_take (i := 18) (v := ?v18) rfl (by kernel_rfl) (by kernel_rfl) (by kernel_rfl) (fun _ _ _ h => h) (Or.inl ⟨by rfl, ?y18⟩) hHeld ?r18
  case y18 => (intro wq hSw; clear hSw; go_simp; try with_reducible rfl)
  try simp only [List.getElem_toArray, List.getElem_cons_zero, List.getElem_cons_succ, Act.put, List.setIfInBounds_toArray, List.set_cons_zero, List.set_cons_succ]
  refine wpAnyH_take (i := 19) (v := ?v19) rfl (by kernel_rfl) (by kernel_rfl) (by kernel_rfl) (fun _ _ _ h => h) (Or.inl ⟨by rfl, ?y19⟩) hHeld ?r19
  case y19 => (intro wq hSw; have hq := hSw.2.2.2.2.1; clear hSw; go_simp; try with_reducible rfl)
  try simp only [List.getElem_toArray, List.getElem_cons_zero, List.getElem_cons_succ, Act.put, List.setIfInBounds_toArray, List.set_cons_zero, List.set_cons_succ]
  refine wpAnyH_take (i := 20) (v := ?v20) rfl (by kernel_rfl) (by kernel_rfl) (by kernel_rfl) (fun _ _ _ h => h) (Or.inl ⟨by rfl, ?y20⟩) hHeld ?r20
  case y20 => (intro wq hSw; clear hSw; go_simp; try with_reducible rfl)
  try simp only [List.getElem_toArray, List.getElem_cons_zero, List.getElem_cons_succ, Act.put, List.setIfInBounds_toArray, List.set_cons_zero, List.set_cons_succ]
  refine wpAnyH_take (i := 21) (v := ?v21) rfl (by kernel_rfl) (by kernel_rfl) (by kernel_rfl) (fun _ _ _ h => h) (Or.inl ⟨by rfl, ?y21⟩) hHeld ?r21
  case y21 => (intro wq hSw; clear hSw; go_simp; try with_reducible rfl)
  try simp only [List.getElem_toArray, List.getElem_cons_zero, List.getElem_cons_succ, Act.put, List.setIfInBounds_toArray, List.set_cons_zero, List.set_cons_succ]
  refine wpAnyH_take (i := 22) (v := ?v22) rfl (by kernel_rfl) (by kernel_rfl) (by kernel_rfl) (fun _ _ _ h => h) (Or.inl ⟨by rfl, ?y22⟩) hHeld ?r22
  case y22 => (intro wq hSw; clear hSw; go_simp; try with_reducible rfl)
  try simp only [List.getElem_toArray, List.getElem_cons_zero, List.getElem_cons_succ, Act.put, List.setIfInBounds_toArray, List.set_cons_zero, List.set_cons_succ]
  refine wpAnyH_take (i := 23) (v := ?v23) rfl (by kernel_rfl) (by kernel_rfl) (by kernel_rfl) (fun _ _ _ h => h) (Or.inl ⟨by rfl, ?y23⟩) hHeld ?r23
  case y23 => (intro wq hSw; have hq := hSw.2.2.2.2.2.1; clear hSw; go_simp; try with_reducible rfl)
  try simp only [List.getElem_toArray, List.getElem_cons_zero, List.getElem_cons_succ, Act.put, List.setIfInBounds_toArray, List.set_cons_zero, List.set_cons_succ]
  refine wpAnyH_take (i := 24) (v := ?v24) rfl (by kernel_rfl) (by kernel_rfl) (by kernel_rfl) (fun _ _ _ h => h) (Or.inl ⟨by rfl, ?y24⟩) hHeld ?r24
  case y24 => (intro wq hSw; clear hSw; go_simp; try with_reducible rfl)
  try simp only [List.getElem_toArray, List.getElem_cons_zero, List.getElem_cons_succ, Act.put, List.setIfInBounds_toArray, List.set_cons_zero, List.set_cons_succ]
  refine wpAnyH_take (i := 25) (v := ?v25) rfl (by kernel_rfl) (by kernel_rfl) (by kernel_rfl) (fun _ _ _ h => h) (Or.inl ⟨by rfl, ?y25⟩) hHeld ?r25
  case y25 => (intro wq hSw; clear hSw; go_simp; try with_reducible rfl)
  try simp only [List.getElem_toArray, List.getElem_cons_zero, List.getElem_cons_succ, Act.put, List.setIfInBounds_toArray, List.set_cons_zero, List.set_cons_succ]
  refine wpAnyH_take (i := 26) (v := ?v26) rfl (by kernel_rfl) (by kernel_rfl) (by kernel_rfl) (fun _ _ _ h => h) (Or.inl ⟨by rfl, ?y26⟩) hHeld ?r26
  case y26 => (intro wq hSw; clear hSw; go_simp; try with_reducible rfl)
  try simp only [List.getElem_toArray, List.getElem_cons_zero, List.getElem_cons_succ, Act.put, List.setIfInBounds_toArray, List.set_cons_zero, List.set_cons_succ]
  refine wpAnyH_take (i := 27) (v := ?v27) rfl (by kernel_rfl) (by kernel_rfl) (by kernel_rfl) (fun _ _ _ h => h) (Or.inl ⟨by rfl, ?y27⟩) hHeld ?r27
  case y27 => (intro wq hSw; have hq := hSw.2.2.2.2.2.2.1; clear hSw; go_simp; try with_reducible rfl)
  try simp only [List.getElem_toArray, List.getElem_cons_zero, List.getElem_cons_succ, Act.put, List.setIfInBounds_toArray, List.set_cons_zero, List.set_cons_succ]
  refine wpAnyH_take (i := 28) (v := ?v28) rfl (by kernel_rfl) (by kernel_rfl) (by kernel_rfl) (fun _ _ _ h => h) (Or.inl ⟨by rfl, ?y28⟩) hHeld ?r28
  case y28 => (intro wq hSw; clear hSw; go_simp; try with_reducible rfl)
  try simp only [List.getElem_toArray, List.getElem_cons_zero, List.getElem_cons_succ, Act.put, List.setIfInBounds_toArray, List.set_cons_zero, List.set_cons_succ]
  refine wpAnyH_take (i := 29) (v := ?v29) rfl (by kernel_rfl) (by kernel_rfl) (by kernel_rfl) (fun _ _ _ h => h) (Or.inl ⟨by rfl, ?y29⟩) hHeld ?r29
  case y29 => (intro wq hSw; clear hSw; go_simp; try with_reducible rfl)
  try simp only [List.getElem_toArray, List.getElem_cons_zero, List.getElem_cons_succ, Act.put, List.setIfInBounds_toArray, List.set_cons_zero, List.set_cons_succ]
  refine wpAnyH_take (i := 30) (v := ?v30) rfl (by kernel_rfl) (by kernel_rfl) (by kernel_rfl) (fun _ _ _ h => h) (Or.inl ⟨by rfl, ?y30⟩) hHeld ?r30
  case y30 => (intro wq hSw; clear hSw; go_simp; try with_reducible rfl)
  try simp only [List.getElem_toArray, List.getElem_cons_zero, List.getElem_cons_succ, Act.put, List.setIfInBounds_toArray, List.set_cons_zero, List.set_cons_succ]
  refine wpAnyH_take (i := 31) (v := ?v31) rfl (by kernel_rfl) (by kernel_rfl) (by kernel_rfl) (fun _ _ _ h => h) (Or.inl ⟨by rfl, ?y31⟩) hHeld ?r31
  case y31 => (intro wq hSw; have hq := hSw.2.2.2.2.2.2.2.1; clear hSw; go_simp; try with_reducible rfl)
  try simp only [List.getElem_toArray, List.getElem_cons_zero, List.getElem_cons_succ, Act.put, List.setIfInBounds_toArray, List.set_cons_zero, List.set_cons_succ]
  refine wpAnyH_take (i := 32) (v := ?v32) rfl (by kernel_rfl) (by kernel_rfl) (by kernel_rfl) (fun _ _ _ h => h) (Or.inl ⟨by rfl, ?y32⟩) hHeld ?r32
  case y32 => (intro wq hSw; clear hSw; go_simp; try with_reducible rfl)
  try simp only [List.getElem_toArray, List.getElem_cons_zero, List.getElem_cons_succ, Act.put, List.setIfInBounds_toArray, List.set_cons_zero, List.set_cons_succ]
  refine wpAnyH_take (i := 33) (v := ?v33) rfl (by kernel_rfl) (by kernel_rfl) (by kernel_rfl) (fun _ _ _ h => h) (Or.inl ⟨by rfl, ?y33⟩) hHeld ?r33
  case y33 => (intro wq hSw; clear hSw; go_simp; try with_reducible rfl)
  try simp only [List.getElem_toArray, List.getElem_cons_zero, List.getElem_cons_succ, Act.put, List.setIfInBounds_toArray, List.set_cons_zero, List.set_cons_succ]
  refine wpAnyH_take (i := 34) (v := ?v34) rfl (by kernel_rfl) (by kernel_rfl) (by kernel_rfl) (fun _ _ _ h => h) (Or.inl ⟨by rfl, ?y34⟩) hHeld ?r34
  case y34 => (intro wq hSw; clear hSw; go_simp; try with_reducible rfl)
  try simp only [List.getElem_toArray, List.getElem_cons_zero, List.getElem_cons_succ, Act.put, List.setIfInBounds_toArray, List.set_cons_zero, List.set_cons_succ]
  refine wpAnyH_take (i := 35) (v := ?v35) rfl (by kernel_rfl) (by kernel_rfl) (by kernel_rfl) (fun _ _ _ h => h) (Or.inl ⟨by rfl, ?y35⟩) hHeld ?r35
  case y35 => (intro wq hSw; have hq := hSw.2.2.2.2.2.2.2.2.1; clear hSw; go_simp; try with_reducible rfl)
  try simp only [List.getElem_toArray, List.getElem_cons_zero, List.getElem_cons_succ, Act.put, List.setIfInBounds_toArray, List.set_cons_zero, List.set_cons_succ]
  refine wpAnyH_take (i := 36) (v := ?v36) rfl (by kernel_rfl) (by kernel_rfl) (by kernel_rfl) (fun _ _ _ h => h) (Or.inl ⟨by rfl, ?y36⟩) hHeld ?r36
  case y36 => (intro wq hSw; clear hSw; go_simp; try with_reducible rfl)
  try simp only [List.getElem_toArray, List.getElem_cons_zero, List.getElem_cons_succ, Act.put, List.setIfInBounds_toArray, List.set_cons_zero, List.set_cons_succ]
  refine wpAnyH_take (i := 37) (v := ?v37) rfl (by kernel_rfl) (by kernel_rfl) (by kernel_rfl) (fun _ _ _ h => h) (Or.inl ⟨by rfl, ?y37⟩) hHeld ?r37
  case y37 => (intro wq hSw; clear hSw; go_simp; try with_reducible rfl)
  try simp only [List.getElem_toArray, List.getElem_cons_zero, List.getElem_cons_succ, Act.put, List.setIfInBounds_toArray, List.set_cons_zero, List.set_cons_succ]
  refine wpAnyH_take (i := 38) (v := ?v38) rfl (by kernel_rfl) (by kernel_rfl) (by kernel_rfl) (fun _ _ _ h => h) (Or.inl ⟨by rfl, ?y38⟩) hHeld ?r38
  case y38 => (intro wq hSw; clear hSw; go_simp; try with_reducible rfl)
  try simp only [List.getElem_toArray, List.getElem_cons_zero, List.getElem_cons_succ, Act.put, List.setIfInBounds_toArray, List.set_cons_zero, List.set_cons_succ]
  refine wpAnyH_take (i := 39) (v := ?v39) rfl (by kernel_rfl) (by kernel_rfl) (by kernel_rfl) (fun _ _ _ h => h) (Or.inl ⟨by rfl, ?y39⟩) hHeld ?r39
  case y39 => (intro wq hSw; have hq := hSw.2.2.2.2.2.2.2.2.2.1; clear hSw; go_simp; try with_reducible rfl)
  try simp only [List.getElem_toArray, List.getElem_cons_zero, List.getElem_cons_succ, Act.put, List.setIfInBounds_toArray, List.set_cons_zero, List.set_cons_succ]
  refine wpAnyH_take (i := 40) (v := ?v40) rfl (by kernel_rfl) (by kernel_rfl) (by kernel_rfl) (fun _ _ _ h => h) (Or.inl ⟨by rfl, ?y40⟩) hHeld ?r40
  case y40 => (intro wq hSw; clear hSw; go_simp; try with_reducible rfl)
  try simp only [List.getElem_toArray, List.getElem_cons_zero, List.getElem_cons_succ, Act.put, List.setIfInBounds_toArray, List.set_cons_zero, List.set_cons_succ]
  refine wpAnyH_take (i := 41) (v := ?v41) rfl (by kernel_rfl) (by kernel_rfl) (by kernel_rfl) (fun _ _ _ h => h) (Or.inl ⟨by rfl, ?y41⟩) hHeld ?r41
  case y41 => (intro wq hSw; clear hSw; go_simp; try with_reducible rfl)
  try simp only [List.getElem_toArray, List.getElem_cons_zero, List.getElem_cons_succ, Act.put, List.setIfInBounds_toArray, List.set_cons_zero, List.set_cons_succ]
  refine wpAnyH_take (i := 42) (v := ?v42) rfl (by kernel_rfl) (by kernel_rfl) (by kernel_rfl) (fun _ _ _ h => h) (Or.inl ⟨by rfl, ?y42⟩) hHeld ?r42
  case y42 => (intro wq hSw; clear hSw; go_simp; try with_reducible rfl)
  try simp only [List.getElem_toArray, List.getElem_cons_zero, List.getElem_cons_succ, Act.put, List.setIfInBounds_toArray, List.set_cons_zero, List.set_cons_succ]
  refine wpAnyH_take (i := 43) (v := ?v43) rfl (by kernel_rfl) (by kernel_rfl) (by kernel_rfl) (fun _ _ _ h => h) (Or.inl ⟨by rfl, ?y43⟩) hHeld ?r43
  case y43 => (intro wq hSw; have hq := hSw.2.2.2.2.2.2.2.2.2.2.1; clear hSw; go_simp; try with_reducible rfl)
  try simp only [List.getElem_toArray, List.getElem_cons_zero, List.getElem_cons_succ, Act.put, List.setIfInBounds_toArray, List.set_cons_zero, List.set_cons_succ]
  refine wpAnyH_take (i := 44) (v := ?v44) rfl (by kernel_rfl) (by kernel_rfl) (by kernel_rfl) (fun _ _ _ h => h) (Or.inl ⟨by rfl, ?y44⟩) hHeld ?r44
  case y44 => (intro wq hSw; clear hSw; go_simp; try with_reducible rfl)
  try simp only [List.getElem_toArray, List.getElem_cons_zero, List.getElem_cons_succ, Act.put, List.setIfInBounds_toArray, List.set_cons_zero, List.set_cons_succ]
  refine wpAnyH_take (i := 45) (v := ?v45) rfl (by kernel_rfl) (by kernel_rfl) (by kernel_rfl) (fun _ _ _ h => h) (Or.inl ⟨by rfl, ?y45⟩) hHeld ?r45
  case y45 => (intro wq hSw; clear hSw; go_simp; try with_reducible rfl)
  try simp only [List.getElem_toArray, List.getElem_cons_zero, List.getElem_cons_succ, Act.put, List.setIfInBounds_toArray, List.set_cons_zero, List.set_cons_succ]
  refine wpAnyH_take (i := 46) (v := ?v46) rfl (by kernel_rfl) (by kernel_rfl) (by kernel_rfl) (fun _ _ _ h => h) (Or.inl ⟨by rfl, ?y46⟩) hHeld ?r46
  case y46 => (intro wq hSw; clear hSw; go_simp; try with_reducible rfl)
  try simp only [List.getElem_toArray, List.getElem_cons_zero, List.getElem_cons_succ, Act.put, List.setIfInBounds_toArray, List.set_cons_zero, List.set_cons_succ]
  refine wpAnyH_take (i := 47) (v := ?v47) rfl (by kernel_rfl) (by kernel_rfl) (by kernel_rfl) (fun _ _ _ h => h) (Or.inl ⟨by rfl, ?y47⟩) hHeld ?r47
  case y47 => (intro wq hSw; have hq := hSw.2.2.2.2.2.2.2.2.2.2.2; clear hSw; go_simp; try with_reducible rfl)
  try simp only [List.getElem_toArray, List.getElem_cons_zero, List.getElem_cons_succ, Act.put, List.setIfInBounds_toArray, List.set_cons_zero, List.set_cons_succ]
  refine wpAnyH_ready (rs := [48]) (by kernel_rfl) (by simp) ?_
  refine AllReadyH.cons rfl (fun K hK => ?_) AllReadyH.nil
  try simp only [List.getElem_toArray, List.getElem_cons_zero, List.getElem_cons_succ, Act.put, List.setIfInBounds_toArray, List.set_cons_zero, List.set_cons_succ]
  rw [if_pos (by rfl)]
  refine wp_buildSlice 155 123 12 _ rfl (brd12 F) ib (.int .u64 0) Tryz.underlying155 hib hz0 ?_ ?_ ?_ ?_
  · rw [hz1]; decide
  · rw [hz1]; decide
  · simp only [hz1]; kernel_rfl
  refine hK.out _ _ ⟨(World.cell?_alloc_lt _ _ _ (by exact hglt)).trans hHeld.1, (World.cell?_alloc_lt _ _ _ (by exact hglt)).trans hHeld.2.1, (World.cell?_alloc_lt _ _ _ (by exact hglt)).trans hHeld.2.2.1, (World.cell?_alloc_lt _ _ _ (by exact hglt)).trans hHeld.2.2.2.1, (World.cell?_alloc_lt _ _ _ (by exact hglt)).trans hHeld.2.2.2.2.1, (World.cell?_alloc_lt _ _ _ (by exact hglt)).trans hHeld.2.2.2.2.2.1, (World.cell?_alloc_lt _ _ _ (by exact hglt)).trans hHeld.2.2.2.2.2.2.1, (World.cell?_alloc_lt _ _ _ (by exact hglt)).trans hHeld.2.2.2.2.2.2.2.1, (World.cell?_alloc_lt _ _ _ (by exact hglt)).trans hHeld.2.2.2.2.2.2.2.2.1, (World.cell?_alloc_lt _ _ _ (by exact hglt)).trans hHeld.2.2.2.2.2.2.2.2.2.1, (World.cell?_alloc_lt _ _ _ (by exact hglt)).trans hHeld.2.2.2.2.2.2.2.2.2.2.1, (World.cell?_alloc_lt _ _ _ (by exact hglt)).trans hHeld.2.2.2.2.2.2.2.2.2.2.2⟩ (fun hHeld => ?_)
  clear hK K
  try simp only [List.getElem_toArray, List.getElem_cons_zero, List.getElem_cons_succ, Act.put, List.setIfInBounds_toArray, List.set_cons_zero, List.set_cons_succ]
  refine wpAnyH_take (i := 49) (v := ?v49) rfl (by kernel_rfl) (by kernel_rfl) (by kernel_rfl) (fun _ _ _ h => h) (Or.inl ⟨by rfl, ?y49⟩) hHeld ?r49
  case y49 => (intro wq hSw; clear hSw; go_simp; try with_reducible rfl)
  try simp only [List.getElem_toArray, List.getElem_cons_zero, List.getElem_cons_succ, Act.put, List.setIfInBounds_toArray, List.set_cons_zero, List.set_cons_succ]
  refine wpAnyH_done (by kernel_rfl) ?_ _
  go_wp2_with fail
  have hrow : (w.alloc (.cells (brd12 F) 123)).drew.heap[w.heap.size]? = some (.cells (brd12 F) 123 (0, 0)) := heap_alloc_new w (.cells (brd12 F) 123)
  have hBW : Below w.heap.size w (w.alloc (.cells (brd12 F) 123)).drew := ((Below.refl w.heap.size w).alloc (Nat.le_refl _) _).drew
  have hWs : (w.alloc (.cells (brd12 F) 123)).drew.heap.size = w.heap.size + 1 := by simp
  clear hHeld
  generalize (w.alloc (.cells (brd12 F) 123)).drew = W at *
  go_loopw [5, 59] (fun l i wr => ∃ k : Nat, k ≤ 12 ∧ i = .int .i64 (k : Int) ∧ wr.ownsRow W.heap.size 5 1 l (8 * k) (bytesOf F k) ∧ wr.heap[w.heap.size]? = some (.cells (brd12 F) 123 (0, 0)) ∧ Below W.heap.size W wr) (fun _ i _ => (12 - intOf i).toNat)
  case atStart => exact ⟨0, by omega, rfl, World.ownsRow_nil _ _ _ _, hrow, Below.refl _ _⟩
  case round =>
    obtain ⟨k, hk, rfl, hown, hrr, hbr⟩ := hrel
    clear hrow
    by_cases hlt : k < 12
    · have hc : wr.cell? ⟨w.heap.size, k, none⟩ = some (bbv (F k)) := (cell_of_row wr w.heap.size k _ _ _ hrr).trans (brd12_get F k hlt)
      have hsz := hbr.size
      go_wp2_with (go_at_call 117; refine (bb_append (F k) _ _ _ _ _ hown hsz (by omega)).mono ?_; rintro e1 w1 ⟨v1, rfl, hown1, hb1⟩)
      go_roundw
      case rel =>
        have R : ∃ k' : Nat, k' ≤ 12 ∧ Value.int .i64 ((k : Int) + 1) = .int .i64 (k' : Int) ∧ w1.ownsRow W.heap.size 5 1 v1 (8 * k') (bytesOf F k') ∧ w1.heap[w.heap.size]? = some (.cells (brd12 F) 123 (0, 0)) ∧ Below W.heap.size W w1 := ⟨k + 1, by omega, by go_num, by rw [bytesOf_step, show 8 * (k + 1) = 8 * k + 8 by omega]; exact hown1, (hb1.block _ (by omega)).trans hrr, hbr.trans hb1⟩
        first | exact R | ((repeat apply Exists.intro); exact ⟨R, rfl⟩)
      case measure => simp [intOf]; omega
    · obtain rfl : k = 12 := by omega
      go_wp2_with fail
      go_ret2
      exact ⟨_, rfl, own_mono hown (by omega), hBW.trans (hbr.mono (by omega))⟩
end Go.Proofs.YtplkcmlpomjojaaGreatDoor
