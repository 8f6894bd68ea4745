/- A text that is built piece by piece beside a list of texts (strings.Builder), and the eight parts of a move's text as the package keeps them. The texts have at most 200 bytes. (Printed by gen_qg.py.) -/
import Derived.Test.YtnpklkenjaambaaDoorQf
import Derived.Test.YtnpklkenjaambaaDoorQd
import Derived.Test.YtnpklkenjaambaaDoorShelf
import Derived.Shelf.Strings.BuilderK
namespace Go.Proofs.YtnpklkenjaambaaDoor
open Go Go.RowKit
set_option maxHeartbeats 8000000
set_option linter.unusedSimpArgs false
set_option linter.unusedVariables false
set_option maxRecDepth 100000

def strsV (l : List (List UInt8)) : List Value := l.map fun x => Value.string (bs x)
theorem strsV_one (l : List (List UInt8)) : ∀ q ∈ strsV l, q.oneCell' = true := by
  intro q hq
  unfold strsV at hq
  obtain ⟨r, _, rfl⟩ := List.mem_map.1 hq
  rfl
theorem strsV_app (l : List (List UInt8)) (x : List UInt8) : strsV l ++ [.string (bs x)] = strsV (l ++ [x]) := by simp [strsV]
theorem strsV_len (l : List (List UInt8)) : (strsV l).length = l.length := by simp [strsV]
theorem strCells_bs (s : List UInt8) : Lib.strCells (bs s) = Lib.byteCells s := by simp [Lib.strCells, Lib.byteCells, bs]
theorem byteCells_app (t s : List UInt8) : Lib.byteCells t ++ Lib.byteCells s = Lib.byteCells (t ++ s) := by simp [Lib.byteCells]
/-- A text under way in the builder of block b. -/
def Bld (b : Nat) (t : List UInt8) (W : World) : Prop := Lib.IsBuilderF 86 5 b b (Lib.byteCells t) W
/-- A row of other things than bytes stays while the builder is written. -/
theorem own_others {w w' : World} {base b : Nat} {e e5 : TypeId} {v : Value} {n : Nat} {xs : List Value} (h : w.ownsRow base e 1 v n xs) (hk : Lib.OthersKept e5 (some b) w w') (hb : b < base) (he : e ≠ e5) : w'.ownsRow base e 1 v n xs := by
  obtain ⟨h1, h2 | ⟨g, cap, cur, hv, hg, hrow, r⟩⟩ := h
  · exact ⟨h1, Or.inl h2⟩
  · refine ⟨h1, Or.inr ⟨g, cap, cur, hv, hg, hk g _ hrow (by simp; omega) ?_, r⟩⟩
    intro c fz hc
    injection hc with _ h _
    exact he h
/-- The eight parts in block n, the list of texts in block n + 1, the builder in block n + 2. -/
structure GoSt (n : Nat) (w : World) (l : List (List UInt8)) (v : Value) (xs : List (List UInt8)) (W : World) : Prop where
  len : l.length = 8
  r0 : W.heap[n]? = some (.cells (strsR l) 70 (0, 0))
  r1 : W.heap[n + 1]? = some (.cells #[v] 25 (0, 0))
  own : W.ownsRow (n + 3) 9 1 v xs.length (strsV xs)
  bel : Below n w W
  sz : n + 3 ≤ W.heap.size
theorem GoSt.drew {n : Nat} {w : World} {l : List (List UInt8)} {v : Value} {xs : List (List UInt8)} {W : World} (h : GoSt n w l v xs W) : GoSt n w l v xs W.drew := ⟨h.len, h.r0, h.r1, h.own, h.bel.drew, h.sz⟩
theorem Bld.drew {b : Nat} {t : List UInt8} {W : World} (h : Bld b t W) : Bld b t W.drew := h
theorem GoSt.step {n : Nat} {w : World} {l : List (List UInt8)} {v : Value} {xs : List (List UInt8)} {W W' : World} (h : GoSt n w l v xs W) (hb : Below (n + 2) W W') (hk : Lib.OthersKept 5 (some (n + 2)) W W') : GoSt n w l v xs W' :=
  ⟨h.len, (hb.block n (by omega)).trans h.r0, (hb.block (n + 1) (by omega)).trans h.r1, own_others h.own hk (by omega) (by decide), h.bel.trans (hb.mono (by omega)), Nat.le_trans h.sz hb.size⟩
theorem qg_write {n : Nat} {w : World} {l : List (List UInt8)} {v : Value} {xs : List (List UInt8)} {W : World} (t s : List UInt8) (h : GoSt n w l v xs W) (hb : Bld (n + 2) t W) (hl : t.length + s.length ≤ 100000) :
    Calls Tryd.prog 48 #[.pointer (some ⟨n + 2, 0, none⟩), .string (bs s)] W fun e W' => e = .returned (.tuple #[.int .i64 s.length, .nilIface]) ∧ GoSt n w l v xs W' ∧ Bld (n + 2) (t ++ s) W' := by
  have hsz := h.sz
  refine (Any.Builder_WriteString_k { Tryd.lays159 with } Tryd.Builder_Extra_159 (n + 2) (n + 2) (Lib.byteCells t) (bs s) W hb ?_ (by omega)).mono ?_
  · rw [bs_size, Lib.byteCells_length]
    omega
  · rintro e W' ⟨rfl, hA, hB, hK⟩
    rw [strCells_bs, byteCells_app] at hA
    exact ⟨by rw [bs_size], h.step hB hK, Or.inr hA⟩
theorem qg_string {n : Nat} {w : World} {l : List (List UInt8)} {v : Value} {xs : List (List UInt8)} {W : World} (t : List UInt8) (h : GoSt n w l v xs W) (hb : Bld (n + 2) t W) :
    Calls Tryd.prog 49 #[.pointer (some ⟨n + 2, 0, none⟩)] W fun e W' => e = .returned (.string (bs t)) ∧ GoSt n w l v xs W' ∧ Bld (n + 2) t W' := by
  have hsz := h.sz
  refine (Any.Builder_String_any_k { Tryd.lays159 with } Tryd.Builder_Extra_159 (n + 2) (n + 2) t W hb (by omega)).mono ?_
  rintro e W' ⟨rfl, hA, hB, hK⟩
  exact ⟨rfl, h.step hB hK, hA⟩
/-- A builder's block, whatever it holds. -/
def BldAny (b : Nat) (W : World) : Prop := ∃ p v, W.heap[b]? = some (.cells #[p, v] 86 (0, 0))
theorem Bld.any {b : Nat} {t : List UInt8} {W : World} (h : Bld b t W) : BldAny b W := by
  rcases h with ⟨_, v, hv, _⟩ | ⟨_, v, hv, _⟩
  · exact ⟨_, v, hv⟩
  · exact ⟨_, v, hv⟩
theorem qg_reset {n : Nat} {w : World} {l : List (List UInt8)} {v : Value} {xs : List (List UInt8)} {W : World} (h : GoSt n w l v xs W) (hb : BldAny (n + 2) W) :
    Calls Tryd.prog 47 #[.pointer (some ⟨n + 2, 0, none⟩)] W fun e W' => e = .returned (.tuple #[]) ∧ GoSt n w l v xs W' ∧ Bld (n + 2) [] W' := by
  obtain ⟨p, u, hu⟩ := hb
  have c0 := cell_of_row W (n + 2) 0 _ _ _ hu
  have f0 := frozen_of_row W (n + 2) 0 _ _ hu
  have h1 := heap_setCell_same W (n + 2) 0 _ _ (.pointer none) hu
  have c1 := cell_of_row _ (n + 2) 1 _ _ _ h1
  have f1 := frozen_of_row _ (n + 2) 1 _ _ h1
  have h2 := heap_setCell_same _ (n + 2) 1 _ _ (.slice none 0 0) h1
  have hbel : Below (n + 2) W ((W.setCell ⟨n + 2, 0, none⟩ (.pointer none)).setCell ⟨n + 2, 1, none⟩ (.slice none 0 0)) := ((Below.refl _ _).setCell (p := ⟨n + 2, 0, none⟩) (Nat.le_refl _) _).setCell (p := ⟨n + 2, 1, none⟩) (Nat.le_refl _) _
  have hk : Lib.OthersKept 5 (some (n + 2)) W ((W.setCell ⟨n + 2, 0, none⟩ (.pointer none)).setCell ⟨n + 2, 1, none⟩ (.slice none 0 0)) := ((Lib.OthersKept.refl _ _ W).setCell ⟨n + 2, 0, none⟩ rfl _).setCell ⟨n + 2, 1, none⟩ rfl _
  go_enter Tryd.func47, Tryd.ntmps47
  go_wp2_with fail
  go_end0
  exact ⟨rfl, h.step hbel hk, Or.inl ⟨Nat.le_refl _, .slice none 0 0, h2, World.ownsRowF_nil _ _ _ _, by simp [Value.ownBlock]⟩⟩
/-- The eight parts. -/
def eightL (T : List UInt8) (b c d : Nat) : List (List UInt8) := [T.take 1] ++ partsL T 1 b c d ++ [[]]
theorem eight_len (T : List UInt8) (b c d : Nat) : (eightL T b c d).length = 8 := rfl
theorem eight_at (T : List UInt8) (b c d k : Nat) (hk : k < 8) : (tenL T b c d).getD (k + 1) [] = (eightL T b c d).getD k [] := by
  unfold tenL eightL
  have h : (partsL T 1 b c d).length = 6 := parts_len T 1 b c d
  generalize partsL T 1 b c d = P at *
  match P, h with
  | [p0, p1, p2, p3, p4, p5], _ =>
    match k, hk with
    | 0, _ => rfl
    | 1, _ => rfl
    | 2, _ => rfl
    | 3, _ => rfl
    | 4, _ => rfl
    | 5, _ => rfl
    | 6, _ => rfl
    | 7, _ => rfl

theorem qg_parts (T : List UInt8) (b c d : Nat) (hl : T.length ≤ 200) (hb : b ≤ 1) (hc : c ≤ 1) (hd : d ≤ 1) (hp : atB pcsL T 0 = true) (hok : okC T 1 b c d = true) (hpr : prL T (1 + b + c + d + 2) = 0) (htl : tailB (T.drop (1 + b + c + d + 2)) = true) (w : World) :
    Calls Tryd.prog 38 #[.string (bs T)] w fun e w' => e = .returned (.tuple #[.agg (strsR (eightL T b c d)), .nilIface]) ∧ Below w.heap.size w w' := by
  have hsan := qlay (qf_san T b c d hl hb hc hd hp hok hpr htl)
  have h8 := qlay (eight_at T b c d)
  have hlen := eight_len T b c d
  clear hp hok hpr htl
  generalize tenL T b c d = L10 at *
  generalize eightL T b c d = l at *
  go_enter Tryd.func38, Tryd.ntmps38
  go_wp2_with fail
  refine (hsan.out _).mono ?_
  rintro e w1 ⟨g, rfl, hcell, hg0, hg1, hbel⟩
  obtain ⟨p0, p1, p2, p3, p4, p5, p6, p7, rfl⟩ : ∃ p0 p1 p2 p3 p4 p5 p6 p7, l = [p0, p1, p2, p3, p4, p5, p6, p7] := by
    match l, hlen with
    | [p0, p1, p2, p3, p4, p5, p6, p7], _ => exact ⟨p0, p1, p2, p3, p4, p5, p6, p7, rfl⟩
  have c0 : w1.drew.cell? ⟨g, 1, none⟩ = some (.string (bs p0)) := by have h := hcell 1 (by omega); rw [h8.out 0 (by omega)] at h; exact h
  have c1 : w1.drew.cell? ⟨g, 2, none⟩ = some (.string (bs p1)) := by have h := hcell 2 (by omega); rw [h8.out 1 (by omega)] at h; exact h
  have c2 : w1.drew.cell? ⟨g, 3, none⟩ = some (.string (bs p2)) := by have h := hcell 3 (by omega); rw [h8.out 2 (by omega)] at h; exact h
  have c3 : w1.drew.cell? ⟨g, 4, none⟩ = some (.string (bs p3)) := by have h := hcell 4 (by omega); rw [h8.out 3 (by omega)] at h; exact h
  have c4 : w1.drew.cell? ⟨g, 5, none⟩ = some (.string (bs p4)) := by have h := hcell 5 (by omega); rw [h8.out 4 (by omega)] at h; exact h
  have c5 : w1.drew.cell? ⟨g, 6, none⟩ = some (.string (bs p5)) := by have h := hcell 6 (by omega); rw [h8.out 5 (by omega)] at h; exact h
  have c6 : w1.drew.cell? ⟨g, 7, none⟩ = some (.string (bs p6)) := by have h := hcell 7 (by omega); rw [h8.out 6 (by omega)] at h; exact h
  have c7 : w1.drew.cell? ⟨g, 8, none⟩ = some (.string (bs p7)) := by have h := hcell 8 (by omega); rw [h8.out 7 (by omega)] at h; exact h
  have hres : Shut (w1.drew.heap[w.heap.size]? = some (.cells (strsR [[], [], [], [], [], [], [], []]) 70 (0, 0))) := (hbel.block w.heap.size (by simp)).trans (heap_alloc_new w _)
  have hgw : Shut (g ≠ w.heap.size) := by show _ ≠ _; simp at hg0; omega
  have hb1 : Shut (Below w.heap.size w w1.drew) := (((Below.refl _ _).alloc (Nat.le_refl _) _).trans (hbel.mono (by simp))).drew
  clear hcell hsan h8 hg0 hg1 hbel hlen
  go_upto_region 4 with fail
  refine wp_region_held_drew (S := fun V : World => V.cell? ⟨g, 1, none⟩ = some (.string (bs p0)) ∧ V.cell? ⟨g, 2, none⟩ = some (.string (bs p1)) ∧ V.cell? ⟨g, 3, none⟩ = some (.string (bs p2)) ∧ V.cell? ⟨g, 4, none⟩ = some (.string (bs p3)) ∧ V.cell? ⟨g, 5, none⟩ = some (.string (bs p4)) ∧ V.cell? ⟨g, 6, none⟩ = some (.string (bs p5)) ∧ V.cell? ⟨g, 7, none⟩ = some (.string (bs p6)) ∧ V.cell? ⟨g, 8, none⟩ = some (.string (bs p7))) (by kernel_rfl) ⟨c0, c1, c2, c3, c4, c5, c6, c7⟩ (fun hHeld => ?_)
  refine wpAnyH_take (i := 0) (v := ?vqg_1_0) rfl (by kernel_rfl) (by kernel_rfl) (by kernel_rfl) (fun _ _ _ h => h) (Or.inl ⟨by rfl, ?yqg_1_0⟩) hHeld ?rqg_1_0
  case yqg_1_0 => (intro wq hSw; clear hSw; go_simp; try with_reducible rfl)
  try simp only [List.getElem_toArray, List.getElem_cons_zero, List.getElem_cons_succ, Act.put, List.setIfInBounds_toArray, List.set_cons_zero, List.set_cons_succ]
  refine wpAnyH_take (i := 1) (v := ?vqg_2_1) rfl (by kernel_rfl) (by kernel_rfl) (by kernel_rfl) (fun _ _ _ h => h) (Or.inl ⟨by rfl, ?yqg_2_1⟩) hHeld ?rqg_2_1
  case yqg_2_1 => (intro wq hSw; clear hSw; go_simp; try with_reducible rfl)
  try simp only [List.getElem_toArray, List.getElem_cons_zero, List.getElem_cons_succ, Act.put, List.setIfInBounds_toArray, List.set_cons_zero, List.set_cons_succ]
  refine wpAnyH_take (i := 2) (v := ?vqg_3_2) rfl (by kernel_rfl) (by kernel_rfl) (by kernel_rfl) (fun _ _ _ h => h) (Or.inl ⟨by rfl, ?yqg_3_2⟩) hHeld ?rqg_3_2
  case yqg_3_2 => (intro wq hSw; have hq := hSw.1; clear hSw; go_simp; try with_reducible rfl)
  try simp only [List.getElem_toArray, List.getElem_cons_zero, List.getElem_cons_succ, Act.put, List.setIfInBounds_toArray, List.set_cons_zero, List.set_cons_succ]
  refine wpAnyH_take (i := 3) (v := ?vqg_4_3) rfl (by kernel_rfl) (by kernel_rfl) (by kernel_rfl) (fun _ _ _ h => h) (Or.inl ⟨by rfl, ?yqg_4_3⟩) hHeld ?rqg_4_3
  case yqg_4_3 => (intro wq hSw; clear hSw; go_simp; try with_reducible rfl)
  try simp only [List.getElem_toArray, List.getElem_cons_zero, List.getElem_cons_succ, Act.put, List.setIfInBounds_toArray, List.set_cons_zero, List.set_cons_succ]
  refine wpAnyH_take (i := 4) (v := ?vqg_5_4) rfl (by kernel_rfl) (by kernel_rfl) (by kernel_rfl) (fun _ _ _ h => h) (Or.inl ⟨by rfl, ?yqg_5_4⟩) hHeld ?rqg_5_4
  case yqg_5_4 => (intro wq hSw; clear hSw; go_simp; try with_reducible rfl)
  try simp only [List.getElem_toArray, List.getElem_cons_zero, List.getElem_cons_succ, Act.put, List.setIfInBounds_toArray, List.set_cons_zero, List.set_cons_succ]
  refine wpAnyH_take (i := 5) (v := ?vqg_6_5) rfl (by kernel_rfl) (by kernel_rfl) (by kernel_rfl) (fun _ _ _ h => h) (Or.inl ⟨by rfl, ?yqg_6_5⟩) hHeld ?rqg_6_5
  case yqg_6_5 => (intro wq hSw; have hq := hSw.2.1; clear hSw; go_simp; try with_reducible rfl)
  try simp only [List.getElem_toArray, List.getElem_cons_zero, List.getElem_cons_succ, Act.put, List.setIfInBounds_toArray, List.set_cons_zero, List.set_cons_succ]
  refine wpAnyH_take (i := 6) (v := ?vqg_7_6) rfl (by kernel_rfl) (by kernel_rfl) (by kernel_rfl) (fun _ _ _ h => h) (Or.inl ⟨by rfl, ?yqg_7_6⟩) hHeld ?rqg_7_6
  case yqg_7_6 => (intro wq hSw; clear hSw; go_simp; try with_reducible rfl)
  try simp only [List.getElem_toArray, List.getElem_cons_zero, List.getElem_cons_succ, Act.put, List.setIfInBounds_toArray, List.set_cons_zero, List.set_cons_succ]
  refine wpAnyH_take (i := 7) (v := ?vqg_8_7) rfl (by kernel_rfl) (by kernel_rfl) (by kernel_rfl) (fun _ _ _ h => h) (Or.inl ⟨by rfl, ?yqg_8_7⟩) hHeld ?rqg_8_7
  case yqg_8_7 => (intro wq hSw; clear hSw; go_simp; try with_reducible rfl)
  try simp only [List.getElem_toArray, List.getElem_cons_zero, List.getElem_cons_succ, Act.put, List.setIfInBounds_toArray, List.set_cons_zero, List.set_cons_succ]
  refine wpAnyH_take (i := 8) (v := ?vqg_9_8) rfl (by kernel_rfl) (by kernel_rfl) (by kernel_rfl) (fun _ _ _ h => h) (Or.inl ⟨by rfl, ?yqg_9_8⟩) hHeld ?rqg_9_8
  case yqg_9_8 => (intro wq hSw; have hq := hSw.2.2.1; clear hSw; go_simp; try with_reducible rfl)
  try simp only [List.getElem_toArray, List.getElem_cons_zero, List.getElem_cons_succ, Act.put, List.setIfInBounds_toArray, List.set_cons_zero, List.set_cons_succ]
  refine wpAnyH_take (i := 9) (v := ?vqg_10_9) rfl (by kernel_rfl) (by kernel_rfl) (by kernel_rfl) (fun _ _ _ h => h) (Or.inl ⟨by rfl, ?yqg_10_9⟩) hHeld ?rqg_10_9
  case yqg_10_9 => (intro wq hSw; clear hSw; go_simp; try with_reducible rfl)
  try simp only [List.getElem_toArray, List.getElem_cons_zero, List.getElem_cons_succ, Act.put, List.setIfInBounds_toArray, List.set_cons_zero, List.set_cons_succ]
  refine wpAnyH_take (i := 10) (v := ?vqg_11_10) rfl (by kernel_rfl) (by kernel_rfl) (by kernel_rfl) (fun _ _ _ h => h) (Or.inl ⟨by rfl, ?yqg_11_10⟩) hHeld ?rqg_11_10
  case yqg_11_10 => (intro wq hSw; clear hSw; go_simp; try with_reducible rfl)
  try simp only [List.getElem_toArray, List.getElem_cons_zero, List.getElem_cons_succ, Act.put, List.setIfInBounds_toArray, List.set_cons_zero, List.set_cons_succ]
  refine wpAnyH_take (i := 11) (v := ?vqg_12_11) rfl (by kernel_rfl) (by kernel_rfl) (by kernel_rfl) (fun _ _ _ h => h) (Or.inl ⟨by rfl, ?yqg_12_11⟩) hHeld ?rqg_12_11
  case yqg_12_11 => (intro wq hSw; have hq := hSw.2.2.2.1; clear hSw; go_simp; try with_reducible rfl)
  try simp only [List.getElem_toArray, List.getElem_cons_zero, List.getElem_cons_succ, Act.put, List.setIfInBounds_toArray, List.set_cons_zero, List.set_cons_succ]
  refine wpAnyH_take (i := 12) (v := ?vqg_13_12) rfl (by kernel_rfl) (by kernel_rfl) (by kernel_rfl) (fun _ _ _ h => h) (Or.inl ⟨by rfl, ?yqg_13_12⟩) hHeld ?rqg_13_12
  case yqg_13_12 => (intro wq hSw; clear hSw; go_simp; try with_reducible rfl)
  try simp only [List.getElem_toArray, List.getElem_cons_zero, List.getElem_cons_succ, Act.put, List.setIfInBounds_toArray, List.set_cons_zero, List.set_cons_succ]
  refine wpAnyH_take (i := 13) (v := ?vqg_14_13) rfl (by kernel_rfl) (by kernel_rfl) (by kernel_rfl) (fun _ _ _ h => h) (Or.inl ⟨by rfl, ?yqg_14_13⟩) hHeld ?rqg_14_13
  case yqg_14_13 => (intro wq hSw; clear hSw; go_simp; try with_reducible rfl)
  try simp only [List.getElem_toArray, List.getElem_cons_zero, List.getElem_cons_succ, Act.put, List.setIfInBounds_toArray, List.set_cons_zero, List.set_cons_succ]
  refine wpAnyH_take (i := 14) (v := ?vqg_15_14) rfl (by kernel_rfl) (by kernel_rfl) (by kernel_rfl) (fun _ _ _ h => h) (Or.inl ⟨by rfl, ?yqg_15_14⟩) hHeld ?rqg_15_14
  case yqg_15_14 => (intro wq hSw; have hq := hSw.2.2.2.2.1; clear hSw; go_simp; try with_reducible rfl)
  try simp only [List.getElem_toArray, List.getElem_cons_zero, List.getElem_cons_succ, Act.put, List.setIfInBounds_toArray, List.set_cons_zero, List.set_cons_succ]
  refine wpAnyH_take (i := 15) (v := ?vqg_16_15) rfl (by kernel_rfl) (by kernel_rfl) (by kernel_rfl) (fun _ _ _ h => h) (Or.inl ⟨by rfl, ?yqg_16_15⟩) hHeld ?rqg_16_15
  case yqg_16_15 => (intro wq hSw; clear hSw; go_simp; try with_reducible rfl)
  try simp only [List.getElem_toArray, List.getElem_cons_zero, List.getElem_cons_succ, Act.put, List.setIfInBounds_toArray, List.set_cons_zero, List.set_cons_succ]
  refine wpAnyH_take (i := 16) (v := ?vqg_17_16) rfl (by kernel_rfl) (by kernel_rfl) (by kernel_rfl) (fun _ _ _ h => h) (Or.inl ⟨by rfl, ?yqg_17_16⟩) hHeld ?rqg_17_16
  case yqg_17_16 => (intro wq hSw; clear hSw; go_simp; try with_reducible rfl)
  try simp only [List.getElem_toArray, List.getElem_cons_zero, List.getElem_cons_succ, Act.put, List.setIfInBounds_toArray, List.set_cons_zero, List.set_cons_succ]
  refine wpAnyH_take (i := 17) (v := ?vqg_18_17) rfl (by kernel_rfl) (by kernel_rfl) (by kernel_rfl) (fun _ _ _ h => h) (Or.inl ⟨by rfl, ?yqg_18_17⟩) hHeld ?rqg_18_17
  case yqg_18_17 => (intro wq hSw; have hq := hSw.2.2.2.2.2.1; clear hSw; go_simp; try with_reducible rfl)
  try simp only [List.getElem_toArray, List.getElem_cons_zero, List.getElem_cons_succ, Act.put, List.setIfInBounds_toArray, List.set_cons_zero, List.set_cons_succ]
  refine wpAnyH_take (i := 18) (v := ?vqg_19_18) rfl (by kernel_rfl) (by kernel_rfl) (by kernel_rfl) (fun _ _ _ h => h) (Or.inl ⟨by rfl, ?yqg_19_18⟩) hHeld ?rqg_19_18
  case yqg_19_18 => (intro wq hSw; clear hSw; go_simp; try with_reducible rfl)
  try simp only [List.getElem_toArray, List.getElem_cons_zero, List.getElem_cons_succ, Act.put, List.setIfInBounds_toArray, List.set_cons_zero, List.set_cons_succ]
  refine wpAnyH_take (i := 19) (v := ?vqg_20_19) rfl (by kernel_rfl) (by kernel_rfl) (by kernel_rfl) (fun _ _ _ h => h) (Or.inl ⟨by rfl, ?yqg_20_19⟩) hHeld ?rqg_20_19
  case yqg_20_19 => (intro wq hSw; clear hSw; go_simp; try with_reducible rfl)
  try simp only [List.getElem_toArray, List.getElem_cons_zero, List.getElem_cons_succ, Act.put, List.setIfInBounds_toArray, List.set_cons_zero, List.set_cons_succ]
  refine wpAnyH_take (i := 20) (v := ?vqg_21_20) rfl (by kernel_rfl) (by kernel_rfl) (by kernel_rfl) (fun _ _ _ h => h) (Or.inl ⟨by rfl, ?yqg_21_20⟩) hHeld ?rqg_21_20
  case yqg_21_20 => (intro wq hSw; have hq := hSw.2.2.2.2.2.2.1; clear hSw; go_simp; try with_reducible rfl)
  try simp only [List.getElem_toArray, List.getElem_cons_zero, List.getElem_cons_succ, Act.put, List.setIfInBounds_toArray, List.set_cons_zero, List.set_cons_succ]
  refine wpAnyH_take (i := 21) (v := ?vqg_22_21) rfl (by kernel_rfl) (by kernel_rfl) (by kernel_rfl) (fun _ _ _ h => h) (Or.inl ⟨by rfl, ?yqg_22_21⟩) hHeld ?rqg_22_21
  case yqg_22_21 => (intro wq hSw; clear hSw; go_simp; try with_reducible rfl)
  try simp only [List.getElem_toArray, List.getElem_cons_zero, List.getElem_cons_succ, Act.put, List.setIfInBounds_toArray, List.set_cons_zero, List.set_cons_succ]
  refine wpAnyH_take (i := 22) (v := ?vqg_23_22) rfl (by kernel_rfl) (by kernel_rfl) (by kernel_rfl) (fun _ _ _ h => h) (Or.inl ⟨by rfl, ?yqg_23_22⟩) hHeld ?rqg_23_22
  case yqg_23_22 => (intro wq hSw; clear hSw; go_simp; try with_reducible rfl)
  try simp only [List.getElem_toArray, List.getElem_cons_zero, List.getElem_cons_succ, Act.put, List.setIfInBounds_toArray, List.set_cons_zero, List.set_cons_succ]
  refine wpAnyH_take (i := 23) (v := ?vqg_24_23) rfl (by kernel_rfl) (by kernel_rfl) (by kernel_rfl) (fun _ _ _ h => h) (Or.inl ⟨by rfl, ?yqg_24_23⟩) hHeld ?rqg_24_23
  case yqg_24_23 => (intro wq hSw; have hq := hSw.2.2.2.2.2.2.2; clear hSw; go_simp; try with_reducible rfl)
  try simp only [List.getElem_toArray, List.getElem_cons_zero, List.getElem_cons_succ, Act.put, List.setIfInBounds_toArray, List.set_cons_zero, List.set_cons_succ]
  refine wpAnyH_take (i := 24) (v := ?vqg_25_24) rfl (by kernel_rfl) (by kernel_rfl) (by kernel_rfl) (fun _ _ _ h => h) (Or.inl ⟨by rfl, ?yqg_25_24⟩) hHeld ?rqg_25_24
  case yqg_25_24 => (intro wq hSw; clear hSw; go_simp; try with_reducible rfl)
  try simp only [List.getElem_toArray, List.getElem_cons_zero, List.getElem_cons_succ, Act.put, List.setIfInBounds_toArray, List.set_cons_zero, List.set_cons_succ]
  refine wpAnyH_ready (rs := [25]) (by kernel_rfl) (by simp) ?_
  refine AllReadyH.cons rfl (fun K hK => ?_) AllReadyH.nil
  try simp only [List.getElem_toArray, List.getElem_cons_zero, List.getElem_cons_succ, Act.put, List.setIfInBounds_toArray, List.set_cons_zero, List.set_cons_succ]
  rw [if_pos (by rfl)]
  refine wp_store_row 70 _ _ rfl w.heap.size (strsR [p0, p1, p2, p3, p4, p5, p6, p7]) (by rfl) (by rfl) 70 _ hres.out (by kernel_rfl) rfl (strsR_one _) ?_
  refine hK.out _ _ ⟨by rw [World.cell?, setRow_other _ _ _ _ hgw.out]; exact hHeld.1, by rw [World.cell?, setRow_other _ _ _ _ hgw.out]; exact hHeld.2.1, by rw [World.cell?, setRow_other _ _ _ _ hgw.out]; exact hHeld.2.2.1, by rw [World.cell?, setRow_other _ _ _ _ hgw.out]; exact hHeld.2.2.2.1, by rw [World.cell?, setRow_other _ _ _ _ hgw.out]; exact hHeld.2.2.2.2.1, by rw [World.cell?, setRow_other _ _ _ _ hgw.out]; exact hHeld.2.2.2.2.2.1, by rw [World.cell?, setRow_other _ _ _ _ hgw.out]; exact hHeld.2.2.2.2.2.2.1, by rw [World.cell?, setRow_other _ _ _ _ hgw.out]; exact hHeld.2.2.2.2.2.2.2⟩ (fun hHeld => ?_)
  clear hK K
  try simp only [List.getElem_toArray, List.getElem_cons_zero, List.getElem_cons_succ, Act.put, List.setIfInBounds_toArray, List.set_cons_zero, List.set_cons_succ]
  refine wpAnyH_take (i := 26) (v := ?vqg_26_26) rfl (by kernel_rfl) (by kernel_rfl) (by kernel_rfl) (fun _ _ _ h => h) (Or.inl ⟨by rfl, ?yqg_26_26⟩) hHeld ?rqg_26_26
  case yqg_26_26 => (intro wq hSw; clear hSw; go_simp; try with_reducible rfl)
  try simp only [List.getElem_toArray, List.getElem_cons_zero, List.getElem_cons_succ, Act.put, List.setIfInBounds_toArray, List.set_cons_zero, List.set_cons_succ]
  refine wpAnyH_done (by kernel_rfl) ?_ _
  go_wp2_with fail
  exact bodyPost_ret (results_cell_tmp rfl _ _ w.heap.size 70 (strsR [p0, p1, p2, p3, p4, p5, p6, p7]) (0, 0) _ rfl (setRow_heap _ _ _ _ _ _ hres.out) Tryd.underlying70 rfl (by kernel_rfl) .nilIface rfl) rfl ⟨rfl, below_setRow' hb1.out (Nat.le_refl _) _⟩
end Go.Proofs.YtnpklkenjaambaaDoor
